import PyProof.Rows.All
import Wide.All
import OpenK.AllK
import Wide.FinOn
import PySem.Challenge.RW_tl0050_01
set_option Elab.async false
-- HeadA
section
open PySem PySem.W PyProof.Rows
set_option maxRecDepth 100000
set_option maxHeartbeats 0
namespace Mine
abbrev pw : Program := PySem.Challenge.pw_tl0050_01
noncomputable def bE : List Stmt := behindTheImports pw
/-- the text's own defs: the i-th statement of the top; the j-th of the class at i -/
noncomputable def fnT (i : Nat) : Arguments × List Stmt × Scope := match (pw.main.body[i]? : Option Stmt) with
  | some (Stmt.FunctionDef _ a b _ _ _ sc _ _ _) => (a, b, sc)
  | _ => default
noncomputable def fnC (i j : Nat) : Arguments × List Stmt × Scope := match (pw.main.body[i]? : Option Stmt) with
  | some (Stmt.ClassDef _ _ _ b _ _ _ _ _ _ _) => match (b[j]? : Option Stmt) with
    | some (Stmt.FunctionDef _ a b _ _ _ sc _ _ _) => (a, b, sc)
    | _ => default
  | _ => default
abbrev aOf (x : Arguments × List Stmt × Scope) {a : Arguments} {b : List Stmt} {c : Scope} (_ : x = (a, b, c)) : Arguments := a
abbrev bOf (x : Arguments × List Stmt × Scope) {a : Arguments} {b : List Stmt} {c : Scope} (_ : x = (a, b, c)) : List Stmt := b
abbrev cOf (x : Arguments × List Stmt × Scope) {a : Arguments} {b : List Stmt} {c : Scope} (_ : x = (a, b, c)) : Scope := c
noncomputable abbrev A0 : Arguments := aOf (fnT 0) rfl
noncomputable abbrev B0 : List Stmt := bOf (fnT 0) rfl
noncomputable abbrev C0 : Scope := cOf (fnT 0) rfl
noncomputable abbrev A5 : Arguments := aOf (fnT 5) rfl
noncomputable abbrev B5 : List Stmt := bOf (fnT 5) rfl
noncomputable abbrev C5 : Scope := cOf (fnT 5) rfl
noncomputable abbrev A7 : Arguments := aOf (fnT 7) rfl
noncomputable abbrev B7 : List Stmt := bOf (fnT 7) rfl
noncomputable abbrev C7 : Scope := cOf (fnT 7) rfl
noncomputable abbrev A8 : Arguments := aOf (fnT 8) rfl
noncomputable abbrev B8 : List Stmt := bOf (fnT 8) rfl
noncomputable abbrev C8 : Scope := cOf (fnT 8) rfl
noncomputable abbrev A9 : Arguments := aOf (fnT 9) rfl
noncomputable abbrev B9 : List Stmt := bOf (fnT 9) rfl
noncomputable abbrev C9 : Scope := cOf (fnT 9) rfl
noncomputable abbrev A12 : Arguments := aOf (fnT 12) rfl
noncomputable abbrev B12 : List Stmt := bOf (fnT 12) rfl
noncomputable abbrev C12 : Scope := cOf (fnT 12) rfl
noncomputable abbrev A14 : Arguments := aOf (fnT 14) rfl
noncomputable abbrev B14 : List Stmt := bOf (fnT 14) rfl
noncomputable abbrev C14 : Scope := cOf (fnT 14) rfl
noncomputable abbrev A16 : Arguments := aOf (fnT 16) rfl
noncomputable abbrev B16 : List Stmt := bOf (fnT 16) rfl
noncomputable abbrev C16 : Scope := cOf (fnT 16) rfl
noncomputable abbrev A17 : Arguments := aOf (fnT 17) rfl
noncomputable abbrev B17 : List Stmt := bOf (fnT 17) rfl
noncomputable abbrev C17 : Scope := cOf (fnT 17) rfl
noncomputable abbrev A18 : Arguments := aOf (fnT 18) rfl
noncomputable abbrev B18 : List Stmt := bOf (fnT 18) rfl
noncomputable abbrev C18 : Scope := cOf (fnT 18) rfl
noncomputable abbrev A19 : Arguments := aOf (fnT 19) rfl
noncomputable abbrev B19 : List Stmt := bOf (fnT 19) rfl
noncomputable abbrev C19 : Scope := cOf (fnT 19) rfl
noncomputable abbrev A20 : Arguments := aOf (fnT 20) rfl
noncomputable abbrev B20 : List Stmt := bOf (fnT 20) rfl
noncomputable abbrev C20 : Scope := cOf (fnT 20) rfl
noncomputable abbrev A21 : Arguments := aOf (fnT 21) rfl
noncomputable abbrev B21 : List Stmt := bOf (fnT 21) rfl
noncomputable abbrev C21 : Scope := cOf (fnT 21) rfl
noncomputable abbrev A22 : Arguments := aOf (fnT 22) rfl
noncomputable abbrev B22 : List Stmt := bOf (fnT 22) rfl
noncomputable abbrev C22 : Scope := cOf (fnT 22) rfl
noncomputable abbrev A23 : Arguments := aOf (fnT 23) rfl
noncomputable abbrev B23 : List Stmt := bOf (fnT 23) rfl
noncomputable abbrev C23 : Scope := cOf (fnT 23) rfl
noncomputable abbrev A24 : Arguments := aOf (fnT 24) rfl
noncomputable abbrev B24 : List Stmt := bOf (fnT 24) rfl
noncomputable abbrev C24 : Scope := cOf (fnT 24) rfl
noncomputable abbrev A2m1 : Arguments := aOf (fnC 2 1) rfl
noncomputable abbrev B2m1 : List Stmt := bOf (fnC 2 1) rfl
noncomputable abbrev C2m1 : Scope := cOf (fnC 2 1) rfl
noncomputable abbrev A2m2 : Arguments := aOf (fnC 2 2) rfl
noncomputable abbrev B2m2 : List Stmt := bOf (fnC 2 2) rfl
noncomputable abbrev C2m2 : Scope := cOf (fnC 2 2) rfl
noncomputable abbrev A2m3 : Arguments := aOf (fnC 2 3) rfl
noncomputable abbrev B2m3 : List Stmt := bOf (fnC 2 3) rfl
noncomputable abbrev C2m3 : Scope := cOf (fnC 2 3) rfl
noncomputable abbrev A2m4 : Arguments := aOf (fnC 2 4) rfl
noncomputable abbrev B2m4 : List Stmt := bOf (fnC 2 4) rfl
noncomputable abbrev C2m4 : Scope := cOf (fnC 2 4) rfl
noncomputable abbrev A2m5 : Arguments := aOf (fnC 2 5) rfl
noncomputable abbrev B2m5 : List Stmt := bOf (fnC 2 5) rfl
noncomputable abbrev C2m5 : Scope := cOf (fnC 2 5) rfl
noncomputable abbrev A2m6 : Arguments := aOf (fnC 2 6) rfl
noncomputable abbrev B2m6 : List Stmt := bOf (fnC 2 6) rfl
noncomputable abbrev C2m6 : Scope := cOf (fnC 2 6) rfl
noncomputable abbrev A2m7 : Arguments := aOf (fnC 2 7) rfl
noncomputable abbrev B2m7 : List Stmt := bOf (fnC 2 7) rfl
noncomputable abbrev C2m7 : Scope := cOf (fnC 2 7) rfl
noncomputable def keys13 : List (Option Expr) := match (pw.main.body[13]? : Option Stmt) with | some (Stmt.Assign _ (Expr.Dict ks _ _) _) => ks | _ => []
noncomputable def vals13 : List Expr := match (pw.main.body[13]? : Option Stmt) with | some (Stmt.Assign _ (Expr.Dict _ vs _) _) => vs | _ => []
def kvOf : Option Expr → Expr → Int × Str
  | some (Expr.Constant (.int k) _ _), Expr.Constant (.str v) _ _ => (k, v)
  | _, _ => (0, ⟨#[]⟩)
noncomputable def kvs13 : List (Int × Str) := (keys13.zip vals13).map fun x => kvOf x.1 x.2
noncomputable def dct (es : Array DictEntry) (ep : Nat) : Obj := ⟨.type "dict", none, .dict es ep, #[]⟩
/-- the entries that a long run of pairs lays, three tokens a pair -/
noncomputable def ent : Nat → List (Int × Str) → List DictEntry
  | _, [] => []
  | t, (k, v) :: r => ⟨hashInt k, .int k t, .str v (t + 1)⟩ :: ent (t + 3) r
/-- a short run: the pairs first (two tokens each), then the hashes -/
noncomputable def vals : Nat → List (Int × Str) → List (Value × Value)
  | _, [] => []
  | t, (k, v) :: r => (.int k t, .str v (t + 1)) :: vals (t + 2) r
noncomputable def entS (t : Nat) (kvs : List (Int × Str)) : List DictEntry := ((vals t kvs).zip kvs).map fun x => (⟨hashInt x.2.1, x.1.1, x.1.2⟩ : DictEntry)
noncomputable def subsOf : Nat → List (List (Int × Str)) → List Obj
  | _, [] => []
  | t, c :: r => dct (ent t c).toArray 17 :: subsOf (t + 51) r
noncomputable def c13 : List (Int × Str) := kvs13.take 17
noncomputable def cs13 : List (List (Int × Str)) := (List.range 37).map fun j => (kvs13.drop (17 * (j + 1))).take 17
noncomputable def cl13 : List (Int × Str) := kvs13.drop 646
noncomputable def es13 : List DictEntry := ent 407 (c13 ++ cs13.flatten) ++ entS (407 + 51 + 51 * 37) cl13
noncomputable def subs13 : List Obj := subsOf (407 + 51) cs13 ++ [dct (entS (407 + 51 + 51 * 37) cl13).toArray 4]
noncomputable def sub13 (j : Nat) : Obj := (subs13[j]?).getD default
end Mine
end
-- HeadDefs
section
open PySem PySem.W PyProof.Rows
set_option maxRecDepth 100000
set_option maxHeartbeats 0
namespace Mine
noncomputable def env : Env := { scope := pw.main.scope, locals := mainNs, globals := mainNs, cells := [], code := Value.ref 13, frame := some 14 }
noncomputable def cE : Code := .body bE env
noncomputable def q0 : Pos := Pos.mk 0 0 0 0
noncomputable def o11_pre (_ : Params) : Obj := Obj.mk (Value.type "tuple") none (Data.seq #[]) #[]
noncomputable def o12_pre (_ : Params) : Obj := Obj.mk Value.none none (Data.fields #[]) #[]
noncomputable def o13_pre (_ : Params) : Obj := Obj.mk (Value.type "code") none (Data.fields #[Value.str (Str.mk #[60, 109, 111, 100, 117, 108, 101, 62]) 182, Value.str (Str.mk #[60, 109, 111, 100, 117, 108, 101, 62]) 183, Value.str (Str.mk #[47, 99, 108, 97, 105, 109, 47, 99, 117, 116, 46, 112, 121]) 184, Value.int 1 0, Value.int 0 0, Value.int 0 0, Value.int 0 0, Value.int 0 0, Value.ref 11, Value.bool false, Value.int 181 0, Value.ref 12, Value.none, Value.none, Value.none, Value.none, Value.int 185 0, Value.int 1 0, Value.str (Str.mk #[47, 99, 108, 97, 105, 109, 47, 99, 117, 116, 46, 112, 121]) 186]) #[]
noncomputable def o14_pre (_ : Params) : Obj := Obj.mk (Value.type "frame") none Data.plain #[some (Value.ref 13), some (Value.ref 3), some (Value.ref 3), none, some (Value.str (Str.mk #[95, 95, 109, 97, 105, 110, 95, 95]) 164), none, some (Value.ref 0)]
noncomputable def T_pre (P : Params) : BT := (.node (boot_o_0 P) (.node (boot_o_1 P) (.node (boot_o_3 P) (.node (boot_o_7 P) .nil .nil) (.node (o11_pre P) .nil .nil)) (.node (boot_o_5 P) (.node (boot_o_9 P) .nil .nil) (.node (o13_pre P) .nil .nil))) (.node (boot_o_2 P) (.node (boot_o_4 P) (.node (boot_o_8 P) .nil .nil) (.node (o12_pre P) .nil .nil)) (.node (boot_o_6 P) (.node (boot_o_10 P) .nil .nil) (.node (o14_pre P) .nil .nil))))
noncomputable def T_0 (P : Params) : BT := (.node (boot_o_0 P) (.node (boot_o_1 P) (.node (boot_o_3 P) (.node (boot_o_7 P) .nil .nil) (.node (o11_pre P) .nil .nil)) (.node (boot_o_5 P) (.node (boot_o_9 P) .nil .nil) (.node (o13_pre P) .nil .nil))) (.node (boot_o_2 P) (.node (boot_o_4 P) (.node (boot_o_8 P) .nil .nil) (.node (o12_pre P) .nil .nil)) (.node (boot_o_6 P) (.node (boot_o_10 P) .nil .nil) (.node (o14_pre P) .nil .nil))))
noncomputable def o3_2 (P : Params) : Obj := Obj.mk (Value.type "dict") none (Data.dict #[DictEntry.mk (PyData.keyHash P (Str.mk #[95, 95, 110, 97, 109, 101, 95, 95])) (Value.str (Str.mk #[95, 95, 110, 97, 109, 101, 95, 95]) 165) (Value.str (Str.mk #[99, 112, 121, 51, 49, 51, 46, 116, 97, 98, 110, 97, 110, 110, 121]) 194), DictEntry.mk (PyData.keyHash P (Str.mk #[95, 95, 100, 111, 99, 95, 95])) (Value.str (Str.mk #[95, 95, 100, 111, 99, 95, 95]) 166) Value.none, DictEntry.mk (PyData.keyHash P (Str.mk #[95, 95, 112, 97, 99, 107, 97, 103, 101, 95, 95])) (Value.str (Str.mk #[95, 95, 112, 97, 99, 107, 97, 103, 101, 95, 95]) 167) Value.none, DictEntry.mk (PyData.keyHash P (Str.mk #[95, 95, 108, 111, 97, 100, 101, 114, 95, 95])) (Value.str (Str.mk #[95, 95, 108, 111, 97, 100, 101, 114, 95, 95]) 168) (Value.builtin "__main__.__loader__#opaque"), DictEntry.mk (PyData.keyHash P (Str.mk #[95, 95, 115, 112, 101, 99, 95, 95])) (Value.str (Str.mk #[95, 95, 115, 112, 101, 99, 95, 95]) 169) Value.none, DictEntry.mk (PyData.keyHash P (Str.mk #[95, 95, 97, 110, 110, 111, 116, 97, 116, 105, 111, 110, 115, 95, 95])) (Value.str (Str.mk #[95, 95, 97, 110, 110, 111, 116, 97, 116, 105, 111, 110, 115, 95, 95]) 170) (Value.ref 6), DictEntry.mk (PyData.keyHash P (Str.mk #[95, 95, 98, 117, 105, 108, 116, 105, 110, 115, 95, 95])) (Value.str (Str.mk #[95, 95, 98, 117, 105, 108, 116, 105, 110, 115, 95, 95]) 171) (Value.ref 4), DictEntry.mk (PyData.keyHash P (Str.mk #[95, 95, 102, 105, 108, 101, 95, 95])) (Value.str (Str.mk #[95, 95, 102, 105, 108, 101, 95, 95]) 173) (Value.str (Str.mk #[47, 99, 108, 97, 105, 109, 47, 99, 117, 116, 46, 112, 121]) 172), DictEntry.mk (PyData.keyHash P (Str.mk #[95, 95, 99, 97, 99, 104, 101, 100, 95, 95])) (Value.str (Str.mk #[95, 95, 99, 97, 99, 104, 101, 100, 95, 95]) 174) Value.none, DictEntry.mk (PyData.keyHash P (Str.mk #[95, 119, 97, 108, 108])) (Value.str (Str.mk #[95, 119, 97, 108, 108]) 193) (Value.ref 21)] 10) #[]
noncomputable def o12_2 (_ : Params) : Obj := Obj.mk Value.none none (Data.fields #[Value.int 1 0, Value.int 0 0, Value.ref 20]) #[]
noncomputable def o15 (_ : Params) : Obj := Obj.mk (Value.type "tuple") none (Data.seq #[]) #[]
noncomputable def o16 (_ : Params) : Obj := Obj.mk Value.none none (Data.fields #[]) #[]
noncomputable def o17 (_ : Params) : Obj := Obj.mk (Value.type "tuple") none (Data.seq #[Value.str (Str.mk #[107]) 190]) #[]
noncomputable def o18 (_ : Params) : Obj := Obj.mk (Value.type "tuple") none (Data.seq #[]) #[]
noncomputable def o19 (_ : Params) : Obj := Obj.mk Value.none none (Data.func (FuncData.mk (Str.mk #[95, 119, 97, 108, 108]) (Str.mk #[95, 119, 97, 108, 108]) A0 (.stmts B0) C0 0 [] Value.none Value.none Value.none Value.none none Value.none Value.none 0)) #[]
noncomputable def o20 (_ : Params) : Obj := Obj.mk (Value.type "code") none (Data.fields #[Value.str (Str.mk #[95, 119, 97, 108, 108]) 187, Value.str (Str.mk #[95, 119, 97, 108, 108]) 188, Value.str (Str.mk #[47, 99, 108, 97, 105, 109, 47, 99, 117, 116, 46, 112, 121]) 189, Value.int 1 0, Value.int 1 0, Value.int 0 0, Value.int 0 0, Value.int 3 0, Value.ref 15, Value.bool true, Value.int 181 0, Value.ref 16, Value.none, Value.ref 17, Value.ref 18, Value.ref 19, Value.int 191 0, Value.int 1 0, Value.str (Str.mk #[47, 99, 108, 97, 105, 109, 47, 99, 117, 116, 46, 112, 121]) 192]) #[]
noncomputable def o21 (_ : Params) : Obj := Obj.mk (Value.type "function") none (Data.func (FuncData.mk (Str.mk #[95, 119, 97, 108, 108]) (Str.mk #[95, 119, 97, 108, 108]) A0 (.stmts B0) C0 3 [] Value.none Value.none Value.none (Value.str (Str.mk #[95, 95, 109, 97, 105, 110, 95, 95]) 164) none (Value.ref 20) Value.none 0)) #[]
noncomputable def T_2 (P : Params) : BT := (.node (boot_o_0 P) (.node (boot_o_1 P) (.node (o3_2 P) (.node (boot_o_7 P) (.node (o15 P) .nil .nil) .nil) (.node (o11_pre P) (.node (o19 P) .nil .nil) .nil)) (.node (boot_o_5 P) (.node (boot_o_9 P) (.node (o17 P) .nil .nil) .nil) (.node (o13_pre P) (.node (o21 P) .nil .nil) .nil))) (.node (boot_o_2 P) (.node (boot_o_4 P) (.node (boot_o_8 P) (.node (o16 P) .nil .nil) .nil) (.node (o12_2 P) (.node (o20 P) .nil .nil) .nil)) (.node (boot_o_6 P) (.node (boot_o_10 P) (.node (o18 P) .nil .nil) .nil) (.node (o14_pre P) .nil .nil))))
noncomputable def o3_3 (P : Params) : Obj := Obj.mk (Value.type "dict") none (Data.dict #[DictEntry.mk (PyData.keyHash P (Str.mk #[95, 95, 110, 97, 109, 101, 95, 95])) (Value.str (Str.mk #[95, 95, 110, 97, 109, 101, 95, 95]) 165) (Value.str (Str.mk #[99, 112, 121, 51, 49, 51, 46, 116, 97, 98, 110, 97, 110, 110, 121]) 194), DictEntry.mk (PyData.keyHash P (Str.mk #[95, 95, 100, 111, 99, 95, 95])) (Value.str (Str.mk #[95, 95, 100, 111, 99, 95, 95]) 166) Value.none, DictEntry.mk (PyData.keyHash P (Str.mk #[95, 95, 112, 97, 99, 107, 97, 103, 101, 95, 95])) (Value.str (Str.mk #[95, 95, 112, 97, 99, 107, 97, 103, 101, 95, 95]) 167) Value.none, DictEntry.mk (PyData.keyHash P (Str.mk #[95, 95, 108, 111, 97, 100, 101, 114, 95, 95])) (Value.str (Str.mk #[95, 95, 108, 111, 97, 100, 101, 114, 95, 95]) 168) (Value.builtin "__main__.__loader__#opaque"), DictEntry.mk (PyData.keyHash P (Str.mk #[95, 95, 115, 112, 101, 99, 95, 95])) (Value.str (Str.mk #[95, 95, 115, 112, 101, 99, 95, 95]) 169) Value.none, DictEntry.mk (PyData.keyHash P (Str.mk #[95, 95, 97, 110, 110, 111, 116, 97, 116, 105, 111, 110, 115, 95, 95])) (Value.str (Str.mk #[95, 95, 97, 110, 110, 111, 116, 97, 116, 105, 111, 110, 115, 95, 95]) 170) (Value.ref 6), DictEntry.mk (PyData.keyHash P (Str.mk #[95, 95, 98, 117, 105, 108, 116, 105, 110, 115, 95, 95])) (Value.str (Str.mk #[95, 95, 98, 117, 105, 108, 116, 105, 110, 115, 95, 95]) 171) (Value.ref 4), DictEntry.mk (PyData.keyHash P (Str.mk #[95, 95, 102, 105, 108, 101, 95, 95])) (Value.str (Str.mk #[95, 95, 102, 105, 108, 101, 95, 95]) 173) (Value.str (Str.mk #[47, 99, 108, 97, 105, 109, 47, 99, 117, 116, 46, 112, 121]) 172), DictEntry.mk (PyData.keyHash P (Str.mk #[95, 95, 99, 97, 99, 104, 101, 100, 95, 95])) (Value.str (Str.mk #[95, 95, 99, 97, 99, 104, 101, 100, 95, 95]) 174) Value.none, DictEntry.mk (PyData.keyHash P (Str.mk #[95, 119, 97, 108, 108])) (Value.str (Str.mk #[95, 119, 97, 108, 108]) 193) (Value.ref 21), DictEntry.mk (PyData.keyHash P (Str.mk #[87, 104, 105, 116, 101, 115, 112, 97, 99, 101])) (Value.str (Str.mk #[87, 104, 105, 116, 101, 115, 112, 97, 99, 101]) 296) (Value.ref 83)] 11) #[]
noncomputable def o12_3 (_ : Params) : Obj := Obj.mk Value.none none (Data.fields #[Value.int 1 0, Value.int 0 0, Value.ref 20, Value.int 5 0, Value.int 0 0, Value.ref 27]) #[]
noncomputable def o22 (_ : Params) : Obj := Obj.mk (Value.type "tuple") none (Data.seq #[]) #[]
noncomputable def o23 (_ : Params) : Obj := Obj.mk (Value.type "builtin_function_or_method") none (Data.fields #[Value.builtin "type.__prepare__", Value.type "type"]) #[]
noncomputable def o24 (P : Params) : Obj := Obj.mk (Value.type "dict") none (Data.dict #[DictEntry.mk (PyData.keyHash P (Str.mk #[95, 95, 109, 111, 100, 117, 108, 101, 95, 95])) (Value.str (Str.mk #[95, 95, 109, 111, 100, 117, 108, 101, 95, 95]) 203) (Value.str (Str.mk #[99, 112, 121, 51, 49, 51, 46, 116, 97, 98, 110, 97, 110, 110, 121]) 194), DictEntry.mk (PyData.keyHash P (Str.mk #[95, 95, 113, 117, 97, 108, 110, 97, 109, 101, 95, 95])) (Value.str (Str.mk #[95, 95, 113, 117, 97, 108, 110, 97, 109, 101, 95, 95]) 205) (Value.str (Str.mk #[87, 104, 105, 116, 101, 115, 112, 97, 99, 101]) 204), DictEntry.mk (PyData.keyHash P (Str.mk #[95, 95, 102, 105, 114, 115, 116, 108, 105, 110, 101, 110, 111, 95, 95])) (Value.str (Str.mk #[95, 95, 102, 105, 114, 115, 116, 108, 105, 110, 101, 110, 111, 95, 95]) 207) (Value.int 5 206), DictEntry.mk (PyData.keyHash P (Str.mk #[83])) (Value.str (Str.mk #[83]) 211) (Value.str (Str.mk #[32]) 209), DictEntry.mk (PyData.keyHash P (Str.mk #[84])) (Value.str (Str.mk #[84]) 212) (Value.str (Str.mk #[9]) 210), DictEntry.mk (PyData.keyHash P (Str.mk #[95, 95, 105, 110, 105, 116, 95, 95])) (Value.str (Str.mk #[95, 95, 105, 110, 105, 116, 95, 95]) 227) (Value.ref 38), DictEntry.mk (PyData.keyHash P (Str.mk #[108, 111, 110, 103, 101, 115, 116, 95, 114, 117, 110, 95, 111, 102, 95, 115, 112, 97, 99, 101, 115])) (Value.str (Str.mk #[108, 111, 110, 103, 101, 115, 116, 95, 114, 117, 110, 95, 111, 102, 95, 115, 112, 97, 99, 101, 115]) 236) (Value.ref 45), DictEntry.mk (PyData.keyHash P (Str.mk #[105, 110, 100, 101, 110, 116, 95, 108, 101, 118, 101, 108])) (Value.str (Str.mk #[105, 110, 100, 101, 110, 116, 95, 108, 101, 118, 101, 108]) 248) (Value.ref 52), DictEntry.mk (PyData.keyHash P (Str.mk #[101, 113, 117, 97, 108])) (Value.str (Str.mk #[101, 113, 117, 97, 108]) 256) (Value.ref 59), DictEntry.mk (PyData.keyHash P (Str.mk #[110, 111, 116, 95, 101, 113, 117, 97, 108, 95, 119, 105, 116, 110, 101, 115, 115])) (Value.str (Str.mk #[110, 111, 116, 95, 101, 113, 117, 97, 108, 95, 119, 105, 116, 110, 101, 115, 115]) 267) (Value.ref 66), DictEntry.mk (PyData.keyHash P (Str.mk #[108, 101, 115, 115])) (Value.str (Str.mk #[108, 101, 115, 115]) 275) (Value.ref 73), DictEntry.mk (PyData.keyHash P (Str.mk #[110, 111, 116, 95, 108, 101, 115, 115, 95, 119, 105, 116, 110, 101, 115, 115])) (Value.str (Str.mk #[110, 111, 116, 95, 108, 101, 115, 115, 95, 119, 105, 116, 110, 101, 115, 115]) 283) (Value.ref 80), DictEntry.mk (PyData.keyHash P (Str.mk #[95, 95, 115, 116, 97, 116, 105, 99, 95, 97, 116, 116, 114, 105, 98, 117, 116, 101, 115, 95, 95])) (Value.str (Str.mk #[95, 95, 115, 116, 97, 116, 105, 99, 95, 97, 116, 116, 114, 105, 98, 117, 116, 101, 115, 95, 95]) 289) (Value.ref 81)] 13) #[]
noncomputable def o25 (_ : Params) : Obj := Obj.mk (Value.type "tuple") none (Data.seq #[]) #[]
noncomputable def o26 (_ : Params) : Obj := Obj.mk Value.none none (Data.fields #[Value.int 8 0, Value.int 4 0, Value.ref 37, Value.int 31 0, Value.int 4 0, Value.ref 44, Value.int 35 0, Value.int 4 0, Value.ref 51, Value.int 42 0, Value.int 4 0, Value.ref 58, Value.int 45 0, Value.int 4 0, Value.ref 65, Value.int 53 0, Value.int 4 0, Value.ref 72, Value.int 56 0, Value.int 4 0, Value.ref 79]) #[]
noncomputable def o27 (_ : Params) : Obj := Obj.mk (Value.type "code") none (Data.fields #[Value.str (Str.mk #[87, 104, 105, 116, 101, 115, 112, 97, 99, 101]) 198, Value.str (Str.mk #[87, 104, 105, 116, 101, 115, 112, 97, 99, 101]) 199, Value.str (Str.mk #[47, 99, 108, 97, 105, 109, 47, 99, 117, 116, 46, 112, 121]) 200, Value.int 5 0, Value.int 0 0, Value.int 0 0, Value.int 0 0, Value.int 0 0, Value.ref 25, Value.bool false, Value.int 181 0, Value.ref 26, Value.none, Value.none, Value.none, Value.none, Value.int 201 0, Value.int 5 0, Value.str (Str.mk #[47, 99, 108, 97, 105, 109, 47, 99, 117, 116, 46, 112, 121]) 202]) #[]
noncomputable def o28 (_ : Params) : Obj := Obj.mk (Value.type "frame") none Data.plain #[some (Value.ref 27), some (Value.ref 3), some (Value.ref 24), none, some (Value.str (Str.mk #[99, 112, 121, 51, 49, 51, 46, 116, 97, 98, 110, 97, 110, 110, 121]) 194), none, some (Value.ref 0)]
noncomputable def o29 (_ : Params) : Obj := Obj.mk (Value.type "str_ascii_iterator") none (Data.fields #[Value.none, Value.int 2 0]) #[]
noncomputable def o30 (_ : Params) : Obj := Obj.mk (Value.type "tuple") none (Data.seq #[]) #[]
noncomputable def o31 (_ : Params) : Obj := Obj.mk (Value.type "StopIteration") none (Data.fields #[Value.ref 30, Value.none, Value.none, Value.none, Value.bool false, Value.none]) #[]
noncomputable def o32 (_ : Params) : Obj := Obj.mk (Value.type "tuple") none (Data.seq #[]) #[]
noncomputable def o33 (_ : Params) : Obj := Obj.mk Value.none none (Data.fields #[]) #[]
noncomputable def o34 (_ : Params) : Obj := Obj.mk (Value.type "tuple") none (Data.seq #[Value.str (Str.mk #[115, 101, 108, 102]) 216, Value.str (Str.mk #[119, 115]) 217, Value.str (Str.mk #[83]) 218, Value.str (Str.mk #[84]) 219, Value.str (Str.mk #[99, 111, 117, 110, 116]) 220, Value.str (Str.mk #[98]) 221, Value.str (Str.mk #[110]) 222, Value.str (Str.mk #[110, 116]) 223, Value.str (Str.mk #[99, 104]) 224]) #[]
noncomputable def o35 (_ : Params) : Obj := Obj.mk (Value.type "tuple") none (Data.seq #[]) #[]
noncomputable def o36 (_ : Params) : Obj := Obj.mk Value.none none (Data.func (FuncData.mk (Str.mk #[95, 95, 105, 110, 105, 116, 95, 95]) (Str.mk #[87, 104, 105, 116, 101, 115, 112, 97, 99, 101, 46, 95, 95, 105, 110, 105, 116, 95, 95]) A2m1 (.stmts B2m1) C2m1 0 [] Value.none Value.none Value.none Value.none none Value.none Value.none 0)) #[]
noncomputable def o37 (_ : Params) : Obj := Obj.mk (Value.type "code") none (Data.fields #[Value.str (Str.mk #[95, 95, 105, 110, 105, 116, 95, 95]) 213, Value.str (Str.mk #[87, 104, 105, 116, 101, 115, 112, 97, 99, 101, 46, 95, 95, 105, 110, 105, 116, 95, 95]) 214, Value.str (Str.mk #[47, 99, 108, 97, 105, 109, 47, 99, 117, 116, 46, 112, 121]) 215, Value.int 8 0, Value.int 2 0, Value.int 0 0, Value.int 0 0, Value.int 3 0, Value.ref 32, Value.bool true, Value.int 181 0, Value.ref 33, Value.none, Value.ref 34, Value.ref 35, Value.ref 36, Value.int 225 0, Value.int 8 0, Value.str (Str.mk #[47, 99, 108, 97, 105, 109, 47, 99, 117, 116, 46, 112, 121]) 226]) #[]
noncomputable def o38 (_ : Params) : Obj := Obj.mk (Value.type "function") none (Data.func (FuncData.mk (Str.mk #[95, 95, 105, 110, 105, 116, 95, 95]) (Str.mk #[87, 104, 105, 116, 101, 115, 112, 97, 99, 101, 46, 95, 95, 105, 110, 105, 116, 95, 95]) A2m1 (.stmts B2m1) C2m1 3 [] Value.none Value.none Value.none (Value.str (Str.mk #[99, 112, 121, 51, 49, 51, 46, 116, 97, 98, 110, 97, 110, 110, 121]) 194) none (Value.ref 37) Value.none 0)) #[]
noncomputable def o39 (_ : Params) : Obj := Obj.mk (Value.type "tuple") none (Data.seq #[]) #[]
noncomputable def o40 (_ : Params) : Obj := Obj.mk Value.none none (Data.fields #[]) #[]
noncomputable def o41 (_ : Params) : Obj := Obj.mk (Value.type "tuple") none (Data.seq #[Value.str (Str.mk #[115, 101, 108, 102]) 231, Value.str (Str.mk #[99, 111, 117, 110, 116]) 232, Value.str (Str.mk #[116, 114, 97, 105, 108, 105, 110, 103]) 233]) #[]
noncomputable def o42 (_ : Params) : Obj := Obj.mk (Value.type "tuple") none (Data.seq #[]) #[]
noncomputable def o43 (_ : Params) : Obj := Obj.mk Value.none none (Data.func (FuncData.mk (Str.mk #[108, 111, 110, 103, 101, 115, 116, 95, 114, 117, 110, 95, 111, 102, 95, 115, 112, 97, 99, 101, 115]) (Str.mk #[87, 104, 105, 116, 101, 115, 112, 97, 99, 101, 46, 108, 111, 110, 103, 101, 115, 116, 95, 114, 117, 110, 95, 111, 102, 95, 115, 112, 97, 99, 101, 115]) A2m2 (.stmts B2m2) C2m2 0 [] Value.none Value.none Value.none Value.none none Value.none Value.none 0)) #[]
noncomputable def o44 (_ : Params) : Obj := Obj.mk (Value.type "code") none (Data.fields #[Value.str (Str.mk #[108, 111, 110, 103, 101, 115, 116, 95, 114, 117, 110, 95, 111, 102, 95, 115, 112, 97, 99, 101, 115]) 228, Value.str (Str.mk #[87, 104, 105, 116, 101, 115, 112, 97, 99, 101, 46, 108, 111, 110, 103, 101, 115, 116, 95, 114, 117, 110, 95, 111, 102, 95, 115, 112, 97, 99, 101, 115]) 229, Value.str (Str.mk #[47, 99, 108, 97, 105, 109, 47, 99, 117, 116, 46, 112, 121]) 230, Value.int 31 0, Value.int 1 0, Value.int 0 0, Value.int 0 0, Value.int 3 0, Value.ref 39, Value.bool true, Value.int 181 0, Value.ref 40, Value.none, Value.ref 41, Value.ref 42, Value.ref 43, Value.int 234 0, Value.int 31 0, Value.str (Str.mk #[47, 99, 108, 97, 105, 109, 47, 99, 117, 116, 46, 112, 121]) 235]) #[]
noncomputable def o45 (_ : Params) : Obj := Obj.mk (Value.type "function") none (Data.func (FuncData.mk (Str.mk #[108, 111, 110, 103, 101, 115, 116, 95, 114, 117, 110, 95, 111, 102, 95, 115, 112, 97, 99, 101, 115]) (Str.mk #[87, 104, 105, 116, 101, 115, 112, 97, 99, 101, 46, 108, 111, 110, 103, 101, 115, 116, 95, 114, 117, 110, 95, 111, 102, 95, 115, 112, 97, 99, 101, 115]) A2m2 (.stmts B2m2) C2m2 3 [] Value.none Value.none Value.none (Value.str (Str.mk #[99, 112, 121, 51, 49, 51, 46, 116, 97, 98, 110, 97, 110, 110, 121]) 194) none (Value.ref 44) Value.none 0)) #[]
noncomputable def o46 (_ : Params) : Obj := Obj.mk (Value.type "tuple") none (Data.seq #[]) #[]
noncomputable def o47 (_ : Params) : Obj := Obj.mk Value.none none (Data.fields #[]) #[]
noncomputable def o48 (_ : Params) : Obj := Obj.mk (Value.type "tuple") none (Data.seq #[Value.str (Str.mk #[115, 101, 108, 102]) 240, Value.str (Str.mk #[116, 97, 98, 115, 105, 122, 101]) 241, Value.str (Str.mk #[99, 111, 117, 110, 116]) 242, Value.str (Str.mk #[116, 114, 97, 105, 108, 105, 110, 103]) 243, Value.str (Str.mk #[105, 108]) 244, Value.str (Str.mk #[105]) 245]) #[]
noncomputable def o49 (_ : Params) : Obj := Obj.mk (Value.type "tuple") none (Data.seq #[]) #[]
noncomputable def o50 (_ : Params) : Obj := Obj.mk Value.none none (Data.func (FuncData.mk (Str.mk #[105, 110, 100, 101, 110, 116, 95, 108, 101, 118, 101, 108]) (Str.mk #[87, 104, 105, 116, 101, 115, 112, 97, 99, 101, 46, 105, 110, 100, 101, 110, 116, 95, 108, 101, 118, 101, 108]) A2m3 (.stmts B2m3) C2m3 0 [] Value.none Value.none Value.none Value.none none Value.none Value.none 0)) #[]
noncomputable def o51 (_ : Params) : Obj := Obj.mk (Value.type "code") none (Data.fields #[Value.str (Str.mk #[105, 110, 100, 101, 110, 116, 95, 108, 101, 118, 101, 108]) 237, Value.str (Str.mk #[87, 104, 105, 116, 101, 115, 112, 97, 99, 101, 46, 105, 110, 100, 101, 110, 116, 95, 108, 101, 118, 101, 108]) 238, Value.str (Str.mk #[47, 99, 108, 97, 105, 109, 47, 99, 117, 116, 46, 112, 121]) 239, Value.int 35 0, Value.int 2 0, Value.int 0 0, Value.int 0 0, Value.int 3 0, Value.ref 46, Value.bool true, Value.int 181 0, Value.ref 47, Value.none, Value.ref 48, Value.ref 49, Value.ref 50, Value.int 246 0, Value.int 35 0, Value.str (Str.mk #[47, 99, 108, 97, 105, 109, 47, 99, 117, 116, 46, 112, 121]) 247]) #[]
noncomputable def o52 (_ : Params) : Obj := Obj.mk (Value.type "function") none (Data.func (FuncData.mk (Str.mk #[105, 110, 100, 101, 110, 116, 95, 108, 101, 118, 101, 108]) (Str.mk #[87, 104, 105, 116, 101, 115, 112, 97, 99, 101, 46, 105, 110, 100, 101, 110, 116, 95, 108, 101, 118, 101, 108]) A2m3 (.stmts B2m3) C2m3 3 [] Value.none Value.none Value.none (Value.str (Str.mk #[99, 112, 121, 51, 49, 51, 46, 116, 97, 98, 110, 97, 110, 110, 121]) 194) none (Value.ref 51) Value.none 0)) #[]
noncomputable def o53 (_ : Params) : Obj := Obj.mk (Value.type "tuple") none (Data.seq #[]) #[]
noncomputable def o54 (_ : Params) : Obj := Obj.mk Value.none none (Data.fields #[]) #[]
noncomputable def o55 (_ : Params) : Obj := Obj.mk (Value.type "tuple") none (Data.seq #[Value.str (Str.mk #[115, 101, 108, 102]) 252, Value.str (Str.mk #[111, 116, 104, 101, 114]) 253]) #[]
noncomputable def o56 (_ : Params) : Obj := Obj.mk (Value.type "tuple") none (Data.seq #[]) #[]
noncomputable def o57 (_ : Params) : Obj := Obj.mk Value.none none (Data.func (FuncData.mk (Str.mk #[101, 113, 117, 97, 108]) (Str.mk #[87, 104, 105, 116, 101, 115, 112, 97, 99, 101, 46, 101, 113, 117, 97, 108]) A2m4 (.stmts B2m4) C2m4 0 [] Value.none Value.none Value.none Value.none none Value.none Value.none 0)) #[]
noncomputable def o58 (_ : Params) : Obj := Obj.mk (Value.type "code") none (Data.fields #[Value.str (Str.mk #[101, 113, 117, 97, 108]) 249, Value.str (Str.mk #[87, 104, 105, 116, 101, 115, 112, 97, 99, 101, 46, 101, 113, 117, 97, 108]) 250, Value.str (Str.mk #[47, 99, 108, 97, 105, 109, 47, 99, 117, 116, 46, 112, 121]) 251, Value.int 42 0, Value.int 2 0, Value.int 0 0, Value.int 0 0, Value.int 3 0, Value.ref 53, Value.bool true, Value.int 181 0, Value.ref 54, Value.none, Value.ref 55, Value.ref 56, Value.ref 57, Value.int 254 0, Value.int 42 0, Value.str (Str.mk #[47, 99, 108, 97, 105, 109, 47, 99, 117, 116, 46, 112, 121]) 255]) #[]
noncomputable def o59 (_ : Params) : Obj := Obj.mk (Value.type "function") none (Data.func (FuncData.mk (Str.mk #[101, 113, 117, 97, 108]) (Str.mk #[87, 104, 105, 116, 101, 115, 112, 97, 99, 101, 46, 101, 113, 117, 97, 108]) A2m4 (.stmts B2m4) C2m4 3 [] Value.none Value.none Value.none (Value.str (Str.mk #[99, 112, 121, 51, 49, 51, 46, 116, 97, 98, 110, 97, 110, 110, 121]) 194) none (Value.ref 58) Value.none 0)) #[]
noncomputable def o60 (_ : Params) : Obj := Obj.mk (Value.type "tuple") none (Data.seq #[]) #[]
noncomputable def o61 (_ : Params) : Obj := Obj.mk Value.none none (Data.fields #[]) #[]
noncomputable def o62 (_ : Params) : Obj := Obj.mk (Value.type "tuple") none (Data.seq #[Value.str (Str.mk #[115, 101, 108, 102]) 260, Value.str (Str.mk #[111, 116, 104, 101, 114]) 261, Value.str (Str.mk #[110]) 262, Value.str (Str.mk #[97]) 263, Value.str (Str.mk #[116, 115]) 264]) #[]
noncomputable def o63 (_ : Params) : Obj := Obj.mk (Value.type "tuple") none (Data.seq #[]) #[]
noncomputable def o64 (_ : Params) : Obj := Obj.mk Value.none none (Data.func (FuncData.mk (Str.mk #[110, 111, 116, 95, 101, 113, 117, 97, 108, 95, 119, 105, 116, 110, 101, 115, 115]) (Str.mk #[87, 104, 105, 116, 101, 115, 112, 97, 99, 101, 46, 110, 111, 116, 95, 101, 113, 117, 97, 108, 95, 119, 105, 116, 110, 101, 115, 115]) A2m5 (.stmts B2m5) C2m5 0 [] Value.none Value.none Value.none Value.none none Value.none Value.none 0)) #[]
noncomputable def o65 (_ : Params) : Obj := Obj.mk (Value.type "code") none (Data.fields #[Value.str (Str.mk #[110, 111, 116, 95, 101, 113, 117, 97, 108, 95, 119, 105, 116, 110, 101, 115, 115]) 257, Value.str (Str.mk #[87, 104, 105, 116, 101, 115, 112, 97, 99, 101, 46, 110, 111, 116, 95, 101, 113, 117, 97, 108, 95, 119, 105, 116, 110, 101, 115, 115]) 258, Value.str (Str.mk #[47, 99, 108, 97, 105, 109, 47, 99, 117, 116, 46, 112, 121]) 259, Value.int 45 0, Value.int 2 0, Value.int 0 0, Value.int 0 0, Value.int 3 0, Value.ref 60, Value.bool true, Value.int 181 0, Value.ref 61, Value.none, Value.ref 62, Value.ref 63, Value.ref 64, Value.int 265 0, Value.int 45 0, Value.str (Str.mk #[47, 99, 108, 97, 105, 109, 47, 99, 117, 116, 46, 112, 121]) 266]) #[]
noncomputable def o66 (_ : Params) : Obj := Obj.mk (Value.type "function") none (Data.func (FuncData.mk (Str.mk #[110, 111, 116, 95, 101, 113, 117, 97, 108, 95, 119, 105, 116, 110, 101, 115, 115]) (Str.mk #[87, 104, 105, 116, 101, 115, 112, 97, 99, 101, 46, 110, 111, 116, 95, 101, 113, 117, 97, 108, 95, 119, 105, 116, 110, 101, 115, 115]) A2m5 (.stmts B2m5) C2m5 3 [] Value.none Value.none Value.none (Value.str (Str.mk #[99, 112, 121, 51, 49, 51, 46, 116, 97, 98, 110, 97, 110, 110, 121]) 194) none (Value.ref 65) Value.none 0)) #[]
noncomputable def o67 (_ : Params) : Obj := Obj.mk (Value.type "tuple") none (Data.seq #[]) #[]
noncomputable def o68 (_ : Params) : Obj := Obj.mk Value.none none (Data.fields #[]) #[]
noncomputable def o69 (_ : Params) : Obj := Obj.mk (Value.type "tuple") none (Data.seq #[Value.str (Str.mk #[115, 101, 108, 102]) 271, Value.str (Str.mk #[111, 116, 104, 101, 114]) 272]) #[]
noncomputable def o70 (_ : Params) : Obj := Obj.mk (Value.type "tuple") none (Data.seq #[]) #[]
noncomputable def o71 (_ : Params) : Obj := Obj.mk Value.none none (Data.func (FuncData.mk (Str.mk #[108, 101, 115, 115]) (Str.mk #[87, 104, 105, 116, 101, 115, 112, 97, 99, 101, 46, 108, 101, 115, 115]) A2m6 (.stmts B2m6) C2m6 0 [] Value.none Value.none Value.none Value.none none Value.none Value.none 0)) #[]
noncomputable def o72 (_ : Params) : Obj := Obj.mk (Value.type "code") none (Data.fields #[Value.str (Str.mk #[108, 101, 115, 115]) 268, Value.str (Str.mk #[87, 104, 105, 116, 101, 115, 112, 97, 99, 101, 46, 108, 101, 115, 115]) 269, Value.str (Str.mk #[47, 99, 108, 97, 105, 109, 47, 99, 117, 116, 46, 112, 121]) 270, Value.int 53 0, Value.int 2 0, Value.int 0 0, Value.int 0 0, Value.int 3 0, Value.ref 67, Value.bool true, Value.int 181 0, Value.ref 68, Value.none, Value.ref 69, Value.ref 70, Value.ref 71, Value.int 273 0, Value.int 53 0, Value.str (Str.mk #[47, 99, 108, 97, 105, 109, 47, 99, 117, 116, 46, 112, 121]) 274]) #[]
noncomputable def o73 (_ : Params) : Obj := Obj.mk (Value.type "function") none (Data.func (FuncData.mk (Str.mk #[108, 101, 115, 115]) (Str.mk #[87, 104, 105, 116, 101, 115, 112, 97, 99, 101, 46, 108, 101, 115, 115]) A2m6 (.stmts B2m6) C2m6 3 [] Value.none Value.none Value.none (Value.str (Str.mk #[99, 112, 121, 51, 49, 51, 46, 116, 97, 98, 110, 97, 110, 110, 121]) 194) none (Value.ref 72) Value.none 0)) #[]
noncomputable def o74 (_ : Params) : Obj := Obj.mk (Value.type "tuple") none (Data.seq #[]) #[]
noncomputable def o75 (_ : Params) : Obj := Obj.mk Value.none none (Data.fields #[]) #[]
noncomputable def o76 (_ : Params) : Obj := Obj.mk (Value.type "tuple") none (Data.seq #[Value.str (Str.mk #[115, 101, 108, 102]) 279, Value.str (Str.mk #[111, 116, 104, 101, 114]) 280]) #[]
noncomputable def o77 (_ : Params) : Obj := Obj.mk (Value.type "tuple") none (Data.seq #[]) #[]
noncomputable def o78 (_ : Params) : Obj := Obj.mk Value.none none (Data.func (FuncData.mk (Str.mk #[110, 111, 116, 95, 108, 101, 115, 115, 95, 119, 105, 116, 110, 101, 115, 115]) (Str.mk #[87, 104, 105, 116, 101, 115, 112, 97, 99, 101, 46, 110, 111, 116, 95, 108, 101, 115, 115, 95, 119, 105, 116, 110, 101, 115, 115]) A2m7 (.stmts B2m7) C2m7 0 [] Value.none Value.none Value.none Value.none none Value.none Value.none 0)) #[]
noncomputable def o79 (_ : Params) : Obj := Obj.mk (Value.type "code") none (Data.fields #[Value.str (Str.mk #[110, 111, 116, 95, 108, 101, 115, 115, 95, 119, 105, 116, 110, 101, 115, 115]) 276, Value.str (Str.mk #[87, 104, 105, 116, 101, 115, 112, 97, 99, 101, 46, 110, 111, 116, 95, 108, 101, 115, 115, 95, 119, 105, 116, 110, 101, 115, 115]) 277, Value.str (Str.mk #[47, 99, 108, 97, 105, 109, 47, 99, 117, 116, 46, 112, 121]) 278, Value.int 56 0, Value.int 2 0, Value.int 0 0, Value.int 0 0, Value.int 3 0, Value.ref 74, Value.bool true, Value.int 181 0, Value.ref 75, Value.none, Value.ref 76, Value.ref 77, Value.ref 78, Value.int 281 0, Value.int 56 0, Value.str (Str.mk #[47, 99, 108, 97, 105, 109, 47, 99, 117, 116, 46, 112, 121]) 282]) #[]
noncomputable def o80 (_ : Params) : Obj := Obj.mk (Value.type "function") none (Data.func (FuncData.mk (Str.mk #[110, 111, 116, 95, 108, 101, 115, 115, 95, 119, 105, 116, 110, 101, 115, 115]) (Str.mk #[87, 104, 105, 116, 101, 115, 112, 97, 99, 101, 46, 110, 111, 116, 95, 108, 101, 115, 115, 95, 119, 105, 116, 110, 101, 115, 115]) A2m7 (.stmts B2m7) C2m7 3 [] Value.none Value.none Value.none (Value.str (Str.mk #[99, 112, 121, 51, 49, 51, 46, 116, 97, 98, 110, 97, 110, 110, 121]) 194) none (Value.ref 79) Value.none 0)) #[]
noncomputable def o81 (_ : Params) : Obj := Obj.mk (Value.type "tuple") none (Data.seq #[Value.str (Str.mk #[105, 115, 95, 115, 105, 109, 112, 108, 101]) 284, Value.str (Str.mk #[110]) 285, Value.str (Str.mk #[110, 111, 114, 109]) 286, Value.str (Str.mk #[110, 116]) 287, Value.str (Str.mk #[114, 97, 119]) 288]) #[]
noncomputable def o82 (P : Params) : Obj := Obj.mk (Value.type "dict") none (Data.dict #[DictEntry.mk (PyData.keyHash P (Str.mk #[95, 95, 109, 111, 100, 117, 108, 101, 95, 95])) (Value.str (Str.mk #[95, 95, 109, 111, 100, 117, 108, 101, 95, 95]) 203) (Value.str (Str.mk #[99, 112, 121, 51, 49, 51, 46, 116, 97, 98, 110, 97, 110, 110, 121]) 194), DictEntry.mk (PyData.keyHash P (Str.mk #[95, 95, 102, 105, 114, 115, 116, 108, 105, 110, 101, 110, 111, 95, 95])) (Value.str (Str.mk #[95, 95, 102, 105, 114, 115, 116, 108, 105, 110, 101, 110, 111, 95, 95]) 207) (Value.int 5 206), DictEntry.mk (PyData.keyHash P (Str.mk #[83])) (Value.str (Str.mk #[83]) 211) (Value.str (Str.mk #[32]) 209), DictEntry.mk (PyData.keyHash P (Str.mk #[84])) (Value.str (Str.mk #[84]) 212) (Value.str (Str.mk #[9]) 210), DictEntry.mk (PyData.keyHash P (Str.mk #[95, 95, 105, 110, 105, 116, 95, 95])) (Value.str (Str.mk #[95, 95, 105, 110, 105, 116, 95, 95]) 227) (Value.ref 38), DictEntry.mk (PyData.keyHash P (Str.mk #[108, 111, 110, 103, 101, 115, 116, 95, 114, 117, 110, 95, 111, 102, 95, 115, 112, 97, 99, 101, 115])) (Value.str (Str.mk #[108, 111, 110, 103, 101, 115, 116, 95, 114, 117, 110, 95, 111, 102, 95, 115, 112, 97, 99, 101, 115]) 236) (Value.ref 45), DictEntry.mk (PyData.keyHash P (Str.mk #[105, 110, 100, 101, 110, 116, 95, 108, 101, 118, 101, 108])) (Value.str (Str.mk #[105, 110, 100, 101, 110, 116, 95, 108, 101, 118, 101, 108]) 248) (Value.ref 52), DictEntry.mk (PyData.keyHash P (Str.mk #[101, 113, 117, 97, 108])) (Value.str (Str.mk #[101, 113, 117, 97, 108]) 256) (Value.ref 59), DictEntry.mk (PyData.keyHash P (Str.mk #[110, 111, 116, 95, 101, 113, 117, 97, 108, 95, 119, 105, 116, 110, 101, 115, 115])) (Value.str (Str.mk #[110, 111, 116, 95, 101, 113, 117, 97, 108, 95, 119, 105, 116, 110, 101, 115, 115]) 267) (Value.ref 66), DictEntry.mk (PyData.keyHash P (Str.mk #[108, 101, 115, 115])) (Value.str (Str.mk #[108, 101, 115, 115]) 275) (Value.ref 73), DictEntry.mk (PyData.keyHash P (Str.mk #[110, 111, 116, 95, 108, 101, 115, 115, 95, 119, 105, 116, 110, 101, 115, 115])) (Value.str (Str.mk #[110, 111, 116, 95, 108, 101, 115, 115, 95, 119, 105, 116, 110, 101, 115, 115]) 283) (Value.ref 80), DictEntry.mk (PyData.keyHash P (Str.mk #[95, 95, 115, 116, 97, 116, 105, 99, 95, 97, 116, 116, 114, 105, 98, 117, 116, 101, 115, 95, 95])) (Value.str (Str.mk #[95, 95, 115, 116, 97, 116, 105, 99, 95, 97, 116, 116, 114, 105, 98, 117, 116, 101, 115, 95, 95]) 289) (Value.ref 81), DictEntry.mk (PyData.keyHash P (Str.mk #[95, 95, 100, 105, 99, 116, 95, 95])) (Value.str (Str.mk #[95, 95, 100, 105, 99, 116, 95, 95]) 291) (Value.ref 84), DictEntry.mk (PyData.keyHash P (Str.mk #[95, 95, 119, 101, 97, 107, 114, 101, 102, 95, 95])) (Value.str (Str.mk #[95, 95, 119, 101, 97, 107, 114, 101, 102, 95, 95]) 293) (Value.ref 85), DictEntry.mk (PyData.keyHash P (Str.mk #[95, 95, 100, 111, 99, 95, 95])) (Value.str (Str.mk #[95, 95, 100, 111, 99, 95, 95]) 294) Value.none] 4) #[]
noncomputable def o83 (_ : Params) : Obj := Obj.mk (Value.type "type") none (Data.cls (ClassData.mk (Str.mk #[87, 104, 105, 116, 101, 115, 112, 97, 99, 101]) [Value.type "object"] [Value.ref 83, Value.type "object"] 82 (Str.mk #[87, 104, 105, 116, 101, 115, 112, 97, 99, 101]) true [] [] false none false)) #[none, none, some (Value.str (Str.mk #[87, 104, 105, 116, 101, 115, 112, 97, 99, 101]) 196), some (Value.str (Str.mk #[87, 104, 105, 116, 101, 115, 112, 97, 99, 101]) 204), some (Value.builtin "object.__new__"), some (Value.bool true)]
noncomputable def o84 (_ : Params) : Obj := Obj.mk (Value.type "getset_descriptor") none (Data.fields #[Value.str (Str.mk #[95, 95, 100, 105, 99, 116, 95, 95]) 290, Value.ref 83, Value.builtin "function.__dict__", Value.builtin "function.__dict__#set"]) #[]
noncomputable def o85 (_ : Params) : Obj := Obj.mk (Value.type "getset_descriptor") none (Data.fields #[Value.str (Str.mk #[95, 95, 119, 101, 97, 107, 114, 101, 102, 95, 95]) 292, Value.ref 83, Value.builtin "ExceptionGroup.__weakref__", Value.none]) #[]
noncomputable def o86 (_ : Params) : Obj := Obj.mk (Value.type "super") none (Data.fields #[Value.ref 83, Value.ref 83, Value.ref 83]) #[]
noncomputable def o87 (_ : Params) : Obj := Obj.mk (Value.type "builtin_function_or_method") none (Data.fields #[Value.builtin "object.__init_subclass__", Value.ref 83]) #[]
noncomputable def T_3 (P : Params) : BT := (.node (boot_o_0 P) (.node (boot_o_1 P) (.node (o3_3 P) (.node (boot_o_7 P) (.node (o15 P) (.node (o31 P) (.node (o63 P) .nil .nil) .nil) (.node (o47 P) (.node (o79 P) .nil .nil) .nil)) (.node (o23 P) (.node (o39 P) (.node (o71 P) .nil .nil) .nil) (.node (o55 P) (.node (o87 P) .nil .nil) .nil))) (.node (o11_pre P) (.node (o19 P) (.node (o35 P) (.node (o67 P) .nil .nil) .nil) (.node (o51 P) (.node (o83 P) .nil .nil) .nil)) (.node (o27 P) (.node (o43 P) (.node (o75 P) .nil .nil) .nil) (.node (o59 P) .nil .nil)))) (.node (boot_o_5 P) (.node (boot_o_9 P) (.node (o17 P) (.node (o33 P) (.node (o65 P) .nil .nil) .nil) (.node (o49 P) (.node (o81 P) .nil .nil) .nil)) (.node (o25 P) (.node (o41 P) (.node (o73 P) .nil .nil) .nil) (.node (o57 P) .nil .nil))) (.node (o13_pre P) (.node (o21 P) (.node (o37 P) (.node (o69 P) .nil .nil) .nil) (.node (o53 P) (.node (o85 P) .nil .nil) .nil)) (.node (o29 P) (.node (o45 P) (.node (o77 P) .nil .nil) .nil) (.node (o61 P) .nil .nil))))) (.node (boot_o_2 P) (.node (boot_o_4 P) (.node (boot_o_8 P) (.node (o16 P) (.node (o32 P) (.node (o64 P) .nil .nil) .nil) (.node (o48 P) (.node (o80 P) .nil .nil) .nil)) (.node (o24 P) (.node (o40 P) (.node (o72 P) .nil .nil) .nil) (.node (o56 P) .nil .nil))) (.node (o12_3 P) (.node (o20 P) (.node (o36 P) (.node (o68 P) .nil .nil) .nil) (.node (o52 P) (.node (o84 P) .nil .nil) .nil)) (.node (o28 P) (.node (o44 P) (.node (o76 P) .nil .nil) .nil) (.node (o60 P) .nil .nil)))) (.node (boot_o_6 P) (.node (boot_o_10 P) (.node (o18 P) (.node (o34 P) (.node (o66 P) .nil .nil) .nil) (.node (o50 P) (.node (o82 P) .nil .nil) .nil)) (.node (o26 P) (.node (o42 P) (.node (o74 P) .nil .nil) .nil) (.node (o58 P) .nil .nil))) (.node (o14_pre P) (.node (o22 P) (.node (o38 P) (.node (o70 P) .nil .nil) .nil) (.node (o54 P) (.node (o86 P) .nil .nil) .nil)) (.node (o30 P) (.node (o46 P) (.node (o78 P) .nil .nil) .nil) (.node (o62 P) .nil .nil))))))
noncomputable def o3_11 (P : Params) : Obj := Obj.mk (Value.type "dict") none (Data.dict #[DictEntry.mk (PyData.keyHash P (Str.mk #[95, 95, 110, 97, 109, 101, 95, 95])) (Value.str (Str.mk #[95, 95, 110, 97, 109, 101, 95, 95]) 165) (Value.str (Str.mk #[99, 112, 121, 51, 49, 51, 46, 115, 116, 114, 105, 110, 103, 112, 114, 101, 112]) 338), DictEntry.mk (PyData.keyHash P (Str.mk #[95, 95, 100, 111, 99, 95, 95])) (Value.str (Str.mk #[95, 95, 100, 111, 99, 95, 95]) 166) Value.none, DictEntry.mk (PyData.keyHash P (Str.mk #[95, 95, 112, 97, 99, 107, 97, 103, 101, 95, 95])) (Value.str (Str.mk #[95, 95, 112, 97, 99, 107, 97, 103, 101, 95, 95]) 167) Value.none, DictEntry.mk (PyData.keyHash P (Str.mk #[95, 95, 108, 111, 97, 100, 101, 114, 95, 95])) (Value.str (Str.mk #[95, 95, 108, 111, 97, 100, 101, 114, 95, 95]) 168) (Value.builtin "__main__.__loader__#opaque"), DictEntry.mk (PyData.keyHash P (Str.mk #[95, 95, 115, 112, 101, 99, 95, 95])) (Value.str (Str.mk #[95, 95, 115, 112, 101, 99, 95, 95]) 169) Value.none, DictEntry.mk (PyData.keyHash P (Str.mk #[95, 95, 97, 110, 110, 111, 116, 97, 116, 105, 111, 110, 115, 95, 95])) (Value.str (Str.mk #[95, 95, 97, 110, 110, 111, 116, 97, 116, 105, 111, 110, 115, 95, 95]) 170) (Value.ref 6), DictEntry.mk (PyData.keyHash P (Str.mk #[95, 95, 98, 117, 105, 108, 116, 105, 110, 115, 95, 95])) (Value.str (Str.mk #[95, 95, 98, 117, 105, 108, 116, 105, 110, 115, 95, 95]) 171) (Value.ref 4), DictEntry.mk (PyData.keyHash P (Str.mk #[95, 95, 102, 105, 108, 101, 95, 95])) (Value.str (Str.mk #[95, 95, 102, 105, 108, 101, 95, 95]) 173) (Value.str (Str.mk #[47, 99, 108, 97, 105, 109, 47, 99, 117, 116, 46, 112, 121]) 172), DictEntry.mk (PyData.keyHash P (Str.mk #[95, 95, 99, 97, 99, 104, 101, 100, 95, 95])) (Value.str (Str.mk #[95, 95, 99, 97, 99, 104, 101, 100, 95, 95]) 174) Value.none, DictEntry.mk (PyData.keyHash P (Str.mk #[95, 119, 97, 108, 108])) (Value.str (Str.mk #[95, 119, 97, 108, 108]) 193) (Value.ref 21), DictEntry.mk (PyData.keyHash P (Str.mk #[87, 104, 105, 116, 101, 115, 112, 97, 99, 101])) (Value.str (Str.mk #[87, 104, 105, 116, 101, 115, 112, 97, 99, 101]) 296) (Value.ref 83), DictEntry.mk (PyData.keyHash P (Str.mk #[67, 72, 65, 82, 95, 77, 65, 88])) (Value.str (Str.mk #[67, 72, 65, 82, 95, 77, 65, 88]) 300) (Value.int 127 299), DictEntry.mk (PyData.keyHash P (Str.mk #[95, 103, 114, 111, 117, 112, 105, 110, 103, 95, 105, 110, 116, 101, 114, 118, 97, 108, 115])) (Value.str (Str.mk #[95, 103, 114, 111, 117, 112, 105, 110, 103, 95, 105, 110, 116, 101, 114, 118, 97, 108, 115]) 309) (Value.ref 94), DictEntry.mk (PyData.keyHash P (Str.mk #[97, 100, 100])) (Value.str (Str.mk #[97, 100, 100]) 319) (Value.ref 101), DictEntry.mk (PyData.keyHash P (Str.mk #[109, 117, 108])) (Value.str (Str.mk #[109, 117, 108]) 327) (Value.ref 108), DictEntry.mk (PyData.keyHash P (Str.mk #[105, 110, 100, 101, 120, 79, 102])) (Value.str (Str.mk #[105, 110, 100, 101, 120, 79, 102]) 337) (Value.ref 115)] 16) #[]
noncomputable def o12_11 (_ : Params) : Obj := Obj.mk Value.none none (Data.fields #[Value.int 1 0, Value.int 0 0, Value.ref 20, Value.int 5 0, Value.int 0 0, Value.ref 27, Value.int 60 0, Value.int 0 0, Value.ref 93, Value.int 73 0, Value.int 0 0, Value.ref 100, Value.int 75 0, Value.int 0 0, Value.ref 107, Value.int 77 0, Value.int 0 0, Value.ref 114]) #[]
noncomputable def o88 (_ : Params) : Obj := Obj.mk (Value.type "tuple") none (Data.seq #[]) #[]
noncomputable def o89 (_ : Params) : Obj := Obj.mk Value.none none (Data.fields #[]) #[]
noncomputable def o90 (_ : Params) : Obj := Obj.mk (Value.type "tuple") none (Data.seq #[Value.str (Str.mk #[103, 114, 111, 117, 112, 105, 110, 103]) 304, Value.str (Str.mk #[108, 97, 115, 116, 95, 105, 110, 116, 101, 114, 118, 97, 108]) 305, Value.str (Str.mk #[105, 110, 116, 101, 114, 118, 97, 108]) 306]) #[]
noncomputable def o91 (_ : Params) : Obj := Obj.mk (Value.type "tuple") none (Data.seq #[]) #[]
noncomputable def o92 (_ : Params) : Obj := Obj.mk Value.none none (Data.func (FuncData.mk (Str.mk #[95, 103, 114, 111, 117, 112, 105, 110, 103, 95, 105, 110, 116, 101, 114, 118, 97, 108, 115]) (Str.mk #[95, 103, 114, 111, 117, 112, 105, 110, 103, 95, 105, 110, 116, 101, 114, 118, 97, 108, 115]) A5 (.stmts B5) C5 0 [] Value.none Value.none Value.none Value.none none Value.none Value.none 0)) #[]
noncomputable def o93 (_ : Params) : Obj := Obj.mk (Value.type "code") none (Data.fields #[Value.str (Str.mk #[95, 103, 114, 111, 117, 112, 105, 110, 103, 95, 105, 110, 116, 101, 114, 118, 97, 108, 115]) 301, Value.str (Str.mk #[95, 103, 114, 111, 117, 112, 105, 110, 103, 95, 105, 110, 116, 101, 114, 118, 97, 108, 115]) 302, Value.str (Str.mk #[47, 99, 108, 97, 105, 109, 47, 99, 117, 116, 46, 112, 121]) 303, Value.int 60 0, Value.int 1 0, Value.int 0 0, Value.int 0 0, Value.int 35 0, Value.ref 88, Value.bool true, Value.int 181 0, Value.ref 89, Value.none, Value.ref 90, Value.ref 91, Value.ref 92, Value.int 307 0, Value.int 60 0, Value.str (Str.mk #[47, 99, 108, 97, 105, 109, 47, 99, 117, 116, 46, 112, 121]) 308]) #[]
noncomputable def o94 (_ : Params) : Obj := Obj.mk (Value.type "function") none (Data.func (FuncData.mk (Str.mk #[95, 103, 114, 111, 117, 112, 105, 110, 103, 95, 105, 110, 116, 101, 114, 118, 97, 108, 115]) (Str.mk #[95, 103, 114, 111, 117, 112, 105, 110, 103, 95, 105, 110, 116, 101, 114, 118, 97, 108, 115]) A5 (.stmts B5) C5 3 [] Value.none Value.none Value.none (Value.str (Str.mk #[99, 112, 121, 51, 49, 51, 46, 108, 111, 99, 97, 108, 101]) 297) none (Value.ref 93) Value.none 0)) #[]
noncomputable def o95 (_ : Params) : Obj := Obj.mk (Value.type "tuple") none (Data.seq #[]) #[]
noncomputable def o96 (_ : Params) : Obj := Obj.mk Value.none none (Data.fields #[]) #[]
noncomputable def o97 (_ : Params) : Obj := Obj.mk (Value.type "tuple") none (Data.seq #[Value.str (Str.mk #[97]) 315, Value.str (Str.mk #[98]) 316]) #[]
noncomputable def o98 (_ : Params) : Obj := Obj.mk (Value.type "tuple") none (Data.seq #[]) #[]
noncomputable def o99 (_ : Params) : Obj := Obj.mk Value.none none (Data.func (FuncData.mk (Str.mk #[97, 100, 100]) (Str.mk #[97, 100, 100]) A7 (.stmts B7) C7 0 [] Value.none Value.none Value.none Value.none none Value.none Value.none 0)) #[]
noncomputable def o100 (_ : Params) : Obj := Obj.mk (Value.type "code") none (Data.fields #[Value.str (Str.mk #[97, 100, 100]) 312, Value.str (Str.mk #[97, 100, 100]) 313, Value.str (Str.mk #[47, 99, 108, 97, 105, 109, 47, 99, 117, 116, 46, 112, 121]) 314, Value.int 73 0, Value.int 2 0, Value.int 0 0, Value.int 0 0, Value.int 3 0, Value.ref 95, Value.bool true, Value.int 181 0, Value.ref 96, Value.none, Value.ref 97, Value.ref 98, Value.ref 99, Value.int 317 0, Value.int 73 0, Value.str (Str.mk #[47, 99, 108, 97, 105, 109, 47, 99, 117, 116, 46, 112, 121]) 318]) #[]
noncomputable def o101 (_ : Params) : Obj := Obj.mk (Value.type "function") none (Data.func (FuncData.mk (Str.mk #[97, 100, 100]) (Str.mk #[97, 100, 100]) A7 (.stmts B7) C7 3 [] Value.none Value.none Value.none (Value.str (Str.mk #[99, 112, 121, 51, 49, 51, 46, 111, 112, 101, 114, 97, 116, 111, 114]) 310) none (Value.ref 100) Value.none 0)) #[]
noncomputable def o102 (_ : Params) : Obj := Obj.mk (Value.type "tuple") none (Data.seq #[]) #[]
noncomputable def o103 (_ : Params) : Obj := Obj.mk Value.none none (Data.fields #[]) #[]
noncomputable def o104 (_ : Params) : Obj := Obj.mk (Value.type "tuple") none (Data.seq #[Value.str (Str.mk #[97]) 323, Value.str (Str.mk #[98]) 324]) #[]
noncomputable def o105 (_ : Params) : Obj := Obj.mk (Value.type "tuple") none (Data.seq #[]) #[]
noncomputable def o106 (_ : Params) : Obj := Obj.mk Value.none none (Data.func (FuncData.mk (Str.mk #[109, 117, 108]) (Str.mk #[109, 117, 108]) A8 (.stmts B8) C8 0 [] Value.none Value.none Value.none Value.none none Value.none Value.none 0)) #[]
noncomputable def o107 (_ : Params) : Obj := Obj.mk (Value.type "code") none (Data.fields #[Value.str (Str.mk #[109, 117, 108]) 320, Value.str (Str.mk #[109, 117, 108]) 321, Value.str (Str.mk #[47, 99, 108, 97, 105, 109, 47, 99, 117, 116, 46, 112, 121]) 322, Value.int 75 0, Value.int 2 0, Value.int 0 0, Value.int 0 0, Value.int 3 0, Value.ref 102, Value.bool true, Value.int 181 0, Value.ref 103, Value.none, Value.ref 104, Value.ref 105, Value.ref 106, Value.int 325 0, Value.int 75 0, Value.str (Str.mk #[47, 99, 108, 97, 105, 109, 47, 99, 117, 116, 46, 112, 121]) 326]) #[]
noncomputable def o108 (_ : Params) : Obj := Obj.mk (Value.type "function") none (Data.func (FuncData.mk (Str.mk #[109, 117, 108]) (Str.mk #[109, 117, 108]) A8 (.stmts B8) C8 3 [] Value.none Value.none Value.none (Value.str (Str.mk #[99, 112, 121, 51, 49, 51, 46, 111, 112, 101, 114, 97, 116, 111, 114]) 310) none (Value.ref 107) Value.none 0)) #[]
noncomputable def o109 (_ : Params) : Obj := Obj.mk (Value.type "tuple") none (Data.seq #[]) #[]
noncomputable def o110 (_ : Params) : Obj := Obj.mk Value.none none (Data.fields #[]) #[]
noncomputable def o111 (_ : Params) : Obj := Obj.mk (Value.type "tuple") none (Data.seq #[Value.str (Str.mk #[97]) 331, Value.str (Str.mk #[98]) 332, Value.str (Str.mk #[105]) 333, Value.str (Str.mk #[106]) 334]) #[]
noncomputable def o112 (_ : Params) : Obj := Obj.mk (Value.type "tuple") none (Data.seq #[]) #[]
noncomputable def o113 (_ : Params) : Obj := Obj.mk Value.none none (Data.func (FuncData.mk (Str.mk #[105, 110, 100, 101, 120, 79, 102]) (Str.mk #[105, 110, 100, 101, 120, 79, 102]) A9 (.stmts B9) C9 0 [] Value.none Value.none Value.none Value.none none Value.none Value.none 0)) #[]
noncomputable def o114 (_ : Params) : Obj := Obj.mk (Value.type "code") none (Data.fields #[Value.str (Str.mk #[105, 110, 100, 101, 120, 79, 102]) 328, Value.str (Str.mk #[105, 110, 100, 101, 120, 79, 102]) 329, Value.str (Str.mk #[47, 99, 108, 97, 105, 109, 47, 99, 117, 116, 46, 112, 121]) 330, Value.int 77 0, Value.int 2 0, Value.int 0 0, Value.int 0 0, Value.int 3 0, Value.ref 109, Value.bool true, Value.int 181 0, Value.ref 110, Value.none, Value.ref 111, Value.ref 112, Value.ref 113, Value.int 335 0, Value.int 77 0, Value.str (Str.mk #[47, 99, 108, 97, 105, 109, 47, 99, 117, 116, 46, 112, 121]) 336]) #[]
noncomputable def o115 (_ : Params) : Obj := Obj.mk (Value.type "function") none (Data.func (FuncData.mk (Str.mk #[105, 110, 100, 101, 120, 79, 102]) (Str.mk #[105, 110, 100, 101, 120, 79, 102]) A9 (.stmts B9) C9 3 [] Value.none Value.none Value.none (Value.str (Str.mk #[99, 112, 121, 51, 49, 51, 46, 111, 112, 101, 114, 97, 116, 111, 114]) 310) none (Value.ref 114) Value.none 0)) #[]
noncomputable def T_11 (P : Params) : BT := (.node (boot_o_0 P) (.node (boot_o_1 P) (.node (o3_11 P) (.node (boot_o_7 P) (.node (o15 P) (.node (o31 P) (.node (o63 P) .nil .nil) (.node (o95 P) .nil .nil)) (.node (o47 P) (.node (o79 P) .nil .nil) (.node (o111 P) .nil .nil))) (.node (o23 P) (.node (o39 P) (.node (o71 P) .nil .nil) (.node (o103 P) .nil .nil)) (.node (o55 P) (.node (o87 P) .nil .nil) .nil))) (.node (o11_pre P) (.node (o19 P) (.node (o35 P) (.node (o67 P) .nil .nil) (.node (o99 P) .nil .nil)) (.node (o51 P) (.node (o83 P) .nil .nil) (.node (o115 P) .nil .nil))) (.node (o27 P) (.node (o43 P) (.node (o75 P) .nil .nil) (.node (o107 P) .nil .nil)) (.node (o59 P) (.node (o91 P) .nil .nil) .nil)))) (.node (boot_o_5 P) (.node (boot_o_9 P) (.node (o17 P) (.node (o33 P) (.node (o65 P) .nil .nil) (.node (o97 P) .nil .nil)) (.node (o49 P) (.node (o81 P) .nil .nil) (.node (o113 P) .nil .nil))) (.node (o25 P) (.node (o41 P) (.node (o73 P) .nil .nil) (.node (o105 P) .nil .nil)) (.node (o57 P) (.node (o89 P) .nil .nil) .nil))) (.node (o13_pre P) (.node (o21 P) (.node (o37 P) (.node (o69 P) .nil .nil) (.node (o101 P) .nil .nil)) (.node (o53 P) (.node (o85 P) .nil .nil) .nil)) (.node (o29 P) (.node (o45 P) (.node (o77 P) .nil .nil) (.node (o109 P) .nil .nil)) (.node (o61 P) (.node (o93 P) .nil .nil) .nil))))) (.node (boot_o_2 P) (.node (boot_o_4 P) (.node (boot_o_8 P) (.node (o16 P) (.node (o32 P) (.node (o64 P) .nil .nil) (.node (o96 P) .nil .nil)) (.node (o48 P) (.node (o80 P) .nil .nil) (.node (o112 P) .nil .nil))) (.node (o24 P) (.node (o40 P) (.node (o72 P) .nil .nil) (.node (o104 P) .nil .nil)) (.node (o56 P) (.node (o88 P) .nil .nil) .nil))) (.node (o12_11 P) (.node (o20 P) (.node (o36 P) (.node (o68 P) .nil .nil) (.node (o100 P) .nil .nil)) (.node (o52 P) (.node (o84 P) .nil .nil) .nil)) (.node (o28 P) (.node (o44 P) (.node (o76 P) .nil .nil) (.node (o108 P) .nil .nil)) (.node (o60 P) (.node (o92 P) .nil .nil) .nil)))) (.node (boot_o_6 P) (.node (boot_o_10 P) (.node (o18 P) (.node (o34 P) (.node (o66 P) .nil .nil) (.node (o98 P) .nil .nil)) (.node (o50 P) (.node (o82 P) .nil .nil) (.node (o114 P) .nil .nil))) (.node (o26 P) (.node (o42 P) (.node (o74 P) .nil .nil) (.node (o106 P) .nil .nil)) (.node (o58 P) (.node (o90 P) .nil .nil) .nil))) (.node (o14_pre P) (.node (o22 P) (.node (o38 P) (.node (o70 P) .nil .nil) (.node (o102 P) .nil .nil)) (.node (o54 P) (.node (o86 P) .nil .nil) .nil)) (.node (o30 P) (.node (o46 P) (.node (o78 P) .nil .nil) (.node (o110 P) .nil .nil)) (.node (o62 P) (.node (o94 P) .nil .nil) .nil))))))
noncomputable def o3_12 (P : Params) : Obj := Obj.mk (Value.type "dict") none (Data.dict #[DictEntry.mk (PyData.keyHash P (Str.mk #[95, 95, 110, 97, 109, 101, 95, 95])) (Value.str (Str.mk #[95, 95, 110, 97, 109, 101, 95, 95]) 165) (Value.str (Str.mk #[99, 112, 121, 51, 49, 51, 46, 115, 116, 114, 105, 110, 103, 112, 114, 101, 112]) 338), DictEntry.mk (PyData.keyHash P (Str.mk #[95, 95, 100, 111, 99, 95, 95])) (Value.str (Str.mk #[95, 95, 100, 111, 99, 95, 95]) 166) Value.none, DictEntry.mk (PyData.keyHash P (Str.mk #[95, 95, 112, 97, 99, 107, 97, 103, 101, 95, 95])) (Value.str (Str.mk #[95, 95, 112, 97, 99, 107, 97, 103, 101, 95, 95]) 167) Value.none, DictEntry.mk (PyData.keyHash P (Str.mk #[95, 95, 108, 111, 97, 100, 101, 114, 95, 95])) (Value.str (Str.mk #[95, 95, 108, 111, 97, 100, 101, 114, 95, 95]) 168) (Value.builtin "__main__.__loader__#opaque"), DictEntry.mk (PyData.keyHash P (Str.mk #[95, 95, 115, 112, 101, 99, 95, 95])) (Value.str (Str.mk #[95, 95, 115, 112, 101, 99, 95, 95]) 169) Value.none, DictEntry.mk (PyData.keyHash P (Str.mk #[95, 95, 97, 110, 110, 111, 116, 97, 116, 105, 111, 110, 115, 95, 95])) (Value.str (Str.mk #[95, 95, 97, 110, 110, 111, 116, 97, 116, 105, 111, 110, 115, 95, 95]) 170) (Value.ref 6), DictEntry.mk (PyData.keyHash P (Str.mk #[95, 95, 98, 117, 105, 108, 116, 105, 110, 115, 95, 95])) (Value.str (Str.mk #[95, 95, 98, 117, 105, 108, 116, 105, 110, 115, 95, 95]) 171) (Value.ref 4), DictEntry.mk (PyData.keyHash P (Str.mk #[95, 95, 102, 105, 108, 101, 95, 95])) (Value.str (Str.mk #[95, 95, 102, 105, 108, 101, 95, 95]) 173) (Value.str (Str.mk #[47, 99, 108, 97, 105, 109, 47, 99, 117, 116, 46, 112, 121]) 172), DictEntry.mk (PyData.keyHash P (Str.mk #[95, 95, 99, 97, 99, 104, 101, 100, 95, 95])) (Value.str (Str.mk #[95, 95, 99, 97, 99, 104, 101, 100, 95, 95]) 174) Value.none, DictEntry.mk (PyData.keyHash P (Str.mk #[95, 119, 97, 108, 108])) (Value.str (Str.mk #[95, 119, 97, 108, 108]) 193) (Value.ref 21), DictEntry.mk (PyData.keyHash P (Str.mk #[87, 104, 105, 116, 101, 115, 112, 97, 99, 101])) (Value.str (Str.mk #[87, 104, 105, 116, 101, 115, 112, 97, 99, 101]) 296) (Value.ref 83), DictEntry.mk (PyData.keyHash P (Str.mk #[67, 72, 65, 82, 95, 77, 65, 88])) (Value.str (Str.mk #[67, 72, 65, 82, 95, 77, 65, 88]) 300) (Value.int 127 299), DictEntry.mk (PyData.keyHash P (Str.mk #[95, 103, 114, 111, 117, 112, 105, 110, 103, 95, 105, 110, 116, 101, 114, 118, 97, 108, 115])) (Value.str (Str.mk #[95, 103, 114, 111, 117, 112, 105, 110, 103, 95, 105, 110, 116, 101, 114, 118, 97, 108, 115]) 309) (Value.ref 94), DictEntry.mk (PyData.keyHash P (Str.mk #[97, 100, 100])) (Value.str (Str.mk #[97, 100, 100]) 319) (Value.ref 101), DictEntry.mk (PyData.keyHash P (Str.mk #[109, 117, 108])) (Value.str (Str.mk #[109, 117, 108]) 327) (Value.ref 108), DictEntry.mk (PyData.keyHash P (Str.mk #[105, 110, 100, 101, 120, 79, 102])) (Value.str (Str.mk #[105, 110, 100, 101, 120, 79, 102]) 337) (Value.ref 115), DictEntry.mk (PyData.keyHash P (Str.mk #[98, 49, 95, 115, 101, 116])) (Value.str (Str.mk #[98, 49, 95, 115, 101, 116]) 399) (Value.ref 123)] 17) #[]
noncomputable def o116 (_ : Params) : Obj := Obj.mk (Value.type "list") none (Data.seq #[Value.int 173 340, Value.int 847 341, Value.int 6150 342, Value.int 6155 343, Value.int 6156 344, Value.int 6157 345, Value.int 8203 346, Value.int 8204 347, Value.int 8205 348, Value.int 8288 349, Value.int 65279 350]) #[]
noncomputable def o117 (_ : Params) : Obj := Obj.mk (Value.type "range") none (Data.fields #[Value.int 65024 351, Value.int 65040 352, Value.int 1 353]) #[]
noncomputable def o118 (_ : Params) : Obj := Obj.mk (Value.type "list") none (Data.seq #[Value.int 65024 356, Value.int 65025 357, Value.int 65026 358, Value.int 65027 359, Value.int 65028 360, Value.int 65029 361, Value.int 65030 362, Value.int 65031 363, Value.int 65032 364, Value.int 65033 365, Value.int 65034 366, Value.int 65035 367, Value.int 65036 368, Value.int 65037 369, Value.int 65038 370, Value.int 65039 371] 18) #[]
noncomputable def o119 (_ : Params) : Obj := Obj.mk (Value.type "range_iterator") none (Data.fields #[Value.int 65040 0, Value.int 0 0, Value.int 1 0]) #[]
noncomputable def o120 (_ : Params) : Obj := Obj.mk (Value.type "tuple") none (Data.seq #[]) #[]
noncomputable def o121 (_ : Params) : Obj := Obj.mk (Value.type "StopIteration") none (Data.fields #[Value.ref 120, Value.none, Value.none, Value.none, Value.bool false, Value.none]) #[]
noncomputable def o122 (_ : Params) : Obj := Obj.mk (Value.type "list") none (Data.seq #[Value.int 173 340, Value.int 847 341, Value.int 6150 342, Value.int 6155 343, Value.int 6156 344, Value.int 6157 345, Value.int 8203 346, Value.int 8204 347, Value.int 8205 348, Value.int 8288 349, Value.int 65279 350, Value.int 65024 356, Value.int 65025 357, Value.int 65026 358, Value.int 65027 359, Value.int 65028 360, Value.int 65029 361, Value.int 65030 362, Value.int 65031 363, Value.int 65032 364, Value.int 65033 365, Value.int 65034 366, Value.int 65035 367, Value.int 65036 368, Value.int 65037 369, Value.int 65038 370, Value.int 65039 371]) #[]
noncomputable def o123 (P : Params) : Obj := Obj.mk (Value.type "set") none (Data.set #[(65024, Value.int 65024 356), (65025, Value.int 65025 357), (65026, Value.int 65026 358), (65027, Value.int 65027 359), (65028, Value.int 65028 360), (65029, Value.int 65029 361), (6150, Value.int 6150 342), (65030, Value.int 65030 362), (65031, Value.int 65031 363), (65032, Value.int 65032 364), (65033, Value.int 65033 365), (6155, Value.int 6155 343), (6156, Value.int 6156 344), (6157, Value.int 6157 345), (8203, Value.int 8203 346), (8204, Value.int 8204 347), (8205, Value.int 8205 348), (65034, Value.int 65034 366), (65035, Value.int 65035 367), (65036, Value.int 65036 368), (65037, Value.int 65037 369), (65038, Value.int 65038 370), (65039, Value.int 65039 371), (173, Value.int 173 340), (847, Value.int 847 341), (8288, Value.int 8288 349), (65279, Value.int 65279 350)] 29 (SetTable.mk 127 #[0, 1, 2, 3, 4, 5, 6, 7, 8, 9, 10, 11, 12, 13, 14, 15, 16, 17, 18, 19, 20, 21, 22, 45, 79, 96, 127] #[] 0 (!P.followText "set-order") 2 true)) #[]
noncomputable def o124 (_ : Params) : Obj := Obj.mk (Value.type "list_iterator") none (Data.fields #[Value.none, Value.int 27 0]) #[]
noncomputable def o125 (_ : Params) : Obj := Obj.mk (Value.type "tuple") none (Data.seq #[]) #[]
noncomputable def o126 (_ : Params) : Obj := Obj.mk (Value.type "StopIteration") none (Data.fields #[Value.ref 125, Value.none, Value.none, Value.none, Value.bool false, Value.none]) #[]
noncomputable def T_12 (P : Params) : BT := (.node (boot_o_0 P) (.node (boot_o_1 P) (.node (o3_12 P) (.node (boot_o_7 P) (.node (o15 P) (.node (o31 P) (.node (o63 P) .nil .nil) (.node (o95 P) .nil .nil)) (.node (o47 P) (.node (o79 P) .nil .nil) (.node (o111 P) .nil .nil))) (.node (o23 P) (.node (o39 P) (.node (o71 P) .nil .nil) (.node (o103 P) .nil .nil)) (.node (o55 P) (.node (o87 P) .nil .nil) (.node (o119 P) .nil .nil)))) (.node (o11_pre P) (.node (o19 P) (.node (o35 P) (.node (o67 P) .nil .nil) (.node (o99 P) .nil .nil)) (.node (o51 P) (.node (o83 P) .nil .nil) (.node (o115 P) .nil .nil))) (.node (o27 P) (.node (o43 P) (.node (o75 P) .nil .nil) (.node (o107 P) .nil .nil)) (.node (o59 P) (.node (o91 P) .nil .nil) (.node (o123 P) .nil .nil))))) (.node (boot_o_5 P) (.node (boot_o_9 P) (.node (o17 P) (.node (o33 P) (.node (o65 P) .nil .nil) (.node (o97 P) .nil .nil)) (.node (o49 P) (.node (o81 P) .nil .nil) (.node (o113 P) .nil .nil))) (.node (o25 P) (.node (o41 P) (.node (o73 P) .nil .nil) (.node (o105 P) .nil .nil)) (.node (o57 P) (.node (o89 P) .nil .nil) (.node (o121 P) .nil .nil)))) (.node (o13_pre P) (.node (o21 P) (.node (o37 P) (.node (o69 P) .nil .nil) (.node (o101 P) .nil .nil)) (.node (o53 P) (.node (o85 P) .nil .nil) (.node (o117 P) .nil .nil))) (.node (o29 P) (.node (o45 P) (.node (o77 P) .nil .nil) (.node (o109 P) .nil .nil)) (.node (o61 P) (.node (o93 P) .nil .nil) (.node (o125 P) .nil .nil)))))) (.node (boot_o_2 P) (.node (boot_o_4 P) (.node (boot_o_8 P) (.node (o16 P) (.node (o32 P) (.node (o64 P) .nil .nil) (.node (o96 P) .nil .nil)) (.node (o48 P) (.node (o80 P) .nil .nil) (.node (o112 P) .nil .nil))) (.node (o24 P) (.node (o40 P) (.node (o72 P) .nil .nil) (.node (o104 P) .nil .nil)) (.node (o56 P) (.node (o88 P) .nil .nil) (.node (o120 P) .nil .nil)))) (.node (o12_11 P) (.node (o20 P) (.node (o36 P) (.node (o68 P) .nil .nil) (.node (o100 P) .nil .nil)) (.node (o52 P) (.node (o84 P) .nil .nil) (.node (o116 P) .nil .nil))) (.node (o28 P) (.node (o44 P) (.node (o76 P) .nil .nil) (.node (o108 P) .nil .nil)) (.node (o60 P) (.node (o92 P) .nil .nil) (.node (o124 P) .nil .nil))))) (.node (boot_o_6 P) (.node (boot_o_10 P) (.node (o18 P) (.node (o34 P) (.node (o66 P) .nil .nil) (.node (o98 P) .nil .nil)) (.node (o50 P) (.node (o82 P) .nil .nil) (.node (o114 P) .nil .nil))) (.node (o26 P) (.node (o42 P) (.node (o74 P) .nil .nil) (.node (o106 P) .nil .nil)) (.node (o58 P) (.node (o90 P) .nil .nil) (.node (o122 P) .nil .nil)))) (.node (o14_pre P) (.node (o22 P) (.node (o38 P) (.node (o70 P) .nil .nil) (.node (o102 P) .nil .nil)) (.node (o54 P) (.node (o86 P) .nil .nil) (.node (o118 P) .nil .nil))) (.node (o30 P) (.node (o46 P) (.node (o78 P) .nil .nil) (.node (o110 P) .nil .nil)) (.node (o62 P) (.node (o94 P) .nil .nil) (.node (o126 P) .nil .nil)))))))
noncomputable def o3_13 (P : Params) : Obj := Obj.mk (Value.type "dict") none (Data.dict #[DictEntry.mk (PyData.keyHash P (Str.mk #[95, 95, 110, 97, 109, 101, 95, 95])) (Value.str (Str.mk #[95, 95, 110, 97, 109, 101, 95, 95]) 165) (Value.str (Str.mk #[99, 112, 121, 51, 49, 51, 46, 115, 116, 114, 105, 110, 103, 112, 114, 101, 112]) 338), DictEntry.mk (PyData.keyHash P (Str.mk #[95, 95, 100, 111, 99, 95, 95])) (Value.str (Str.mk #[95, 95, 100, 111, 99, 95, 95]) 166) Value.none, DictEntry.mk (PyData.keyHash P (Str.mk #[95, 95, 112, 97, 99, 107, 97, 103, 101, 95, 95])) (Value.str (Str.mk #[95, 95, 112, 97, 99, 107, 97, 103, 101, 95, 95]) 167) Value.none, DictEntry.mk (PyData.keyHash P (Str.mk #[95, 95, 108, 111, 97, 100, 101, 114, 95, 95])) (Value.str (Str.mk #[95, 95, 108, 111, 97, 100, 101, 114, 95, 95]) 168) (Value.builtin "__main__.__loader__#opaque"), DictEntry.mk (PyData.keyHash P (Str.mk #[95, 95, 115, 112, 101, 99, 95, 95])) (Value.str (Str.mk #[95, 95, 115, 112, 101, 99, 95, 95]) 169) Value.none, DictEntry.mk (PyData.keyHash P (Str.mk #[95, 95, 97, 110, 110, 111, 116, 97, 116, 105, 111, 110, 115, 95, 95])) (Value.str (Str.mk #[95, 95, 97, 110, 110, 111, 116, 97, 116, 105, 111, 110, 115, 95, 95]) 170) (Value.ref 6), DictEntry.mk (PyData.keyHash P (Str.mk #[95, 95, 98, 117, 105, 108, 116, 105, 110, 115, 95, 95])) (Value.str (Str.mk #[95, 95, 98, 117, 105, 108, 116, 105, 110, 115, 95, 95]) 171) (Value.ref 4), DictEntry.mk (PyData.keyHash P (Str.mk #[95, 95, 102, 105, 108, 101, 95, 95])) (Value.str (Str.mk #[95, 95, 102, 105, 108, 101, 95, 95]) 173) (Value.str (Str.mk #[47, 99, 108, 97, 105, 109, 47, 99, 117, 116, 46, 112, 121]) 172), DictEntry.mk (PyData.keyHash P (Str.mk #[95, 95, 99, 97, 99, 104, 101, 100, 95, 95])) (Value.str (Str.mk #[95, 95, 99, 97, 99, 104, 101, 100, 95, 95]) 174) Value.none, DictEntry.mk (PyData.keyHash P (Str.mk #[95, 119, 97, 108, 108])) (Value.str (Str.mk #[95, 119, 97, 108, 108]) 193) (Value.ref 21), DictEntry.mk (PyData.keyHash P (Str.mk #[87, 104, 105, 116, 101, 115, 112, 97, 99, 101])) (Value.str (Str.mk #[87, 104, 105, 116, 101, 115, 112, 97, 99, 101]) 296) (Value.ref 83), DictEntry.mk (PyData.keyHash P (Str.mk #[67, 72, 65, 82, 95, 77, 65, 88])) (Value.str (Str.mk #[67, 72, 65, 82, 95, 77, 65, 88]) 300) (Value.int 127 299), DictEntry.mk (PyData.keyHash P (Str.mk #[95, 103, 114, 111, 117, 112, 105, 110, 103, 95, 105, 110, 116, 101, 114, 118, 97, 108, 115])) (Value.str (Str.mk #[95, 103, 114, 111, 117, 112, 105, 110, 103, 95, 105, 110, 116, 101, 114, 118, 97, 108, 115]) 309) (Value.ref 94), DictEntry.mk (PyData.keyHash P (Str.mk #[97, 100, 100])) (Value.str (Str.mk #[97, 100, 100]) 319) (Value.ref 101), DictEntry.mk (PyData.keyHash P (Str.mk #[109, 117, 108])) (Value.str (Str.mk #[109, 117, 108]) 327) (Value.ref 108), DictEntry.mk (PyData.keyHash P (Str.mk #[105, 110, 100, 101, 120, 79, 102])) (Value.str (Str.mk #[105, 110, 100, 101, 120, 79, 102]) 337) (Value.ref 115), DictEntry.mk (PyData.keyHash P (Str.mk #[98, 49, 95, 115, 101, 116])) (Value.str (Str.mk #[98, 49, 95, 115, 101, 116]) 399) (Value.ref 123), DictEntry.mk (PyData.keyHash P (Str.mk #[105, 110, 95, 116, 97, 98, 108, 101, 95, 98, 49])) (Value.str (Str.mk #[105, 110, 95, 116, 97, 98, 108, 101, 95, 98, 49]) 406) (Value.ref 133)] 18) #[]
noncomputable def o12_13 (_ : Params) : Obj := Obj.mk Value.none none (Data.fields #[Value.int 1 0, Value.int 0 0, Value.ref 20, Value.int 5 0, Value.int 0 0, Value.ref 27, Value.int 60 0, Value.int 0 0, Value.ref 93, Value.int 73 0, Value.int 0 0, Value.ref 100, Value.int 75 0, Value.int 0 0, Value.ref 107, Value.int 77 0, Value.int 0 0, Value.ref 114, Value.int 85 0, Value.int 0 0, Value.ref 132]) #[]
noncomputable def o127 (_ : Params) : Obj := Obj.mk (Value.type "tuple") none (Data.seq #[]) #[]
noncomputable def o128 (_ : Params) : Obj := Obj.mk Value.none none (Data.fields #[]) #[]
noncomputable def o129 (_ : Params) : Obj := Obj.mk (Value.type "tuple") none (Data.seq #[Value.str (Str.mk #[99, 111, 100, 101]) 403]) #[]
noncomputable def o130 (_ : Params) : Obj := Obj.mk (Value.type "tuple") none (Data.seq #[]) #[]
noncomputable def o131 (_ : Params) : Obj := Obj.mk Value.none none (Data.func (FuncData.mk (Str.mk #[105, 110, 95, 116, 97, 98, 108, 101, 95, 98, 49]) (Str.mk #[105, 110, 95, 116, 97, 98, 108, 101, 95, 98, 49]) A12 (.stmts B12) C12 0 [] Value.none Value.none Value.none Value.none none Value.none Value.none 0)) #[]
noncomputable def o132 (_ : Params) : Obj := Obj.mk (Value.type "code") none (Data.fields #[Value.str (Str.mk #[105, 110, 95, 116, 97, 98, 108, 101, 95, 98, 49]) 400, Value.str (Str.mk #[105, 110, 95, 116, 97, 98, 108, 101, 95, 98, 49]) 401, Value.str (Str.mk #[47, 99, 108, 97, 105, 109, 47, 99, 117, 116, 46, 112, 121]) 402, Value.int 85 0, Value.int 1 0, Value.int 0 0, Value.int 0 0, Value.int 3 0, Value.ref 127, Value.bool true, Value.int 181 0, Value.ref 128, Value.none, Value.ref 129, Value.ref 130, Value.ref 131, Value.int 404 0, Value.int 85 0, Value.str (Str.mk #[47, 99, 108, 97, 105, 109, 47, 99, 117, 116, 46, 112, 121]) 405]) #[]
noncomputable def o133 (_ : Params) : Obj := Obj.mk (Value.type "function") none (Data.func (FuncData.mk (Str.mk #[105, 110, 95, 116, 97, 98, 108, 101, 95, 98, 49]) (Str.mk #[105, 110, 95, 116, 97, 98, 108, 101, 95, 98, 49]) A12 (.stmts B12) C12 3 [] Value.none Value.none Value.none (Value.str (Str.mk #[99, 112, 121, 51, 49, 51, 46, 115, 116, 114, 105, 110, 103, 112, 114, 101, 112]) 338) none (Value.ref 132) Value.none 0)) #[]
noncomputable def T_13 (P : Params) : BT := (.node (boot_o_0 P) (.node (boot_o_1 P) (.node (o3_13 P) (.node (boot_o_7 P) (.node (o15 P) (.node (o31 P) (.node (o63 P) (.node (o127 P) .nil .nil) .nil) (.node (o95 P) .nil .nil)) (.node (o47 P) (.node (o79 P) .nil .nil) (.node (o111 P) .nil .nil))) (.node (o23 P) (.node (o39 P) (.node (o71 P) .nil .nil) (.node (o103 P) .nil .nil)) (.node (o55 P) (.node (o87 P) .nil .nil) (.node (o119 P) .nil .nil)))) (.node (o11_pre P) (.node (o19 P) (.node (o35 P) (.node (o67 P) (.node (o131 P) .nil .nil) .nil) (.node (o99 P) .nil .nil)) (.node (o51 P) (.node (o83 P) .nil .nil) (.node (o115 P) .nil .nil))) (.node (o27 P) (.node (o43 P) (.node (o75 P) .nil .nil) (.node (o107 P) .nil .nil)) (.node (o59 P) (.node (o91 P) .nil .nil) (.node (o123 P) .nil .nil))))) (.node (boot_o_5 P) (.node (boot_o_9 P) (.node (o17 P) (.node (o33 P) (.node (o65 P) (.node (o129 P) .nil .nil) .nil) (.node (o97 P) .nil .nil)) (.node (o49 P) (.node (o81 P) .nil .nil) (.node (o113 P) .nil .nil))) (.node (o25 P) (.node (o41 P) (.node (o73 P) .nil .nil) (.node (o105 P) .nil .nil)) (.node (o57 P) (.node (o89 P) .nil .nil) (.node (o121 P) .nil .nil)))) (.node (o13_pre P) (.node (o21 P) (.node (o37 P) (.node (o69 P) (.node (o133 P) .nil .nil) .nil) (.node (o101 P) .nil .nil)) (.node (o53 P) (.node (o85 P) .nil .nil) (.node (o117 P) .nil .nil))) (.node (o29 P) (.node (o45 P) (.node (o77 P) .nil .nil) (.node (o109 P) .nil .nil)) (.node (o61 P) (.node (o93 P) .nil .nil) (.node (o125 P) .nil .nil)))))) (.node (boot_o_2 P) (.node (boot_o_4 P) (.node (boot_o_8 P) (.node (o16 P) (.node (o32 P) (.node (o64 P) (.node (o128 P) .nil .nil) .nil) (.node (o96 P) .nil .nil)) (.node (o48 P) (.node (o80 P) .nil .nil) (.node (o112 P) .nil .nil))) (.node (o24 P) (.node (o40 P) (.node (o72 P) .nil .nil) (.node (o104 P) .nil .nil)) (.node (o56 P) (.node (o88 P) .nil .nil) (.node (o120 P) .nil .nil)))) (.node (o12_13 P) (.node (o20 P) (.node (o36 P) (.node (o68 P) (.node (o132 P) .nil .nil) .nil) (.node (o100 P) .nil .nil)) (.node (o52 P) (.node (o84 P) .nil .nil) (.node (o116 P) .nil .nil))) (.node (o28 P) (.node (o44 P) (.node (o76 P) .nil .nil) (.node (o108 P) .nil .nil)) (.node (o60 P) (.node (o92 P) .nil .nil) (.node (o124 P) .nil .nil))))) (.node (boot_o_6 P) (.node (boot_o_10 P) (.node (o18 P) (.node (o34 P) (.node (o66 P) (.node (o130 P) .nil .nil) .nil) (.node (o98 P) .nil .nil)) (.node (o50 P) (.node (o82 P) .nil .nil) (.node (o114 P) .nil .nil))) (.node (o26 P) (.node (o42 P) (.node (o74 P) .nil .nil) (.node (o106 P) .nil .nil)) (.node (o58 P) (.node (o90 P) .nil .nil) (.node (o122 P) .nil .nil)))) (.node (o14_pre P) (.node (o22 P) (.node (o38 P) (.node (o70 P) .nil .nil) (.node (o102 P) .nil .nil)) (.node (o54 P) (.node (o86 P) .nil .nil) (.node (o118 P) .nil .nil))) (.node (o30 P) (.node (o46 P) (.node (o78 P) .nil .nil) (.node (o110 P) .nil .nil)) (.node (o62 P) (.node (o94 P) .nil .nil) (.node (o126 P) .nil .nil)))))))
noncomputable def o3_14 (P : Params) : Obj := Obj.mk (Value.type "dict") none (Data.dict #[DictEntry.mk (PyData.keyHash P (Str.mk #[95, 95, 110, 97, 109, 101, 95, 95])) (Value.str (Str.mk #[95, 95, 110, 97, 109, 101, 95, 95]) 165) (Value.str (Str.mk #[99, 112, 121, 51, 49, 51, 46, 115, 116, 114, 105, 110, 103, 112, 114, 101, 112]) 338), DictEntry.mk (PyData.keyHash P (Str.mk #[95, 95, 100, 111, 99, 95, 95])) (Value.str (Str.mk #[95, 95, 100, 111, 99, 95, 95]) 166) Value.none, DictEntry.mk (PyData.keyHash P (Str.mk #[95, 95, 112, 97, 99, 107, 97, 103, 101, 95, 95])) (Value.str (Str.mk #[95, 95, 112, 97, 99, 107, 97, 103, 101, 95, 95]) 167) Value.none, DictEntry.mk (PyData.keyHash P (Str.mk #[95, 95, 108, 111, 97, 100, 101, 114, 95, 95])) (Value.str (Str.mk #[95, 95, 108, 111, 97, 100, 101, 114, 95, 95]) 168) (Value.builtin "__main__.__loader__#opaque"), DictEntry.mk (PyData.keyHash P (Str.mk #[95, 95, 115, 112, 101, 99, 95, 95])) (Value.str (Str.mk #[95, 95, 115, 112, 101, 99, 95, 95]) 169) Value.none, DictEntry.mk (PyData.keyHash P (Str.mk #[95, 95, 97, 110, 110, 111, 116, 97, 116, 105, 111, 110, 115, 95, 95])) (Value.str (Str.mk #[95, 95, 97, 110, 110, 111, 116, 97, 116, 105, 111, 110, 115, 95, 95]) 170) (Value.ref 6), DictEntry.mk (PyData.keyHash P (Str.mk #[95, 95, 98, 117, 105, 108, 116, 105, 110, 115, 95, 95])) (Value.str (Str.mk #[95, 95, 98, 117, 105, 108, 116, 105, 110, 115, 95, 95]) 171) (Value.ref 4), DictEntry.mk (PyData.keyHash P (Str.mk #[95, 95, 102, 105, 108, 101, 95, 95])) (Value.str (Str.mk #[95, 95, 102, 105, 108, 101, 95, 95]) 173) (Value.str (Str.mk #[47, 99, 108, 97, 105, 109, 47, 99, 117, 116, 46, 112, 121]) 172), DictEntry.mk (PyData.keyHash P (Str.mk #[95, 95, 99, 97, 99, 104, 101, 100, 95, 95])) (Value.str (Str.mk #[95, 95, 99, 97, 99, 104, 101, 100, 95, 95]) 174) Value.none, DictEntry.mk (PyData.keyHash P (Str.mk #[95, 119, 97, 108, 108])) (Value.str (Str.mk #[95, 119, 97, 108, 108]) 193) (Value.ref 21), DictEntry.mk (PyData.keyHash P (Str.mk #[87, 104, 105, 116, 101, 115, 112, 97, 99, 101])) (Value.str (Str.mk #[87, 104, 105, 116, 101, 115, 112, 97, 99, 101]) 296) (Value.ref 83), DictEntry.mk (PyData.keyHash P (Str.mk #[67, 72, 65, 82, 95, 77, 65, 88])) (Value.str (Str.mk #[67, 72, 65, 82, 95, 77, 65, 88]) 300) (Value.int 127 299), DictEntry.mk (PyData.keyHash P (Str.mk #[95, 103, 114, 111, 117, 112, 105, 110, 103, 95, 105, 110, 116, 101, 114, 118, 97, 108, 115])) (Value.str (Str.mk #[95, 103, 114, 111, 117, 112, 105, 110, 103, 95, 105, 110, 116, 101, 114, 118, 97, 108, 115]) 309) (Value.ref 94), DictEntry.mk (PyData.keyHash P (Str.mk #[97, 100, 100])) (Value.str (Str.mk #[97, 100, 100]) 319) (Value.ref 101), DictEntry.mk (PyData.keyHash P (Str.mk #[109, 117, 108])) (Value.str (Str.mk #[109, 117, 108]) 327) (Value.ref 108), DictEntry.mk (PyData.keyHash P (Str.mk #[105, 110, 100, 101, 120, 79, 102])) (Value.str (Str.mk #[105, 110, 100, 101, 120, 79, 102]) 337) (Value.ref 115), DictEntry.mk (PyData.keyHash P (Str.mk #[98, 49, 95, 115, 101, 116])) (Value.str (Str.mk #[98, 49, 95, 115, 101, 116]) 399) (Value.ref 123), DictEntry.mk (PyData.keyHash P (Str.mk #[105, 110, 95, 116, 97, 98, 108, 101, 95, 98, 49])) (Value.str (Str.mk #[105, 110, 95, 116, 97, 98, 108, 101, 95, 98, 49]) 406) (Value.ref 133), DictEntry.mk (PyData.keyHash P (Str.mk #[98, 51, 95, 101, 120, 99, 101, 112, 116, 105, 111, 110, 115])) (Value.str (Str.mk #[98, 51, 95, 101, 120, 99, 101, 112, 116, 105, 111, 110, 115]) 2357) (Value.ref 134)] 19) #[]
noncomputable def o134 (_ : Params) : Obj := dct es13.toArray 650
noncomputable def o135 (_ : Params) : Obj := sub13 0
noncomputable def o136 (_ : Params) : Obj := sub13 1
noncomputable def o137 (_ : Params) : Obj := sub13 2
noncomputable def o138 (_ : Params) : Obj := sub13 3
noncomputable def o139 (_ : Params) : Obj := sub13 4
noncomputable def o140 (_ : Params) : Obj := sub13 5
noncomputable def o141 (_ : Params) : Obj := sub13 6
noncomputable def o142 (_ : Params) : Obj := sub13 7
noncomputable def o143 (_ : Params) : Obj := sub13 8
noncomputable def o144 (_ : Params) : Obj := sub13 9
noncomputable def o145 (_ : Params) : Obj := sub13 10
noncomputable def o146 (_ : Params) : Obj := sub13 11
noncomputable def o147 (_ : Params) : Obj := sub13 12
noncomputable def o148 (_ : Params) : Obj := sub13 13
noncomputable def o149 (_ : Params) : Obj := sub13 14
noncomputable def o150 (_ : Params) : Obj := sub13 15
noncomputable def o151 (_ : Params) : Obj := sub13 16
noncomputable def o152 (_ : Params) : Obj := sub13 17
noncomputable def o153 (_ : Params) : Obj := sub13 18
noncomputable def o154 (_ : Params) : Obj := sub13 19
noncomputable def o155 (_ : Params) : Obj := sub13 20
noncomputable def o156 (_ : Params) : Obj := sub13 21
noncomputable def o157 (_ : Params) : Obj := sub13 22
noncomputable def o158 (_ : Params) : Obj := sub13 23
noncomputable def o159 (_ : Params) : Obj := sub13 24
noncomputable def o160 (_ : Params) : Obj := sub13 25
noncomputable def o161 (_ : Params) : Obj := sub13 26
noncomputable def o162 (_ : Params) : Obj := sub13 27
noncomputable def o163 (_ : Params) : Obj := sub13 28
noncomputable def o164 (_ : Params) : Obj := sub13 29
noncomputable def o165 (_ : Params) : Obj := sub13 30
noncomputable def o166 (_ : Params) : Obj := sub13 31
noncomputable def o167 (_ : Params) : Obj := sub13 32
noncomputable def o168 (_ : Params) : Obj := sub13 33
noncomputable def o169 (_ : Params) : Obj := sub13 34
noncomputable def o170 (_ : Params) : Obj := sub13 35
noncomputable def o171 (_ : Params) : Obj := sub13 36
noncomputable def o172 (_ : Params) : Obj := sub13 37
noncomputable def T_14 (P : Params) : BT := (.node (boot_o_0 P) (.node (boot_o_1 P) (.node (o3_14 P) (.node (boot_o_7 P) (.node (o15 P) (.node (o31 P) (.node (o63 P) (.node (o127 P) .nil .nil) .nil) (.node (o95 P) (.node (o159 P) .nil .nil) .nil)) (.node (o47 P) (.node (o79 P) (.node (o143 P) .nil .nil) .nil) (.node (o111 P) .nil .nil))) (.node (o23 P) (.node (o39 P) (.node (o71 P) (.node (o135 P) .nil .nil) .nil) (.node (o103 P) (.node (o167 P) .nil .nil) .nil)) (.node (o55 P) (.node (o87 P) (.node (o151 P) .nil .nil) .nil) (.node (o119 P) .nil .nil)))) (.node (o11_pre P) (.node (o19 P) (.node (o35 P) (.node (o67 P) (.node (o131 P) .nil .nil) .nil) (.node (o99 P) (.node (o163 P) .nil .nil) .nil)) (.node (o51 P) (.node (o83 P) (.node (o147 P) .nil .nil) .nil) (.node (o115 P) .nil .nil))) (.node (o27 P) (.node (o43 P) (.node (o75 P) (.node (o139 P) .nil .nil) .nil) (.node (o107 P) (.node (o171 P) .nil .nil) .nil)) (.node (o59 P) (.node (o91 P) (.node (o155 P) .nil .nil) .nil) (.node (o123 P) .nil .nil))))) (.node (boot_o_5 P) (.node (boot_o_9 P) (.node (o17 P) (.node (o33 P) (.node (o65 P) (.node (o129 P) .nil .nil) .nil) (.node (o97 P) (.node (o161 P) .nil .nil) .nil)) (.node (o49 P) (.node (o81 P) (.node (o145 P) .nil .nil) .nil) (.node (o113 P) .nil .nil))) (.node (o25 P) (.node (o41 P) (.node (o73 P) (.node (o137 P) .nil .nil) .nil) (.node (o105 P) (.node (o169 P) .nil .nil) .nil)) (.node (o57 P) (.node (o89 P) (.node (o153 P) .nil .nil) .nil) (.node (o121 P) .nil .nil)))) (.node (o13_pre P) (.node (o21 P) (.node (o37 P) (.node (o69 P) (.node (o133 P) .nil .nil) .nil) (.node (o101 P) (.node (o165 P) .nil .nil) .nil)) (.node (o53 P) (.node (o85 P) (.node (o149 P) .nil .nil) .nil) (.node (o117 P) .nil .nil))) (.node (o29 P) (.node (o45 P) (.node (o77 P) (.node (o141 P) .nil .nil) .nil) (.node (o109 P) .nil .nil)) (.node (o61 P) (.node (o93 P) (.node (o157 P) .nil .nil) .nil) (.node (o125 P) .nil .nil)))))) (.node (boot_o_2 P) (.node (boot_o_4 P) (.node (boot_o_8 P) (.node (o16 P) (.node (o32 P) (.node (o64 P) (.node (o128 P) .nil .nil) .nil) (.node (o96 P) (.node (o160 P) .nil .nil) .nil)) (.node (o48 P) (.node (o80 P) (.node (o144 P) .nil .nil) .nil) (.node (o112 P) .nil .nil))) (.node (o24 P) (.node (o40 P) (.node (o72 P) (.node (o136 P) .nil .nil) .nil) (.node (o104 P) (.node (o168 P) .nil .nil) .nil)) (.node (o56 P) (.node (o88 P) (.node (o152 P) .nil .nil) .nil) (.node (o120 P) .nil .nil)))) (.node (o12_13 P) (.node (o20 P) (.node (o36 P) (.node (o68 P) (.node (o132 P) .nil .nil) .nil) (.node (o100 P) (.node (o164 P) .nil .nil) .nil)) (.node (o52 P) (.node (o84 P) (.node (o148 P) .nil .nil) .nil) (.node (o116 P) .nil .nil))) (.node (o28 P) (.node (o44 P) (.node (o76 P) (.node (o140 P) .nil .nil) .nil) (.node (o108 P) (.node (o172 P) .nil .nil) .nil)) (.node (o60 P) (.node (o92 P) (.node (o156 P) .nil .nil) .nil) (.node (o124 P) .nil .nil))))) (.node (boot_o_6 P) (.node (boot_o_10 P) (.node (o18 P) (.node (o34 P) (.node (o66 P) (.node (o130 P) .nil .nil) .nil) (.node (o98 P) (.node (o162 P) .nil .nil) .nil)) (.node (o50 P) (.node (o82 P) (.node (o146 P) .nil .nil) .nil) (.node (o114 P) .nil .nil))) (.node (o26 P) (.node (o42 P) (.node (o74 P) (.node (o138 P) .nil .nil) .nil) (.node (o106 P) (.node (o170 P) .nil .nil) .nil)) (.node (o58 P) (.node (o90 P) (.node (o154 P) .nil .nil) .nil) (.node (o122 P) .nil .nil)))) (.node (o14_pre P) (.node (o22 P) (.node (o38 P) (.node (o70 P) (.node (o134 P) .nil .nil) .nil) (.node (o102 P) (.node (o166 P) .nil .nil) .nil)) (.node (o54 P) (.node (o86 P) (.node (o150 P) .nil .nil) .nil) (.node (o118 P) .nil .nil))) (.node (o30 P) (.node (o46 P) (.node (o78 P) (.node (o142 P) .nil .nil) .nil) (.node (o110 P) .nil .nil)) (.node (o62 P) (.node (o94 P) (.node (o158 P) .nil .nil) .nil) (.node (o126 P) .nil .nil)))))))
noncomputable def o3_25 (P : Params) : Obj := Obj.mk (Value.type "dict") none (Data.dict #[DictEntry.mk (PyData.keyHash P (Str.mk #[95, 95, 110, 97, 109, 101, 95, 95])) (Value.str (Str.mk #[95, 95, 110, 97, 109, 101, 95, 95]) 165) (Value.str (Str.mk #[108, 97, 119, 95, 116, 108, 48, 48, 53, 48, 95, 48, 49]) 2366), DictEntry.mk (PyData.keyHash P (Str.mk #[95, 95, 100, 111, 99, 95, 95])) (Value.str (Str.mk #[95, 95, 100, 111, 99, 95, 95]) 166) Value.none, DictEntry.mk (PyData.keyHash P (Str.mk #[95, 95, 112, 97, 99, 107, 97, 103, 101, 95, 95])) (Value.str (Str.mk #[95, 95, 112, 97, 99, 107, 97, 103, 101, 95, 95]) 167) Value.none, DictEntry.mk (PyData.keyHash P (Str.mk #[95, 95, 108, 111, 97, 100, 101, 114, 95, 95])) (Value.str (Str.mk #[95, 95, 108, 111, 97, 100, 101, 114, 95, 95]) 168) (Value.builtin "__main__.__loader__#opaque"), DictEntry.mk (PyData.keyHash P (Str.mk #[95, 95, 115, 112, 101, 99, 95, 95])) (Value.str (Str.mk #[95, 95, 115, 112, 101, 99, 95, 95]) 169) Value.none, DictEntry.mk (PyData.keyHash P (Str.mk #[95, 95, 97, 110, 110, 111, 116, 97, 116, 105, 111, 110, 115, 95, 95])) (Value.str (Str.mk #[95, 95, 97, 110, 110, 111, 116, 97, 116, 105, 111, 110, 115, 95, 95]) 170) (Value.ref 6), DictEntry.mk (PyData.keyHash P (Str.mk #[95, 95, 98, 117, 105, 108, 116, 105, 110, 115, 95, 95])) (Value.str (Str.mk #[95, 95, 98, 117, 105, 108, 116, 105, 110, 115, 95, 95]) 171) (Value.ref 4), DictEntry.mk (PyData.keyHash P (Str.mk #[95, 95, 102, 105, 108, 101, 95, 95])) (Value.str (Str.mk #[95, 95, 102, 105, 108, 101, 95, 95]) 173) (Value.str (Str.mk #[47, 99, 108, 97, 105, 109, 47, 99, 117, 116, 46, 112, 121]) 172), DictEntry.mk (PyData.keyHash P (Str.mk #[95, 95, 99, 97, 99, 104, 101, 100, 95, 95])) (Value.str (Str.mk #[95, 95, 99, 97, 99, 104, 101, 100, 95, 95]) 174) Value.none, DictEntry.mk (PyData.keyHash P (Str.mk #[95, 119, 97, 108, 108])) (Value.str (Str.mk #[95, 119, 97, 108, 108]) 193) (Value.ref 21), DictEntry.mk (PyData.keyHash P (Str.mk #[87, 104, 105, 116, 101, 115, 112, 97, 99, 101])) (Value.str (Str.mk #[87, 104, 105, 116, 101, 115, 112, 97, 99, 101]) 296) (Value.ref 83), DictEntry.mk (PyData.keyHash P (Str.mk #[67, 72, 65, 82, 95, 77, 65, 88])) (Value.str (Str.mk #[67, 72, 65, 82, 95, 77, 65, 88]) 300) (Value.int 127 299), DictEntry.mk (PyData.keyHash P (Str.mk #[95, 103, 114, 111, 117, 112, 105, 110, 103, 95, 105, 110, 116, 101, 114, 118, 97, 108, 115])) (Value.str (Str.mk #[95, 103, 114, 111, 117, 112, 105, 110, 103, 95, 105, 110, 116, 101, 114, 118, 97, 108, 115]) 309) (Value.ref 94), DictEntry.mk (PyData.keyHash P (Str.mk #[97, 100, 100])) (Value.str (Str.mk #[97, 100, 100]) 319) (Value.ref 101), DictEntry.mk (PyData.keyHash P (Str.mk #[109, 117, 108])) (Value.str (Str.mk #[109, 117, 108]) 327) (Value.ref 108), DictEntry.mk (PyData.keyHash P (Str.mk #[105, 110, 100, 101, 120, 79, 102])) (Value.str (Str.mk #[105, 110, 100, 101, 120, 79, 102]) 337) (Value.ref 115), DictEntry.mk (PyData.keyHash P (Str.mk #[98, 49, 95, 115, 101, 116])) (Value.str (Str.mk #[98, 49, 95, 115, 101, 116]) 399) (Value.ref 123), DictEntry.mk (PyData.keyHash P (Str.mk #[105, 110, 95, 116, 97, 98, 108, 101, 95, 98, 49])) (Value.str (Str.mk #[105, 110, 95, 116, 97, 98, 108, 101, 95, 98, 49]) 406) (Value.ref 133), DictEntry.mk (PyData.keyHash P (Str.mk #[98, 51, 95, 101, 120, 99, 101, 112, 116, 105, 111, 110, 115])) (Value.str (Str.mk #[98, 51, 95, 101, 120, 99, 101, 112, 116, 105, 111, 110, 115]) 2357) (Value.ref 134), DictEntry.mk (PyData.keyHash P (Str.mk #[109, 97, 112, 95, 116, 97, 98, 108, 101, 95, 98, 51])) (Value.str (Str.mk #[109, 97, 112, 95, 116, 97, 98, 108, 101, 95, 98, 51]) 2365) (Value.ref 179), DictEntry.mk (PyData.keyHash P (Str.mk #[95, 108, 97, 119, 95, 116, 121, 112, 101, 100])) (Value.str (Str.mk #[95, 108, 97, 119, 95, 116, 121, 112, 101, 100]) 2375) (Value.ref 186), DictEntry.mk (PyData.keyHash P (Str.mk #[95, 108, 97, 119, 95, 109, 101, 97, 110, 116])) (Value.str (Str.mk #[95, 108, 97, 119, 95, 109, 101, 97, 110, 116]) 2382) (Value.ref 193), DictEntry.mk (PyData.keyHash P (Str.mk #[95, 108, 97, 119, 95, 112, 114, 101, 112, 97, 114, 101, 100])) (Value.str (Str.mk #[95, 108, 97, 119, 95, 112, 114, 101, 112, 97, 114, 101, 100]) 2388) (Value.ref 198), DictEntry.mk (PyData.keyHash P (Str.mk #[95, 108, 97, 119, 95, 109, 97, 114, 107, 115])) (Value.str (Str.mk #[95, 108, 97, 119, 95, 109, 97, 114, 107, 115]) 2400) (Value.ref 205), DictEntry.mk (PyData.keyHash P (Str.mk #[95, 108, 97, 119, 95, 116, 111, 108, 100])) (Value.str (Str.mk #[95, 108, 97, 119, 95, 116, 111, 108, 100]) 2406) (Value.ref 210), DictEntry.mk (PyData.keyHash P (Str.mk #[95, 108, 97, 119, 95, 99, 111, 108, 117, 109, 110, 115])) (Value.str (Str.mk #[95, 108, 97, 119, 95, 99, 111, 108, 117, 109, 110, 115]) 2413) (Value.ref 217), DictEntry.mk (PyData.keyHash P (Str.mk #[95, 108, 97, 119, 95, 100, 117, 101])) (Value.str (Str.mk #[95, 108, 97, 119, 95, 100, 117, 101]) 2419) (Value.ref 222), DictEntry.mk (PyData.keyHash P (Str.mk #[95, 108, 97, 119, 95, 98, 97, 114, 101])) (Value.str (Str.mk #[95, 108, 97, 119, 95, 98, 97, 114, 101]) 2425) (Value.ref 227), DictEntry.mk (PyData.keyHash P (Str.mk #[108, 97, 119])) (Value.str (Str.mk #[108, 97, 119]) 2431) (Value.ref 232)] 29) #[]
noncomputable def o12_25 (_ : Params) : Obj := Obj.mk Value.none none (Data.fields #[Value.int 1 0, Value.int 0 0, Value.ref 20, Value.int 5 0, Value.int 0 0, Value.ref 27, Value.int 60 0, Value.int 0 0, Value.ref 93, Value.int 73 0, Value.int 0 0, Value.ref 100, Value.int 75 0, Value.int 0 0, Value.ref 107, Value.int 77 0, Value.int 0 0, Value.ref 114, Value.int 85 0, Value.int 0 0, Value.ref 132, Value.int 88 0, Value.int 0 0, Value.ref 178, Value.int 94 0, Value.int 0 0, Value.ref 185, Value.int 99 0, Value.int 0 0, Value.ref 192, Value.int 101 0, Value.int 0 0, Value.ref 197, Value.int 103 0, Value.int 0 0, Value.ref 204, Value.int 111 0, Value.int 0 0, Value.ref 209, Value.int 122 0, Value.int 0 0, Value.ref 216, Value.int 124 0, Value.int 0 0, Value.ref 221, Value.int 133 0, Value.int 0 0, Value.ref 226, Value.int 139 0, Value.int 0 0, Value.ref 231]) #[]
noncomputable def o173 (_ : Params) : Obj := Obj.mk (Value.type "tuple") none (Data.seq #[]) #[]
noncomputable def o174 (_ : Params) : Obj := Obj.mk Value.none none (Data.fields #[]) #[]
noncomputable def o175 (_ : Params) : Obj := Obj.mk (Value.type "tuple") none (Data.seq #[Value.str (Str.mk #[99, 111, 100, 101]) 2361, Value.str (Str.mk #[114]) 2362]) #[]
noncomputable def o176 (_ : Params) : Obj := Obj.mk (Value.type "tuple") none (Data.seq #[]) #[]
noncomputable def o177 (_ : Params) : Obj := Obj.mk Value.none none (Data.func (FuncData.mk (Str.mk #[109, 97, 112, 95, 116, 97, 98, 108, 101, 95, 98, 51]) (Str.mk #[109, 97, 112, 95, 116, 97, 98, 108, 101, 95, 98, 51]) A14 (.stmts B14) C14 0 [] Value.none Value.none Value.none Value.none none Value.none Value.none 0)) #[]
noncomputable def o178 (_ : Params) : Obj := Obj.mk (Value.type "code") none (Data.fields #[Value.str (Str.mk #[109, 97, 112, 95, 116, 97, 98, 108, 101, 95, 98, 51]) 2358, Value.str (Str.mk #[109, 97, 112, 95, 116, 97, 98, 108, 101, 95, 98, 51]) 2359, Value.str (Str.mk #[47, 99, 108, 97, 105, 109, 47, 99, 117, 116, 46, 112, 121]) 2360, Value.int 88 0, Value.int 1 0, Value.int 0 0, Value.int 0 0, Value.int 3 0, Value.ref 173, Value.bool true, Value.int 181 0, Value.ref 174, Value.none, Value.ref 175, Value.ref 176, Value.ref 177, Value.int 2363 0, Value.int 88 0, Value.str (Str.mk #[47, 99, 108, 97, 105, 109, 47, 99, 117, 116, 46, 112, 121]) 2364]) #[]
noncomputable def o179 (_ : Params) : Obj := Obj.mk (Value.type "function") none (Data.func (FuncData.mk (Str.mk #[109, 97, 112, 95, 116, 97, 98, 108, 101, 95, 98, 51]) (Str.mk #[109, 97, 112, 95, 116, 97, 98, 108, 101, 95, 98, 51]) A14 (.stmts B14) C14 3 [] Value.none Value.none Value.none (Value.str (Str.mk #[99, 112, 121, 51, 49, 51, 46, 115, 116, 114, 105, 110, 103, 112, 114, 101, 112]) 338) none (Value.ref 178) Value.none 0)) #[]
noncomputable def o180 (_ : Params) : Obj := Obj.mk (Value.type "tuple") none (Data.seq #[]) #[]
noncomputable def o181 (_ : Params) : Obj := Obj.mk Value.none none (Data.fields #[]) #[]
noncomputable def o182 (_ : Params) : Obj := Obj.mk (Value.type "tuple") none (Data.seq #[Value.str (Str.mk #[110, 117, 109, 98, 101, 114]) 2371, Value.str (Str.mk #[97, 104, 101, 97, 100]) 2372]) #[]
noncomputable def o183 (_ : Params) : Obj := Obj.mk (Value.type "tuple") none (Data.seq #[]) #[]
noncomputable def o184 (_ : Params) : Obj := Obj.mk Value.none none (Data.func (FuncData.mk (Str.mk #[95, 108, 97, 119, 95, 116, 121, 112, 101, 100]) (Str.mk #[95, 108, 97, 119, 95, 116, 121, 112, 101, 100]) A16 (.stmts B16) C16 0 [] Value.none Value.none Value.none Value.none none Value.none Value.none 0)) #[]
noncomputable def o185 (_ : Params) : Obj := Obj.mk (Value.type "code") none (Data.fields #[Value.str (Str.mk #[95, 108, 97, 119, 95, 116, 121, 112, 101, 100]) 2368, Value.str (Str.mk #[95, 108, 97, 119, 95, 116, 121, 112, 101, 100]) 2369, Value.str (Str.mk #[47, 99, 108, 97, 105, 109, 47, 99, 117, 116, 46, 112, 121]) 2370, Value.int 94 0, Value.int 1 0, Value.int 0 0, Value.int 0 0, Value.int 3 0, Value.ref 180, Value.bool true, Value.int 181 0, Value.ref 181, Value.none, Value.ref 182, Value.ref 183, Value.ref 184, Value.int 2373 0, Value.int 94 0, Value.str (Str.mk #[47, 99, 108, 97, 105, 109, 47, 99, 117, 116, 46, 112, 121]) 2374]) #[]
noncomputable def o186 (_ : Params) : Obj := Obj.mk (Value.type "function") none (Data.func (FuncData.mk (Str.mk #[95, 108, 97, 119, 95, 116, 121, 112, 101, 100]) (Str.mk #[95, 108, 97, 119, 95, 116, 121, 112, 101, 100]) A16 (.stmts B16) C16 3 [] Value.none Value.none Value.none (Value.str (Str.mk #[108, 97, 119, 95, 116, 108, 48, 48, 53, 48, 95, 48, 49]) 2366) none (Value.ref 185) Value.none 0)) #[]
noncomputable def o187 (_ : Params) : Obj := Obj.mk (Value.type "tuple") none (Data.seq #[]) #[]
noncomputable def o188 (_ : Params) : Obj := Obj.mk Value.none none (Data.fields #[]) #[]
noncomputable def o189 (_ : Params) : Obj := Obj.mk (Value.type "tuple") none (Data.seq #[Value.str (Str.mk #[110, 117, 109, 98, 101, 114]) 2379]) #[]
noncomputable def o190 (_ : Params) : Obj := Obj.mk (Value.type "tuple") none (Data.seq #[]) #[]
noncomputable def o191 (_ : Params) : Obj := Obj.mk Value.none none (Data.func (FuncData.mk (Str.mk #[95, 108, 97, 119, 95, 109, 101, 97, 110, 116]) (Str.mk #[95, 108, 97, 119, 95, 109, 101, 97, 110, 116]) A17 (.stmts B17) C17 0 [] Value.none Value.none Value.none Value.none none Value.none Value.none 0)) #[]
noncomputable def o192 (_ : Params) : Obj := Obj.mk (Value.type "code") none (Data.fields #[Value.str (Str.mk #[95, 108, 97, 119, 95, 109, 101, 97, 110, 116]) 2376, Value.str (Str.mk #[95, 108, 97, 119, 95, 109, 101, 97, 110, 116]) 2377, Value.str (Str.mk #[47, 99, 108, 97, 105, 109, 47, 99, 117, 116, 46, 112, 121]) 2378, Value.int 99 0, Value.int 1 0, Value.int 0 0, Value.int 0 0, Value.int 3 0, Value.ref 187, Value.bool true, Value.int 181 0, Value.ref 188, Value.none, Value.ref 189, Value.ref 190, Value.ref 191, Value.int 2380 0, Value.int 99 0, Value.str (Str.mk #[47, 99, 108, 97, 105, 109, 47, 99, 117, 116, 46, 112, 121]) 2381]) #[]
noncomputable def o193 (_ : Params) : Obj := Obj.mk (Value.type "function") none (Data.func (FuncData.mk (Str.mk #[95, 108, 97, 119, 95, 109, 101, 97, 110, 116]) (Str.mk #[95, 108, 97, 119, 95, 109, 101, 97, 110, 116]) A17 (.stmts B17) C17 3 [] Value.none Value.none Value.none (Value.str (Str.mk #[108, 97, 119, 95, 116, 108, 48, 48, 53, 48, 95, 48, 49]) 2366) none (Value.ref 192) Value.none 0)) #[]
noncomputable def o194 (_ : Params) : Obj := Obj.mk (Value.type "tuple") none (Data.seq #[]) #[]
noncomputable def o195 (_ : Params) : Obj := Obj.mk Value.none none (Data.fields #[]) #[]
noncomputable def o196 (_ : Params) : Obj := Obj.mk Value.none none (Data.func (FuncData.mk (Str.mk #[95, 108, 97, 119, 95, 112, 114, 101, 112, 97, 114, 101, 100]) (Str.mk #[95, 108, 97, 119, 95, 112, 114, 101, 112, 97, 114, 101, 100]) A18 (.stmts B18) C18 0 [] Value.none Value.none Value.none Value.none none Value.none Value.none 0)) #[]
noncomputable def o197 (_ : Params) : Obj := Obj.mk (Value.type "code") none (Data.fields #[Value.str (Str.mk #[95, 108, 97, 119, 95, 112, 114, 101, 112, 97, 114, 101, 100]) 2383, Value.str (Str.mk #[95, 108, 97, 119, 95, 112, 114, 101, 112, 97, 114, 101, 100]) 2384, Value.str (Str.mk #[47, 99, 108, 97, 105, 109, 47, 99, 117, 116, 46, 112, 121]) 2385, Value.int 101 0, Value.int 1 0, Value.int 0 0, Value.int 0 0, Value.int 3 0, Value.ref 194, Value.bool true, Value.int 181 0, Value.ref 195, Value.none, Value.none, Value.none, Value.ref 196, Value.int 2386 0, Value.int 101 0, Value.str (Str.mk #[47, 99, 108, 97, 105, 109, 47, 99, 117, 116, 46, 112, 121]) 2387]) #[]
noncomputable def o198 (_ : Params) : Obj := Obj.mk (Value.type "function") none (Data.func (FuncData.mk (Str.mk #[95, 108, 97, 119, 95, 112, 114, 101, 112, 97, 114, 101, 100]) (Str.mk #[95, 108, 97, 119, 95, 112, 114, 101, 112, 97, 114, 101, 100]) A18 (.stmts B18) C18 3 [] Value.none Value.none Value.none (Value.str (Str.mk #[108, 97, 119, 95, 116, 108, 48, 48, 53, 48, 95, 48, 49]) 2366) none (Value.ref 197) Value.none 0)) #[]
noncomputable def o199 (_ : Params) : Obj := Obj.mk (Value.type "tuple") none (Data.seq #[]) #[]
noncomputable def o200 (_ : Params) : Obj := Obj.mk Value.none none (Data.fields #[]) #[]
noncomputable def o201 (_ : Params) : Obj := Obj.mk (Value.type "tuple") none (Data.seq #[Value.str (Str.mk #[102, 105, 114, 115, 116]) 2392, Value.str (Str.mk #[115, 105, 122, 101]) 2393, Value.str (Str.mk #[109, 97, 114, 107, 115]) 2394, Value.str (Str.mk #[109, 97, 114, 107]) 2395, Value.str (Str.mk #[116, 117, 114, 110]) 2396, Value.str (Str.mk #[119, 105, 100, 116, 104]) 2397]) #[]
noncomputable def o202 (_ : Params) : Obj := Obj.mk (Value.type "tuple") none (Data.seq #[]) #[]
noncomputable def o203 (_ : Params) : Obj := Obj.mk Value.none none (Data.func (FuncData.mk (Str.mk #[95, 108, 97, 119, 95, 109, 97, 114, 107, 115]) (Str.mk #[95, 108, 97, 119, 95, 109, 97, 114, 107, 115]) A19 (.stmts B19) C19 0 [] Value.none Value.none Value.none Value.none none Value.none Value.none 0)) #[]
noncomputable def o204 (_ : Params) : Obj := Obj.mk (Value.type "code") none (Data.fields #[Value.str (Str.mk #[95, 108, 97, 119, 95, 109, 97, 114, 107, 115]) 2389, Value.str (Str.mk #[95, 108, 97, 119, 95, 109, 97, 114, 107, 115]) 2390, Value.str (Str.mk #[47, 99, 108, 97, 105, 109, 47, 99, 117, 116, 46, 112, 121]) 2391, Value.int 103 0, Value.int 2 0, Value.int 0 0, Value.int 0 0, Value.int 3 0, Value.ref 199, Value.bool true, Value.int 181 0, Value.ref 200, Value.none, Value.ref 201, Value.ref 202, Value.ref 203, Value.int 2398 0, Value.int 103 0, Value.str (Str.mk #[47, 99, 108, 97, 105, 109, 47, 99, 117, 116, 46, 112, 121]) 2399]) #[]
noncomputable def o205 (_ : Params) : Obj := Obj.mk (Value.type "function") none (Data.func (FuncData.mk (Str.mk #[95, 108, 97, 119, 95, 109, 97, 114, 107, 115]) (Str.mk #[95, 108, 97, 119, 95, 109, 97, 114, 107, 115]) A19 (.stmts B19) C19 3 [] Value.none Value.none Value.none (Value.str (Str.mk #[108, 97, 119, 95, 116, 108, 48, 48, 53, 48, 95, 48, 49]) 2366) none (Value.ref 204) Value.none 0)) #[]
noncomputable def o206 (_ : Params) : Obj := Obj.mk (Value.type "tuple") none (Data.seq #[]) #[]
noncomputable def o207 (_ : Params) : Obj := Obj.mk Value.none none (Data.fields #[]) #[]
noncomputable def o208 (_ : Params) : Obj := Obj.mk Value.none none (Data.func (FuncData.mk (Str.mk #[95, 108, 97, 119, 95, 116, 111, 108, 100]) (Str.mk #[95, 108, 97, 119, 95, 116, 111, 108, 100]) A20 (.stmts B20) C20 0 [] Value.none Value.none Value.none Value.none none Value.none Value.none 0)) #[]
noncomputable def o209 (_ : Params) : Obj := Obj.mk (Value.type "code") none (Data.fields #[Value.str (Str.mk #[95, 108, 97, 119, 95, 116, 111, 108, 100]) 2401, Value.str (Str.mk #[95, 108, 97, 119, 95, 116, 111, 108, 100]) 2402, Value.str (Str.mk #[47, 99, 108, 97, 105, 109, 47, 99, 117, 116, 46, 112, 121]) 2403, Value.int 111 0, Value.int 1 0, Value.int 0 0, Value.int 0 0, Value.int 3 0, Value.ref 206, Value.bool true, Value.int 181 0, Value.ref 207, Value.none, Value.none, Value.none, Value.ref 208, Value.int 2404 0, Value.int 111 0, Value.str (Str.mk #[47, 99, 108, 97, 105, 109, 47, 99, 117, 116, 46, 112, 121]) 2405]) #[]
noncomputable def o210 (_ : Params) : Obj := Obj.mk (Value.type "function") none (Data.func (FuncData.mk (Str.mk #[95, 108, 97, 119, 95, 116, 111, 108, 100]) (Str.mk #[95, 108, 97, 119, 95, 116, 111, 108, 100]) A20 (.stmts B20) C20 3 [] Value.none Value.none Value.none (Value.str (Str.mk #[108, 97, 119, 95, 116, 108, 48, 48, 53, 48, 95, 48, 49]) 2366) none (Value.ref 209) Value.none 0)) #[]
noncomputable def o211 (_ : Params) : Obj := Obj.mk (Value.type "tuple") none (Data.seq #[]) #[]
noncomputable def o212 (_ : Params) : Obj := Obj.mk Value.none none (Data.fields #[]) #[]
noncomputable def o213 (_ : Params) : Obj := Obj.mk (Value.type "tuple") none (Data.seq #[Value.str (Str.mk #[112, 105, 101, 99, 101]) 2410]) #[]
noncomputable def o214 (_ : Params) : Obj := Obj.mk (Value.type "tuple") none (Data.seq #[]) #[]
noncomputable def o215 (_ : Params) : Obj := Obj.mk Value.none none (Data.func (FuncData.mk (Str.mk #[95, 108, 97, 119, 95, 99, 111, 108, 117, 109, 110, 115]) (Str.mk #[95, 108, 97, 119, 95, 99, 111, 108, 117, 109, 110, 115]) A21 (.stmts B21) C21 0 [] Value.none Value.none Value.none Value.none none Value.none Value.none 0)) #[]
noncomputable def o216 (_ : Params) : Obj := Obj.mk (Value.type "code") none (Data.fields #[Value.str (Str.mk #[95, 108, 97, 119, 95, 99, 111, 108, 117, 109, 110, 115]) 2407, Value.str (Str.mk #[95, 108, 97, 119, 95, 99, 111, 108, 117, 109, 110, 115]) 2408, Value.str (Str.mk #[47, 99, 108, 97, 105, 109, 47, 99, 117, 116, 46, 112, 121]) 2409, Value.int 122 0, Value.int 1 0, Value.int 0 0, Value.int 0 0, Value.int 3 0, Value.ref 211, Value.bool true, Value.int 181 0, Value.ref 212, Value.none, Value.ref 213, Value.ref 214, Value.ref 215, Value.int 2411 0, Value.int 122 0, Value.str (Str.mk #[47, 99, 108, 97, 105, 109, 47, 99, 117, 116, 46, 112, 121]) 2412]) #[]
noncomputable def o217 (_ : Params) : Obj := Obj.mk (Value.type "function") none (Data.func (FuncData.mk (Str.mk #[95, 108, 97, 119, 95, 99, 111, 108, 117, 109, 110, 115]) (Str.mk #[95, 108, 97, 119, 95, 99, 111, 108, 117, 109, 110, 115]) A21 (.stmts B21) C21 3 [] Value.none Value.none Value.none (Value.str (Str.mk #[108, 97, 119, 95, 116, 108, 48, 48, 53, 48, 95, 48, 49]) 2366) none (Value.ref 216) Value.none 0)) #[]
noncomputable def o218 (_ : Params) : Obj := Obj.mk (Value.type "tuple") none (Data.seq #[]) #[]
noncomputable def o219 (_ : Params) : Obj := Obj.mk Value.none none (Data.fields #[]) #[]
noncomputable def o220 (_ : Params) : Obj := Obj.mk Value.none none (Data.func (FuncData.mk (Str.mk #[95, 108, 97, 119, 95, 100, 117, 101]) (Str.mk #[95, 108, 97, 119, 95, 100, 117, 101]) A22 (.stmts B22) C22 0 [] Value.none Value.none Value.none Value.none none Value.none Value.none 0)) #[]
noncomputable def o221 (_ : Params) : Obj := Obj.mk (Value.type "code") none (Data.fields #[Value.str (Str.mk #[95, 108, 97, 119, 95, 100, 117, 101]) 2414, Value.str (Str.mk #[95, 108, 97, 119, 95, 100, 117, 101]) 2415, Value.str (Str.mk #[47, 99, 108, 97, 105, 109, 47, 99, 117, 116, 46, 112, 121]) 2416, Value.int 124 0, Value.int 1 0, Value.int 0 0, Value.int 0 0, Value.int 3 0, Value.ref 218, Value.bool true, Value.int 181 0, Value.ref 219, Value.none, Value.none, Value.none, Value.ref 220, Value.int 2417 0, Value.int 124 0, Value.str (Str.mk #[47, 99, 108, 97, 105, 109, 47, 99, 117, 116, 46, 112, 121]) 2418]) #[]
noncomputable def o222 (_ : Params) : Obj := Obj.mk (Value.type "function") none (Data.func (FuncData.mk (Str.mk #[95, 108, 97, 119, 95, 100, 117, 101]) (Str.mk #[95, 108, 97, 119, 95, 100, 117, 101]) A22 (.stmts B22) C22 3 [] Value.none Value.none Value.none (Value.str (Str.mk #[108, 97, 119, 95, 116, 108, 48, 48, 53, 48, 95, 48, 49]) 2366) none (Value.ref 221) Value.none 0)) #[]
noncomputable def o223 (_ : Params) : Obj := Obj.mk (Value.type "tuple") none (Data.seq #[]) #[]
noncomputable def o224 (_ : Params) : Obj := Obj.mk Value.none none (Data.fields #[]) #[]
noncomputable def o225 (_ : Params) : Obj := Obj.mk Value.none none (Data.func (FuncData.mk (Str.mk #[95, 108, 97, 119, 95, 98, 97, 114, 101]) (Str.mk #[95, 108, 97, 119, 95, 98, 97, 114, 101]) A23 (.stmts B23) C23 0 [] Value.none Value.none Value.none Value.none none Value.none Value.none 0)) #[]
noncomputable def o226 (_ : Params) : Obj := Obj.mk (Value.type "code") none (Data.fields #[Value.str (Str.mk #[95, 108, 97, 119, 95, 98, 97, 114, 101]) 2420, Value.str (Str.mk #[95, 108, 97, 119, 95, 98, 97, 114, 101]) 2421, Value.str (Str.mk #[47, 99, 108, 97, 105, 109, 47, 99, 117, 116, 46, 112, 121]) 2422, Value.int 133 0, Value.int 1 0, Value.int 0 0, Value.int 0 0, Value.int 3 0, Value.ref 223, Value.bool true, Value.int 181 0, Value.ref 224, Value.none, Value.none, Value.none, Value.ref 225, Value.int 2423 0, Value.int 133 0, Value.str (Str.mk #[47, 99, 108, 97, 105, 109, 47, 99, 117, 116, 46, 112, 121]) 2424]) #[]
noncomputable def o227 (_ : Params) : Obj := Obj.mk (Value.type "function") none (Data.func (FuncData.mk (Str.mk #[95, 108, 97, 119, 95, 98, 97, 114, 101]) (Str.mk #[95, 108, 97, 119, 95, 98, 97, 114, 101]) A23 (.stmts B23) C23 3 [] Value.none Value.none Value.none (Value.str (Str.mk #[108, 97, 119, 95, 116, 108, 48, 48, 53, 48, 95, 48, 49]) 2366) none (Value.ref 226) Value.none 0)) #[]
noncomputable def o228 (_ : Params) : Obj := Obj.mk (Value.type "tuple") none (Data.seq #[]) #[]
noncomputable def o229 (_ : Params) : Obj := Obj.mk Value.none none (Data.fields #[]) #[]
noncomputable def o230 (_ : Params) : Obj := Obj.mk Value.none none (Data.func (FuncData.mk (Str.mk #[108, 97, 119]) (Str.mk #[108, 97, 119]) A24 (.stmts B24) C24 0 [] Value.none Value.none Value.none Value.none none Value.none Value.none 0)) #[]
noncomputable def o231 (_ : Params) : Obj := Obj.mk (Value.type "code") none (Data.fields #[Value.str (Str.mk #[108, 97, 119]) 2426, Value.str (Str.mk #[108, 97, 119]) 2427, Value.str (Str.mk #[47, 99, 108, 97, 105, 109, 47, 99, 117, 116, 46, 112, 121]) 2428, Value.int 139 0, Value.int 1 0, Value.int 0 0, Value.int 0 0, Value.int 3 0, Value.ref 228, Value.bool true, Value.int 181 0, Value.ref 229, Value.none, Value.none, Value.none, Value.ref 230, Value.int 2429 0, Value.int 139 0, Value.str (Str.mk #[47, 99, 108, 97, 105, 109, 47, 99, 117, 116, 46, 112, 121]) 2430]) #[]
noncomputable def o232 (_ : Params) : Obj := Obj.mk (Value.type "function") none (Data.func (FuncData.mk (Str.mk #[108, 97, 119]) (Str.mk #[108, 97, 119]) A24 (.stmts B24) C24 3 [] Value.none Value.none Value.none (Value.str (Str.mk #[108, 97, 119, 95, 116, 108, 48, 48, 53, 48, 95, 48, 49]) 2366) none (Value.ref 231) Value.none 0)) #[]
noncomputable def T_25 (P : Params) : BT := (.node (boot_o_0 P) (.node (boot_o_1 P) (.node (o3_25 P) (.node (boot_o_7 P) (.node (o15 P) (.node (o31 P) (.node (o63 P) (.node (o127 P) .nil .nil) (.node (o191 P) .nil .nil)) (.node (o95 P) (.node (o159 P) .nil .nil) (.node (o223 P) .nil .nil))) (.node (o47 P) (.node (o79 P) (.node (o143 P) .nil .nil) (.node (o207 P) .nil .nil)) (.node (o111 P) (.node (o175 P) .nil .nil) .nil))) (.node (o23 P) (.node (o39 P) (.node (o71 P) (.node (o135 P) .nil .nil) (.node (o199 P) .nil .nil)) (.node (o103 P) (.node (o167 P) .nil .nil) (.node (o231 P) .nil .nil))) (.node (o55 P) (.node (o87 P) (.node (o151 P) .nil .nil) (.node (o215 P) .nil .nil)) (.node (o119 P) (.node (o183 P) .nil .nil) .nil)))) (.node (o11_pre P) (.node (o19 P) (.node (o35 P) (.node (o67 P) (.node (o131 P) .nil .nil) (.node (o195 P) .nil .nil)) (.node (o99 P) (.node (o163 P) .nil .nil) (.node (o227 P) .nil .nil))) (.node (o51 P) (.node (o83 P) (.node (o147 P) .nil .nil) (.node (o211 P) .nil .nil)) (.node (o115 P) (.node (o179 P) .nil .nil) .nil))) (.node (o27 P) (.node (o43 P) (.node (o75 P) (.node (o139 P) .nil .nil) (.node (o203 P) .nil .nil)) (.node (o107 P) (.node (o171 P) .nil .nil) .nil)) (.node (o59 P) (.node (o91 P) (.node (o155 P) .nil .nil) (.node (o219 P) .nil .nil)) (.node (o123 P) (.node (o187 P) .nil .nil) .nil))))) (.node (boot_o_5 P) (.node (boot_o_9 P) (.node (o17 P) (.node (o33 P) (.node (o65 P) (.node (o129 P) .nil .nil) (.node (o193 P) .nil .nil)) (.node (o97 P) (.node (o161 P) .nil .nil) (.node (o225 P) .nil .nil))) (.node (o49 P) (.node (o81 P) (.node (o145 P) .nil .nil) (.node (o209 P) .nil .nil)) (.node (o113 P) (.node (o177 P) .nil .nil) .nil))) (.node (o25 P) (.node (o41 P) (.node (o73 P) (.node (o137 P) .nil .nil) (.node (o201 P) .nil .nil)) (.node (o105 P) (.node (o169 P) .nil .nil) .nil)) (.node (o57 P) (.node (o89 P) (.node (o153 P) .nil .nil) (.node (o217 P) .nil .nil)) (.node (o121 P) (.node (o185 P) .nil .nil) .nil)))) (.node (o13_pre P) (.node (o21 P) (.node (o37 P) (.node (o69 P) (.node (o133 P) .nil .nil) (.node (o197 P) .nil .nil)) (.node (o101 P) (.node (o165 P) .nil .nil) (.node (o229 P) .nil .nil))) (.node (o53 P) (.node (o85 P) (.node (o149 P) .nil .nil) (.node (o213 P) .nil .nil)) (.node (o117 P) (.node (o181 P) .nil .nil) .nil))) (.node (o29 P) (.node (o45 P) (.node (o77 P) (.node (o141 P) .nil .nil) (.node (o205 P) .nil .nil)) (.node (o109 P) (.node (o173 P) .nil .nil) .nil)) (.node (o61 P) (.node (o93 P) (.node (o157 P) .nil .nil) (.node (o221 P) .nil .nil)) (.node (o125 P) (.node (o189 P) .nil .nil) .nil)))))) (.node (boot_o_2 P) (.node (boot_o_4 P) (.node (boot_o_8 P) (.node (o16 P) (.node (o32 P) (.node (o64 P) (.node (o128 P) .nil .nil) (.node (o192 P) .nil .nil)) (.node (o96 P) (.node (o160 P) .nil .nil) (.node (o224 P) .nil .nil))) (.node (o48 P) (.node (o80 P) (.node (o144 P) .nil .nil) (.node (o208 P) .nil .nil)) (.node (o112 P) (.node (o176 P) .nil .nil) .nil))) (.node (o24 P) (.node (o40 P) (.node (o72 P) (.node (o136 P) .nil .nil) (.node (o200 P) .nil .nil)) (.node (o104 P) (.node (o168 P) .nil .nil) (.node (o232 P) .nil .nil))) (.node (o56 P) (.node (o88 P) (.node (o152 P) .nil .nil) (.node (o216 P) .nil .nil)) (.node (o120 P) (.node (o184 P) .nil .nil) .nil)))) (.node (o12_25 P) (.node (o20 P) (.node (o36 P) (.node (o68 P) (.node (o132 P) .nil .nil) (.node (o196 P) .nil .nil)) (.node (o100 P) (.node (o164 P) .nil .nil) (.node (o228 P) .nil .nil))) (.node (o52 P) (.node (o84 P) (.node (o148 P) .nil .nil) (.node (o212 P) .nil .nil)) (.node (o116 P) (.node (o180 P) .nil .nil) .nil))) (.node (o28 P) (.node (o44 P) (.node (o76 P) (.node (o140 P) .nil .nil) (.node (o204 P) .nil .nil)) (.node (o108 P) (.node (o172 P) .nil .nil) .nil)) (.node (o60 P) (.node (o92 P) (.node (o156 P) .nil .nil) (.node (o220 P) .nil .nil)) (.node (o124 P) (.node (o188 P) .nil .nil) .nil))))) (.node (boot_o_6 P) (.node (boot_o_10 P) (.node (o18 P) (.node (o34 P) (.node (o66 P) (.node (o130 P) .nil .nil) (.node (o194 P) .nil .nil)) (.node (o98 P) (.node (o162 P) .nil .nil) (.node (o226 P) .nil .nil))) (.node (o50 P) (.node (o82 P) (.node (o146 P) .nil .nil) (.node (o210 P) .nil .nil)) (.node (o114 P) (.node (o178 P) .nil .nil) .nil))) (.node (o26 P) (.node (o42 P) (.node (o74 P) (.node (o138 P) .nil .nil) (.node (o202 P) .nil .nil)) (.node (o106 P) (.node (o170 P) .nil .nil) .nil)) (.node (o58 P) (.node (o90 P) (.node (o154 P) .nil .nil) (.node (o218 P) .nil .nil)) (.node (o122 P) (.node (o186 P) .nil .nil) .nil)))) (.node (o14_pre P) (.node (o22 P) (.node (o38 P) (.node (o70 P) (.node (o134 P) .nil .nil) (.node (o198 P) .nil .nil)) (.node (o102 P) (.node (o166 P) .nil .nil) (.node (o230 P) .nil .nil))) (.node (o54 P) (.node (o86 P) (.node (o150 P) .nil .nil) (.node (o214 P) .nil .nil)) (.node (o118 P) (.node (o182 P) .nil .nil) .nil))) (.node (o30 P) (.node (o46 P) (.node (o78 P) (.node (o142 P) .nil .nil) (.node (o206 P) .nil .nil)) (.node (o110 P) (.node (o174 P) .nil .nil) .nil)) (.node (o62 P) (.node (o94 P) (.node (o158 P) .nil .nil) (.node (o222 P) .nil .nil)) (.node (o126 P) (.node (o190 P) .nil .nil) .nil)))))))

noncomputable def T_mid (P : Params) : BT := (.node (boot_o_0 P) (.node (boot_o_1 P) (.node (o3_13 P) (.node (boot_o_7 P) (.node (o15 P) (.node (o31 P) (.node (o63 P) (.node (o127 P) .nil .nil) .nil) (.node (o95 P) (.node (o159 P) .nil .nil) .nil)) (.node (o47 P) (.node (o79 P) (.node (o143 P) .nil .nil) .nil) (.node (o111 P) .nil .nil))) (.node (o23 P) (.node (o39 P) (.node (o71 P) (.node (o135 P) .nil .nil) .nil) (.node (o103 P) (.node (o167 P) .nil .nil) .nil)) (.node (o55 P) (.node (o87 P) (.node (o151 P) .nil .nil) .nil) (.node (o119 P) .nil .nil)))) (.node (o11_pre P) (.node (o19 P) (.node (o35 P) (.node (o67 P) (.node (o131 P) .nil .nil) .nil) (.node (o99 P) (.node (o163 P) .nil .nil) .nil)) (.node (o51 P) (.node (o83 P) (.node (o147 P) .nil .nil) .nil) (.node (o115 P) .nil .nil))) (.node (o27 P) (.node (o43 P) (.node (o75 P) (.node (o139 P) .nil .nil) .nil) (.node (o107 P) (.node (o171 P) .nil .nil) .nil)) (.node (o59 P) (.node (o91 P) (.node (o155 P) .nil .nil) .nil) (.node (o123 P) .nil .nil))))) (.node (boot_o_5 P) (.node (boot_o_9 P) (.node (o17 P) (.node (o33 P) (.node (o65 P) (.node (o129 P) .nil .nil) .nil) (.node (o97 P) (.node (o161 P) .nil .nil) .nil)) (.node (o49 P) (.node (o81 P) (.node (o145 P) .nil .nil) .nil) (.node (o113 P) .nil .nil))) (.node (o25 P) (.node (o41 P) (.node (o73 P) (.node (o137 P) .nil .nil) .nil) (.node (o105 P) (.node (o169 P) .nil .nil) .nil)) (.node (o57 P) (.node (o89 P) (.node (o153 P) .nil .nil) .nil) (.node (o121 P) .nil .nil)))) (.node (o13_pre P) (.node (o21 P) (.node (o37 P) (.node (o69 P) (.node (o133 P) .nil .nil) .nil) (.node (o101 P) (.node (o165 P) .nil .nil) .nil)) (.node (o53 P) (.node (o85 P) (.node (o149 P) .nil .nil) .nil) (.node (o117 P) .nil .nil))) (.node (o29 P) (.node (o45 P) (.node (o77 P) (.node (o141 P) .nil .nil) .nil) (.node (o109 P) .nil .nil)) (.node (o61 P) (.node (o93 P) (.node (o157 P) .nil .nil) .nil) (.node (o125 P) .nil .nil)))))) (.node (boot_o_2 P) (.node (boot_o_4 P) (.node (boot_o_8 P) (.node (o16 P) (.node (o32 P) (.node (o64 P) (.node (o128 P) .nil .nil) .nil) (.node (o96 P) (.node (o160 P) .nil .nil) .nil)) (.node (o48 P) (.node (o80 P) (.node (o144 P) .nil .nil) .nil) (.node (o112 P) .nil .nil))) (.node (o24 P) (.node (o40 P) (.node (o72 P) (.node (o136 P) .nil .nil) .nil) (.node (o104 P) (.node (o168 P) .nil .nil) .nil)) (.node (o56 P) (.node (o88 P) (.node (o152 P) .nil .nil) .nil) (.node (o120 P) .nil .nil)))) (.node (o12_13 P) (.node (o20 P) (.node (o36 P) (.node (o68 P) (.node (o132 P) .nil .nil) .nil) (.node (o100 P) (.node (o164 P) .nil .nil) .nil)) (.node (o52 P) (.node (o84 P) (.node (o148 P) .nil .nil) .nil) (.node (o116 P) .nil .nil))) (.node (o28 P) (.node (o44 P) (.node (o76 P) (.node (o140 P) .nil .nil) .nil) (.node (o108 P) (.node (o172 P) .nil .nil) .nil)) (.node (o60 P) (.node (o92 P) (.node (o156 P) .nil .nil) .nil) (.node (o124 P) .nil .nil))))) (.node (boot_o_6 P) (.node (boot_o_10 P) (.node (o18 P) (.node (o34 P) (.node (o66 P) (.node (o130 P) .nil .nil) .nil) (.node (o98 P) (.node (o162 P) .nil .nil) .nil)) (.node (o50 P) (.node (o82 P) (.node (o146 P) .nil .nil) .nil) (.node (o114 P) .nil .nil))) (.node (o26 P) (.node (o42 P) (.node (o74 P) (.node (o138 P) .nil .nil) .nil) (.node (o106 P) (.node (o170 P) .nil .nil) .nil)) (.node (o58 P) (.node (o90 P) (.node (o154 P) .nil .nil) .nil) (.node (o122 P) .nil .nil)))) (.node (o14_pre P) (.node (o22 P) (.node (o38 P) (.node (o70 P) (.node (o134 P) .nil .nil) .nil) (.node (o102 P) (.node (o166 P) .nil .nil) .nil)) (.node (o54 P) (.node (o86 P) (.node (o150 P) .nil .nil) .nil) (.node (o118 P) .nil .nil))) (.node (o30 P) (.node (o46 P) (.node (o78 P) (.node (o142 P) .nil .nil) .nil) (.node (o110 P) .nil .nil)) (.node (o62 P) (.node (o94 P) (.node (o158 P) .nil .nil) .nil) (.node (o126 P) .nil .nil)))))))
noncomputable abbrev BB : List Frame := [topFrame q0]
noncomputable abbrev life0 : Life := Life.mk [] [] [] 0 [] [] false #[] [] 0 false false false 0 [2000, 10, 10] false 0 true [] [] 0 false
noncomputable abbrev drawn0 : Drawn := Drawn.mk 0 0 0 0
noncomputable abbrev SEGT := Fast.tw10110043849684766642
noncomputable abbrev TT := Fast.tw14364793385576792824
abbrev ann0 : Option Value := some (.ref 6)
noncomputable abbrev S_pre (w : World) (os : OsState) : SharedT := SharedT.mk (T_pre w.params) 15 life0 #[] drawn0 187 os
abbrev p_pre : Pos := Pos.mk 0 0 0 0
noncomputable abbrev S_0 (w : World) (os : OsState) : SharedT := SharedT.mk (T_0 w.params) 15 life0 #[] drawn0 187 os
abbrev p_0 : Pos := Pos.mk 0 0 0 0
noncomputable abbrev S_2 (w : World) (os : OsState) : SharedT := SharedT.mk (T_2 w.params) 22 life0 #[] drawn0 196 os
abbrev p_2 : Pos := Pos.mk 4 0 4 8
noncomputable abbrev S_3 (w : World) (os : OsState) : SharedT := SharedT.mk (T_3 w.params) 88 life0 #[] drawn0 297 os
abbrev p_3 : Pos := Pos.mk 5 0 57 16
noncomputable abbrev S_11 (w : World) (os : OsState) : SharedT := SharedT.mk (T_11 w.params) 116 life0 #[] drawn0 340 os
abbrev p_11 : Pos := Pos.mk 83 0 83 8
noncomputable abbrev S_12 (w : World) (os : OsState) : SharedT := SharedT.mk (T_12 w.params) 127 life0 #[] drawn0 400 os
abbrev p_12 : Pos := Pos.mk 84 0 84 6
noncomputable abbrev S_13 (w : World) (os : OsState) : SharedT := SharedT.mk (T_13 w.params) 134 life0 #[] drawn0 407 os
abbrev p_13 : Pos := Pos.mk 85 0 86 30
noncomputable abbrev S_14 (w : World) (os : OsState) : SharedT := SharedT.mk (T_14 w.params) 173 life0 #[] drawn0 2358 os
abbrev p_14 : Pos := Pos.mk 87 0 87 13
noncomputable abbrev S_25 (w : World) (os : OsState) : SharedT := SharedT.mk (T_25 w.params) 233 life0 #[] drawn0 2432 os
abbrev p_25 : Pos := Pos.mk 139 0 152 49
noncomputable abbrev S_mid (w : World) (os : OsState) : SharedT := SharedT.mk (T_mid w.params) 173 life0 #[] drawn0 2357 os
end Mine
end
-- HeadDict
section
open PySem PySem.W PyProof.Rows
set_option maxRecDepth 100000
set_option maxHeartbeats 0
namespace Mine
def TW {α : Type} (w : World) (m : Sem α) (p : Pos) (s : Shared) (a : α) (p' : Pos) (s' : Shared) (n : Nat) : Prop :=
  ∀ (K : α → Sem Fin) (H : Value → Sem Fin) (gd : Bool → Bool) (lv : List Value → List Value),
    segGo treeTable pw w 11 ann0 1 n s ⟨m.wrap K H gd lv, cE, p, BB⟩ = some (s', ⟨K a, cE, p', BB⟩)
theorem segGo_step {w : World} {n : Nat} {s s' : Shared} {t t' : Thread} (he : endAt 1 t = none) (hk : stepOk 11 ann0 t = true) (hs : step (denote treeTable) pw w s t = .go s' t') :
    segGo treeTable pw w 11 ann0 1 (n + 1) s t = segGo treeTable pw w 11 ann0 1 n s' t' := by
  conv => lhs; unfold segGo
  rw [he, hk, hs]
theorem segGo_add {w : World} : ∀ {n m : Nat} {s s' s'' : Shared} {t t' t'' : Thread}, segGo treeTable pw w 11 ann0 1 n s t = some (s', t') → segGo treeTable pw w 11 ann0 1 m s' t' = some (s'', t'') →
    segGo treeTable pw w 11 ann0 1 (n + m) s t = some (s'', t'')
  | 0, m, s, s', s'', t, t', t'', h, k => by
    obtain ⟨rfl, rfl⟩ : s = s' ∧ t = t' := by simpa [segGo] using h
    rw [Nat.zero_add]; exact k
  | n + 1, m, s, s', s'', t, t', t'', h, k => by
    rw [show n + 1 + m = n + m + 1 by omega]
    unfold segGo at h ⊢
    cases he : endAt 1 t with
    | some x => rw [he] at h; cases h
    | none =>
      rw [he] at h
      cases hk : stepOk 11 ann0 t with
      | false => rw [hk] at h; cases h
      | true =>
        rw [hk] at h
        cases hs : step (denote treeTable) pw w s t with
        | halt o s₂ => rw [hs] at h; cases h
        | go s₂ t₂ => rw [hs] at h; exact segGo_add h k
section
variable {α β : Type} {w : World} {p p' p₁ p₂ : Pos} {s s' s₁ s₂ : Shared} {n n₁ n₂ : Nat}
theorem TW.pure {a : α} : TW w (Pure.pure a) p s a p s 0 := fun _ _ _ _ => rfl
theorem TW.pure' {a : α} : TW w (Sem.pure a) p s a p s 0 := fun _ _ _ _ => rfl
theorem TW.bind {m : Sem α} {f : α → Sem β} {a : α} {b : β} (h1 : TW w m p s a p₁ s₁ n₁) (h2 : TW w (f a) p₁ s₁ b p₂ s₂ n₂) : TW w (m >>= f) p s b p₂ s₂ (n₁ + n₂) := by
  intro K H gd lv
  rw [Sem.bind_eq_wrap', Sem.wrap_wrap]
  exact segGo_add (h1 _ _ _ _) (h2 K H gd lv)
theorem TW.keep {m : Sem α} {vs : List Value} {a : α} (h : TW w m p s a p₁ s₁ n) : TW w (m.keep vs) p s a p₁ s₁ n := by
  intro K H gd lv
  rw [Sem.keep_eq_wrap, Sem.wrap_wrap]
  exact h _ _ _ _
theorem TW.holding {m : Sem α} {vs : List Value} {a : α} (h : TW w m p s a p₁ s₁ n) : TW w (holding vs m) p s a p₁ s₁ n := by
  rw [holding_eq_keep]; exact h.keep
theorem TW.onRaise {m : Sem α} {k : Value → Sem Unit} {a : α} (h : TW w m p s a p₁ s₁ n) : TW w (m.onRaise k) p s a p₁ s₁ n := by
  intro K H gd lv
  rw [Sem.onRaise_eq_wrap, Sem.wrap_wrap]
  exact h _ _ _ _
theorem TW.rule' {t : String} {k : Unit → Sem α} {a : α} (h : TW w (k ()) p s a p₁ s₁ n) : TW w (.rule t k) p s a p₁ s₁ (n + 1) :=
  fun K H gd lv => (segGo_step rfl rfl rfl).trans (h K H gd lv)
theorem TW.at' {q : Pos} {k : Unit → Sem α} {a : α} (h : TW w (k ()) q s a p₁ s₁ n) : TW w (.at q k) p s a p₁ s₁ (n + 1) :=
  fun K H gd lv => (segGo_step rfl rfl rfl).trans (h K H gd lv)
theorem TW.point' {l : List Value} {k : Unit → Sem α} {a : α} (h : TW w (k ()) p s a p₁ s₁ n) : TW w (.point l k) p s a p₁ s₁ (n + 1) :=
  fun K H gd lv => (segGo_step rfl rfl rfl).trans (h K H gd lv)
theorem TW.ask' {k : Setting → Sem α} {a : α} (h : TW w (k ⟨pw, w.params⟩) p s a p₁ s₁ n) : TW w (.ask k) p s a p₁ s₁ (n + 1) :=
  fun K H gd lv => (segGo_step rfl rfl rfl).trans (h K H gd lv)
theorem TW.load' {x : Addr} {q : Option Value} {k : Obj → Sem α} {a : α} {o : Obj} (ho : s.heap.get? x = some o) (h : TW w (k o) p s a p₁ s₁ n) : TW w (.load x q k) p s a p₁ s₁ (n + 1) := fun K H gd lv => by
  refine (segGo_step (s' := s) (t' := ⟨(k o).wrap K H gd lv, cE, p, BB⟩) rfl rfl ?_).trans (h K H gd lv)
  obtain ⟨heap, gens, drawn, toks, os⟩ := s
  simp only [Sem.wrap, step]
  simp only at ho
  rw [ho]
noncomputable abbrev sh (os : OsState) (h : Heap) (t : Nat) : Shared := ⟨h, #[], drawn0, t, os⟩
variable {os : OsState} {h h' : Heap} {t t' : Nat}
theorem TW.fresh' {k : Tok → Sem α} {a : α} (x : TW w (k t) p (sh os h (t + 1)) a p₁ s₁ n) : TW w (.fresh k) p (sh os h t) a p₁ s₁ (n + 1) :=
  fun K H gd lv => (segGo_step rfl rfl rfl).trans (x K H gd lv)
theorem TW.alloc' {o : Obj} {k : Addr → Sem α} {a : α} (x : TW w (k h.objs.size) p (sh os (h.push o) t) a p₁ s₁ n) : TW w (.alloc o k) p (sh os h t) a p₁ s₁ (n + 1) :=
  fun K H gd lv => (segGo_step rfl rfl rfl).trans (x K H gd lv)
theorem TW.update' {x : Addr} {q : Option Value} {f : Obj → Obj} {k : Unit → Sem α} {a : α} {o : Obj} (ho : h.get? x = some o) (hx : 11 ≤ x ∨ x = mainNs) (y : TW w (k ()) p (sh os (h.update x f) t) a p₁ s₁ n) :
    TW w (.update x q f k) p (sh os h t) a p₁ s₁ (n + 1) := fun K H gd lv => by
  refine (segGo_step (s' := sh os (h.update x f) t) (t' := ⟨(k ()).wrap K H gd lv, cE, p, BB⟩) rfl ?_ ?_).trans (y K H gd lv)
  · rcases hx with hx | hx
    · simp only [stepOk, Sem.wrap, Bool.and_eq_true, Bool.or_eq_true, Nat.ble_eq]
      exact ⟨rfl, .inl (.inl (.inl hx))⟩
    · subst hx; rfl
  · simp only [Sem.wrap, step]
    rw [ho]
    rfl
theorem TW.of_eq {m m' : Sem α} {a : α} (e : m = m') (h : TW w m' p s a p₁ s₁ n) : TW w m p s a p₁ s₁ n := by rw [e]; exact h
theorem callHash (w : World) (p : Pos) (k : Int) (u : Tok) (r : Sem Value) (heap : Heap) (t : Nat) (os : OsState) :
    TW w (callSpecialIfBoundUnlessNone? (.int k u) "__hash__" r) p (sh os heap t) (some (.int (rawHash k) t)) p (sh os heap (t + 1)) 5 := by
  refine byRow2 "special-get-raises" (P := fun w => TW w (callSpecialIfBoundUnlessNone? (.int k u) "__hash__" r) p (sh os heap t) (some (.int (rawHash k) t)) p (sh os heap (t + 1)) 5) (fun w => ?_) (fun w => ?_) w
  · intro K H gd lv; kernel_rfl
  · intro K H gd lv; kernel_rfl
theorem special_hash (k : Int) (u : Tok) : specialOf (.int k u) "__hash__" = (Pure.pure (some (.builtin "int.__hash__")) : Sem (Option Value)) := by kernel_rfl
theorem TW.cast {m : Sem α} {a : α} (h : TW w m p s a p₁ s₁ n) (e : n = n₁) : TW w m p s a p₁ s₁ n₁ := e ▸ h
theorem pb (a : α) (f : α → Sem β) : (Pure.pure a >>= f) = f a := rfl
theorem TW.pyHash {k : Int} {u : Tok} : TW w (pyHash (.int k u)) p (sh os h t) (hashInt k) p (sh os h (t + 1)) 5 := by
  have hr := rawHash_range k
  unfold PySem.pyHash pyHashByItsType
  simp only [special_hash, pb]
  rw [show cRoomFor "hash" [Value.int k u] = Pure.pure () from rfl, pb, if_neg (by rw [beq_builtin_none]; exact Bool.false_ne_true), if_neg (by simp)]
  refine TW.cast (TW.bind (callHash w p k u _ h t os) (TW.of_eq ?_ TW.pure)) rfl
  show (if (decide (-(2 : Int) ^ 63 ≤ rawHash k) && decide (rawHash k < 2 ^ 63)) = true then _ else _) = _
  rw [if_pos (by rw [decide_eq_true hr.1, decide_eq_true hr.2]; rfl)]
  rfl
theorem TW.alloc {o : Obj} : TW w (PySem.alloc o) p (sh os h t) h.objs.size p (sh os (h.push o) t) 1 := TW.alloc' TW.pure'
theorem TW.rule {tag : String} : TW w (PySem.rule tag) p s () p s 1 := TW.rule' TW.pure'
theorem TW.standAt {q : Pos} : TW w (PySem.standAt q) p s () q s 1 := TW.at' TW.pure'
theorem TW.point : TW w PySem.point p s () p s 1 := TW.point' TW.pure'
theorem TW.loadPart {x : Addr} {q : Option Value} {o : Obj} (ho : s.heap.get? x = some o) : TW w (PySem.loadPart x q) p s o p s 1 := TW.load' ho TW.pure'
theorem TW.mkInt {k : Int} : TW w (PySem.mkInt k) p (sh os h t) (.int k t) p (sh os h (t + 1)) 1 := TW.bind (n₂ := 0) (TW.fresh' TW.pure') TW.pure
theorem TW.mkText {x : Str} : TW w (PySem.mkText x) p (sh os h t) (.str x t) p (sh os h (t + 1)) 1 := TW.bind (n₂ := 0) (TW.fresh' TW.pure') TW.pure
variable {d : Addr} {es : Array DictEntry} {ep : Nat} {part : Option Value}
theorem TW.dictEntries (ho : h.get? d = some (dct es ep)) : TW w (PySem.dictEntries d part) p (sh os h t) es p (sh os h t) 1 := by
  unfold PySem.dictEntries
  exact TW.bind (n₂ := 0) (TW.loadPart ho) TW.pure
theorem TW.dictEpoch (ho : h.get? d = some (dct es ep)) : TW w (PySem.dictEpoch d part) p (sh os h t) ep p (sh os h t) 1 := by
  unfold PySem.dictEpoch
  exact TW.bind (n₂ := 0) (TW.loadPart ho) TW.pure
theorem places_nil {x : Int} (hne : ∀ e ∈ es.toList, e.hash ≠ x) : placesWithHash es.size (fun i => es[i]?.map (·.hash)) x = [] := by
  unfold placesWithHash
  rw [List.filter_eq_nil_iff]
  intro i _
  simp only [beq_iff_eq, Option.map_eq_some_iff, not_exists, not_and]
  intro e q
  exact hne e (by
    rw [← Array.getElem?_toList] at q
    exact List.mem_of_getElem? q)
theorem TW.dictFind {k : Int} {u : Tok} {x : Int} (ho : h.get? d = some (dct es ep)) (hne : ∀ e ∈ es.toList, e.hash ≠ x) : TW w (PySem.dictFind d (.int k u) x) p (sh os h t) none p (sh os h t) 1 := by
  unfold PySem.dictFind
  refine TW.holding (TW.cast (TW.bind (TW.dictEntries ho) ?_) (n₁ := 1) (n := 1 + 0) rfl)
  simp only [places_nil hne]
  exact TW.pure
theorem TW.updKeys {e : DictEntry} (ho : h.get? d = some (dct es ep)) (hd : 11 ≤ d) (hz : es.size ≤ 1000) : TW w (PySem.updateDictKeys d (·.push e) part) p (sh os h t) () p (sh os (h.update d (Obj.mapDictKeys (·.push e))) t) 3 := by
  unfold PySem.updateDictKeys
  refine TW.cast (n := 1 + (1 + (1 + 0))) (TW.bind (TW.loadPart ho) ?_) rfl
  refine TW.bind (a := ()) (TW.update' ho (.inl hd) TW.pure') ?_
  unfold lookBehind
  refine TW.bind (TW.loadPart (o := dct (es.push e) (ep + 1)) (Heap.get?_update_self _ ho rfl)) ?_
  have : (dct (es.push e) (ep + 1)).data.pastItsLine = none := pastItsLine_dict (by rw [Array.size_push]; have : sizeLine = 16777216 := rfl; omega)
  rw [this]
  exact TW.pure
theorem TW.dictSet {k : Int} {u : Tok} {v : Value} (ho : h.get? d = some (dct es ep)) (hd : 11 ≤ d) (hz : es.size ≤ 1000) (hne : ∀ e ∈ es.toList, e.hash ≠ hashInt k) :
    TW w (PySem.dictSet d (.int k u) v) p (sh os h t) () p (sh os (h.update d (Obj.mapDictKeys (·.push ⟨hashInt k, .int k u, v⟩))) (t + 1)) 10 := by
  unfold PySem.dictSet dictSetHashed
  refine TW.holding (TW.cast (n := 5 + (1 + (1 + 3))) (TW.bind TW.pyHash (TW.holding (TW.bind (TW.dictFind ho hne) ?_))) rfl)
  exact TW.bind TW.rule (TW.updKeys ho hd hz)
theorem TW.dictPut {k : Int} {u : Tok} {v : Value} {x : Int} (ho : h.get? d = some (dct es ep)) (hd : 11 ≤ d) (hz : es.size ≤ 1000) (hne : ∀ e ∈ es.toList, e.hash ≠ x) :
    TW w (PySem.dictPut d x (.int k u) v) p (sh os h t) () p (sh os (h.update d (Obj.mapDictKeys (·.push ⟨x, .int k u, v⟩))) t) 4 := by
  unfold PySem.dictPut
  refine TW.cast (n := 1 + 3) (TW.bind (TW.dictFind ho hne) ?_) rfl
  exact TW.updKeys ho hd hz
structure Hole (hp : Obj → Heap) (d : Addr) : Prop where
  get : ∀ es ep, (hp (dct es ep)).get? d = some (dct es ep)
  upd : ∀ es ep e, (hp (dct es ep)).update d (Obj.mapDictKeys (·.push e)) = hp (dct (es.push e) (ep + 1))
/-- keys that rise above lo -/
noncomputable def Inc : Int → List (Int × Str) → Prop
  | _, [] => True
  | lo, (k, _) :: r => lo < hashInt k ∧ Inc (hashInt k) r
def cI (k : Int) : Sem Value := PySem.mkInt k
def cS (q : Pos) (x : Str) : Sem Value := do let v ← PySem.mkText x; PySem.standAt q; Pure.pure v
variable {hp : Obj → Heap} {q : Pos}
theorem TW.constS {x : Str} : TW w (cS q x) p (sh os h t) (.str x t) q (sh os h (t + 1)) 2 :=
  TW.cast (n := 1 + (1 + 0)) (TW.bind TW.mkText (TW.bind TW.standAt TW.pure)) rfl
theorem below_push {lo x : Int} {e : DictEntry} (hb : ∀ e ∈ es.toList, e.hash ≤ lo) (h1 : lo < x) (he : e.hash = x) : ∀ e' ∈ (es.push e).toList, e'.hash ≤ x := by
  intro e' h'
  rw [Array.toList_push, List.mem_append, List.mem_singleton] at h'
  rcases h' with h' | rfl
  · have := hb e' h'; omega
  · omega
theorem TW.subLoop (hd : 11 ≤ d) (X : Hole hp d) (bd : Sem Value × Sem Value → PUnit → Sem (ForInStep PUnit)) (hbd : bd = fun x _ => do
      let kv ← x.1
      let vv ← PySem.holding [kv] x.2
      PySem.holding [kv, vv] (PySem.dictSet d kv vv)
      Pure.pure (ForInStep.yield PUnit.unit)) : ∀ (kvs : List (Int × Str)) (es : Array DictEntry) (ep t : Nat) (lo : Int) (p : Pos), (∀ e ∈ es.toList, e.hash ≤ lo) → Inc lo kvs → es.size + kvs.length ≤ 1000 →
      TW w (forIn (kvs.map fun x => (cI x.1, cS q x.2)) PUnit.unit bd) p (sh os (hp (dct es ep)) t) PUnit.unit (if kvs.isEmpty then p else q) (sh os (hp (dct (es ++ (ent t kvs).toArray) (ep + kvs.length))) (t + 3 * kvs.length)) (13 * kvs.length)
  | [], es, ep, t, lo, p, _, _, _ => by
    simp only [List.map_nil, ent, List.length_nil, List.isEmpty_nil, if_true, Nat.mul_zero, Nat.add_zero, Array.append_empty]
    exact TW.pure
  | (k, v) :: r, es, ep, t, lo, p, hb, hi, hz => by
    subst hbd
    obtain ⟨h1, h2⟩ := hi
    rw [List.map_cons, List.forIn_cons]
    simp only [List.length_cons] at hz
    have hne : ∀ e ∈ es.toList, e.hash ≠ hashInt k := fun e he => by have := hb e he; omega
    have ih := TW.subLoop hd X _ rfl r (es.push ⟨hashInt k, .int k t, .str v (t + 1)⟩) (ep + 1) (t + 3) (hashInt k) q (below_push hb h1 rfl) h2 (by rw [Array.size_push]; omega)
    have e1 : (es.push ⟨hashInt k, .int k t, .str v (t + 1)⟩) ++ (ent (t + 3) r).toArray = es ++ (ent t ((k, v) :: r)).toArray := by
      apply Array.ext'
      simp [ent]
    have e2 : ep + 1 + r.length = ep + ((k, v) :: r).length := by simp only [List.length_cons]; omega
    have e3 : t + 3 + 3 * r.length = t + 3 * ((k, v) :: r).length := by simp only [List.length_cons]; omega
    rw [e1, e2, e3] at ih
    have e4 : (if r.isEmpty then q else q) = (if ((k, v) :: r).isEmpty then p else q) := by simp
    rw [e4] at ih
    refine TW.cast (n := (1 + (2 + (10 + 0))) + 13 * r.length) (TW.bind (a := .yield PUnit.unit) (TW.bind TW.mkInt (TW.bind (TW.holding TW.constS) (TW.bind (TW.holding (TW.dictSet (X.get es ep) hd (by omega) hne)) TW.pure))) ?_) (by simp only [List.length_cons]; omega)
    rw [X.upd]
    exact ih
theorem update_push (h : Heap) (o : Obj) (f : Obj → Obj) : (h.push o).update h.objs.size f = h.push (f o) := by
  obtain ⟨objs, life⟩ := h
  simp only [Heap.push, Heap.update]
  congr 1
  apply Array.ext_getElem?
  intro i
  rw [Array.getElem?_modify, Array.getElem?_push, Array.getElem?_push]
  by_cases e : i = objs.size
  · subst e; simp
  · simp [e, Ne.symm e]
theorem mdk (es : Array DictEntry) (ep : Nat) (e : DictEntry) : Obj.mapDictKeys (·.push e) (dct es ep) = dct (es.push e) (ep + 1) := rfl
theorem hole_push (h : Heap) : Hole (fun o => h.push o) h.objs.size :=
  ⟨fun es ep => Heap.get?_push_size _ rfl, fun es ep e => by rw [update_push, mdk]⟩
theorem TW.subLong {kvs : List (Int × Str)} {lo : Int} (hl : 15 < kvs.length) (hm : kvs.length ≤ 1000) (hi : Inc lo kvs) (hs : 11 ≤ h.objs.size) :
    TW w (subDict (kvs.map fun x => (cI x.1, cS q x.2))) p (sh os h t) h.objs.size q (sh os (h.push (dct (ent t kvs).toArray kvs.length)) (t + 3 * kvs.length)) (2 + 13 * kvs.length) := by
  unfold subDict
  have hne : kvs.isEmpty = false := by cases kvs with | nil => simp at hl | cons => rfl
  have L := TW.subLoop (w := w) (os := os) (q := q) hs (hole_push h) _ rfl kvs #[] 0 t lo p (by simp) hi (by simpa using hm)
  rw [hne] at L
  simp only [Array.empty_append, Nat.zero_add, Bool.false_eq_true, if_false] at L
  refine TW.cast (n := 1 + ((1 + (13 * kvs.length + 0)) + 0)) (TW.bind TW.alloc (TW.bind (a := ()) (TW.holding ?_) TW.pure)) (by omega)
  rw [if_neg (by rw [List.length_map]; omega)]
  exact TW.bind TW.rule (TW.bind L TW.pure)
theorem TW.evalPairs : ∀ (kvs : List (Int × Str)) (t : Nat) (p : Pos), TW w (PySem.evalPairs (kvs.map fun x => (cI x.1, cS q x.2))) p (sh os h t) (vals t kvs) (if kvs.isEmpty then p else q) (sh os h (t + 2 * kvs.length)) (3 * kvs.length)
  | [], t, p => TW.pure
  | (k, v) :: r, t, p => by
    rw [List.map_cons, PySem.evalPairs]
    have ih := TW.evalPairs r (t + 2) q
    rw [show t + 2 + 2 * r.length = t + 2 * ((k, v) :: r).length by simp only [List.length_cons]; omega, show (if r.isEmpty then q else q) = (if ((k, v) :: r).isEmpty then p else q) by simp] at ih
    exact TW.cast (TW.bind TW.mkInt (TW.bind (TW.holding TW.constS) (TW.bind (TW.holding ih) TW.pure))) (by simp only [List.length_cons]; omega)
theorem TW.valsLoop (hd : 11 ≤ d) (X : Hole hp d) (bd : Value × Value → PUnit → Sem (ForInStep PUnit)) (hbd : bd = fun x _ => do
      PySem.dictSet d x.1 x.2
      Pure.pure (ForInStep.yield PUnit.unit)) : ∀ (kvs : List (Int × Str)) (es : Array DictEntry) (ep t u : Nat) (lo : Int), (∀ e ∈ es.toList, e.hash ≤ lo) → Inc lo kvs → es.size + kvs.length ≤ 1000 →
      TW w (forIn (vals u kvs) PUnit.unit bd) p (sh os (hp (dct es ep)) t) PUnit.unit p (sh os (hp (dct (es ++ ((vals u kvs).zip kvs).toArray.map (fun x => (⟨hashInt x.2.1, x.1.1, x.1.2⟩ : DictEntry))) (ep + kvs.length))) (t + kvs.length)) (10 * kvs.length)
  | [], es, ep, t, u, lo, _, _, _ => by
    simp only [vals, List.zip_nil_left, List.length_nil, Nat.mul_zero, Nat.add_zero, Array.append_empty, List.map_toArray, List.map_nil]
    exact TW.pure
  | (k, v) :: r, es, ep, t, u, lo, hb, hi, hz => by
    subst hbd
    obtain ⟨h1, h2⟩ := hi
    rw [vals, List.forIn_cons]
    simp only [List.length_cons] at hz
    have hne : ∀ e ∈ es.toList, e.hash ≠ hashInt k := fun e he => by have := hb e he; omega
    have ih := TW.valsLoop hd X _ rfl r (es.push ⟨hashInt k, .int k u, .str v (u + 1)⟩) (ep + 1) (t + 1) (u + 2) (hashInt k) (below_push hb h1 rfl) h2 (by rw [Array.size_push]; omega)
    have e1 : (es.push ⟨hashInt k, .int k u, .str v (u + 1)⟩) ++ ((vals (u + 2) r).zip r).toArray.map (fun x => (⟨hashInt x.2.1, x.1.1, x.1.2⟩ : DictEntry)) =
        es ++ (((Value.int k u, Value.str v (u + 1)) :: vals (u + 2) r).zip ((k, v) :: r)).toArray.map (fun x => (⟨hashInt x.2.1, x.1.1, x.1.2⟩ : DictEntry)) := by
      apply Array.ext'
      simp
    have e2 : ep + 1 + r.length = ep + ((k, v) :: r).length := by simp only [List.length_cons]; omega
    have e3 : t + 1 + r.length = t + ((k, v) :: r).length := by simp only [List.length_cons]; omega
    rw [e1, e2, e3] at ih
    refine TW.cast (n := (10 + 0) + 10 * r.length) (TW.bind (a := .yield PUnit.unit) (TW.bind (TW.dictSet (X.get es ep) hd (by omega) hne) TW.pure) ?_) (by simp only [List.length_cons]; omega)
    rw [X.upd]
    exact ih
theorem TW.subShort {kvs : List (Int × Str)} {lo : Int} (h0 : kvs ≠ []) (hl : kvs.length ≤ 15) (hi : Inc lo kvs) (hs : 11 ≤ h.objs.size) :
    TW w (subDict (kvs.map fun x => (cI x.1, cS q x.2))) p (sh os h t) h.objs.size q (sh os (h.push (dct (entS t kvs).toArray kvs.length)) (t + 3 * kvs.length)) (1 + 13 * kvs.length) := by
  unfold subDict
  have hne : kvs.isEmpty = false := by cases kvs with | nil => exact absurd rfl h0 | cons => rfl
  have L := TW.valsLoop (w := w) (os := os) (p := q) hs (hole_push h) _ rfl kvs #[] 0 (t + 2 * kvs.length) t lo (by simp) hi (by simpa using (by omega : kvs.length ≤ 1000))
  have E := TW.evalPairs (w := w) (os := os) (h := h.push { cls := .type "dict", data := .dict #[] }) (q := q) kvs t p
  rw [hne] at E
  simp only [Array.empty_append, Nat.zero_add, Bool.false_eq_true, if_false, List.map_toArray] at L E
  rw [show t + 2 * kvs.length + kvs.length = t + 3 * kvs.length by omega] at L
  refine TW.cast (n := 1 + ((3 * kvs.length + (10 * kvs.length + 0)) + 0)) (TW.bind TW.alloc (TW.bind (a := ()) (TW.holding ?_) TW.pure)) (by omega)
  rw [if_pos (by rw [List.length_map]; omega)]
  exact TW.bind E (TW.holding (TW.bind L TW.pure))
theorem sub_dict : isSubtype (.type "dict") (.type "dict") = (Pure.pure true : Sem Bool) := by kernel_rfl
theorem look_iter : typeLookup (.type "dict") "__iter__" = (Pure.pure (some (.builtin "dict.__iter__")) : Sem (Option Value)) := by kernel_rfl
noncomputable def IncE : Int → List DictEntry → Prop
  | _, [] => True
  | lo, e :: r => (lo < e.hash ∧ ∃ k u, e.key = .int k u) ∧ IncE e.hash r
variable {a : Addr} {sub : Array DictEntry} {m : Nat}
theorem TW.mergeLoop (hd : 11 ≤ d) (X : Hole hp d) (ha : ∀ es ep, (hp (dct es ep)).get? a = some (dct sub m)) (bd : Nat → PUnit → Sem (ForInStep PUnit)) (hbd : bd = fun i _ => do
      let es ← PySem.dictEntries a
      match es[i]? with
      | some e => do
        PySem.holding [e.key, e.val] (PySem.dictPut d e.hash e.key e.val)
        let n ← PySem.dictEpoch a
        if n != m then do
          let _ ← (unsupported "dict.changed-during-merge" : Sem PUnit)
          Pure.pure (ForInStep.yield PUnit.unit)
        else Pure.pure (ForInStep.yield PUnit.unit)
      | _ => do
        let _ ← (unsupported "dict.changed-during-merge" : Sem PUnit)
        Pure.pure (ForInStep.yield PUnit.unit)) : ∀ (l : List DictEntry) (i : Nat) (es : Array DictEntry) (ep : Nat) (lo : Int), sub.toList.drop i = l → (∀ e ∈ es.toList, e.hash ≤ lo) → IncE lo l → es.size + l.length ≤ 1000 →
      TW w (forIn (List.range' i l.length) PUnit.unit bd) p (sh os (hp (dct es ep)) t) PUnit.unit p (sh os (hp (dct (es ++ l.toArray) (ep + l.length))) t) (6 * l.length)
  | [], i, es, ep, lo, _, _, _, _ => by
    simp only [List.length_nil, List.range'_zero, Nat.mul_zero, Nat.add_zero, Array.append_empty]
    exact TW.pure
  | e :: r, i, es, ep, lo, hs, hb, hi, hz => by
    subst hbd
    obtain ⟨⟨h1, k, u, hk⟩, h2⟩ := hi
    rw [List.length_cons, List.range'_succ, List.forIn_cons]
    simp only [List.length_cons] at hz
    have hget : sub[i]? = some e := by
      rw [← Array.getElem?_toList]
      have := congrArg (·[0]?) hs
      simpa [List.getElem?_drop] using this
    have hne : ∀ e' ∈ es.toList, e'.hash ≠ e.hash := fun e' he => by have := hb e' he; omega
    have ih := TW.mergeLoop hd X ha _ rfl r (i + 1) (es.push e) (ep + 1) e.hash (by rw [← List.drop_drop, hs]; rfl) (below_push hb h1 rfl) h2 (by rw [Array.size_push]; omega)
    have e1 : es.push e ++ r.toArray = es ++ (e :: r).toArray := by
      apply Array.ext'
      simp
    rw [e1, show ep + 1 + r.length = ep + (e :: r).length by simp only [List.length_cons]; omega] at ih
    refine TW.cast (n := (1 + (4 + (1 + 0))) + 6 * r.length) (TW.bind (a := .yield PUnit.unit) (p₁ := p) (s₁ := sh os (hp (dct (es.push e) (ep + 1))) t) (TW.bind (TW.dictEntries (ha es ep)) ?_) ?_) (by omega)
    rotate_right
    · exact ih
    · simp only [hget]
      refine TW.bind (a := ()) (p₁ := p) (s₁ := sh os (hp (dct (es.push e) (ep + 1))) t) (n₁ := 4) (TW.holding ?_) (TW.bind (TW.dictEpoch (ha (es.push e) (ep + 1))) ?_)
      · have D := TW.dictPut (w := w) (p := p) (os := os) (t := t) (k := k) (u := u) (v := e.val) (x := e.hash) (X.get es ep) hd (by omega) hne
        rw [← hk, X.upd] at D
        exact D
      · simp only [bne_self_eq_false, Bool.false_eq_true, if_false]
        exact TW.pure
theorem TW.merge {es : Array DictEntry} {ep : Nat} {lo : Int} (hd : 11 ≤ d) (X : Hole hp d) (ha : ∀ es ep, (hp (dct es ep)).get? a = some (dct sub m)) (h11 : 11 ≤ a) (he : es ≠ #[]) (hb : ∀ e ∈ es.toList, e.hash ≤ lo) (hi : IncE lo sub.toList) (hz : es.size + sub.size ≤ 1000) :
    TW w (mergeMapping d (.ref a) false) p (sh os (hp (dct es ep)) t) () p (sh os (hp (dct (es ++ sub) (ep + sub.size))) t) (5 + 6 * sub.size) := by
  unfold mergeMapping
  have L := TW.mergeLoop (w := w) (p := p) (os := os) (t := t) hd X ha _ rfl sub.toList 0 es ep lo rfl hb hi (by simpa using hz)
  simp only [Array.length_toList, Array.toArray_toList] at L
  have hna : (a == sysModules) = false := by
    rw [beq_eq_false_iff_ne]
    intro h; subst h; exact absurd h11 (by decide)
  have hem : es.isEmpty = false := by
    rw [Array.isEmpty_eq_false_iff]; exact he
  refine TW.cast (n := (1 + 0 + 0) + ((1 + 0 + 0) + (1 + (1 + (1 + (6 * sub.size + 0)))))) (TW.bind (a := true) (p₁ := p) (s₁ := sh os (hp (dct es ep)) t) ?_ ?_) (by omega)
  · unfold isInstance
    refine TW.bind (a := .type "dict") (TW.bind (TW.loadPart (ha es ep)) TW.pure) ?_
    rw [sub_dict]; exact TW.pure
  · simp only [if_true]
    refine TW.bind (a := some (.builtin "dict.__iter__")) (p₁ := p) (s₁ := sh os (hp (dct es ep)) t) ?_ ?_
    · unfold specialOf
      refine TW.bind (a := .type "dict") (TW.bind (TW.loadPart (ha es ep)) TW.pure) ?_
      rw [look_iter]; exact TW.pure
    · simp only [beq_self_eq_true, pb, hna, Bool.false_eq_true, if_false]
      refine TW.bind (TW.dictEntries (X.get es ep)) ?_
      simp only [hem, Bool.false_eq_true, if_false]
      refine TW.bind (TW.dictEntries (ha es ep)) (TW.bind (TW.dictEpoch (ha es ep)) ?_)
      rw [List.range_eq_range']
      exact TW.bind L TW.pure
theorem update_push_lt (h : Heap) (o : Obj) (f : Obj → Obj) {d : Nat} (hd : d < h.objs.size) : (h.push o).update d f = (h.update d f).push o := by
  obtain ⟨objs, life⟩ := h
  simp only [Heap.push, Heap.update]
  congr 1
  apply Array.ext_getElem?
  intro i
  have hd' : d < objs.size := hd
  rw [Array.getElem?_modify, Array.getElem?_push, Array.getElem?_push, Array.getElem?_modify, Array.size_modify]
  by_cases e : i = objs.size
  · subst e
    have : ¬ d = objs.size := by omega
    simp [this]
  · simp [e]
def pushAll (h : Heap) (os : List Obj) : Heap := os.foldl Heap.push h
theorem pushAll_cons (h : Heap) (o : Obj) (os : List Obj) : pushAll h (o :: os) = pushAll (h.push o) os := rfl
theorem pushAll_snoc (h : Heap) (o : Obj) (os : List Obj) : pushAll h (os ++ [o]) = (pushAll h os).push o := by simp [pushAll]
theorem size_push' (h : Heap) (o : Obj) : (h.push o).objs.size = h.objs.size + 1 := by obtain ⟨objs, life⟩ := h; simp [Heap.push]
theorem size_pushAll (h : Heap) : ∀ os : List Obj, (pushAll h os).objs.size = h.objs.size + os.length := by
  intro os
  induction os generalizing h with
  | nil => rfl
  | cons o r ih => rw [pushAll_cons, ih, size_push']; simp only [List.length_cons]; omega
theorem size_update (h : Heap) (d : Addr) (f : Obj → Obj) : (h.update d f).objs.size = h.objs.size := by obtain ⟨objs, life⟩ := h; simp [Heap.update]
theorem pushAll_update {d : Nat} (f : Obj → Obj) : ∀ (os : List Obj) (h : Heap), d < h.objs.size → (pushAll h os).update d f = pushAll (h.update d f) os := by
  intro os
  induction os with
  | nil => intro h _; rfl
  | cons o r ih => intro h hd; rw [pushAll_cons, ih _ (by rw [size_push']; omega), update_push_lt _ _ _ hd]; rfl
theorem pushAll_get {x : Addr} {o : Obj} : ∀ (os : List Obj) (h : Heap), h.get? x = some o → (pushAll h os).get? x = some o := by
  intro os
  induction os with
  | nil => intro h e; exact e
  | cons o' r ih => intro h e; exact ih _ (Heap.get?_push_of_some _ e)
theorem hole_all (base : Heap) (subs : List Obj) : Hole (fun o => pushAll (base.push o) subs) base.objs.size :=
  ⟨fun es ep => pushAll_get _ _ (Heap.get?_push_size _ rfl), fun es ep e => by
    rw [pushAll_update _ _ _ (by rw [size_push']; exact Nat.lt_succ_self _), update_push, mdk]⟩
def hi (lo : Int) (l : List (Int × Str)) : Int := l.foldl (fun _ x => hashInt x.1) lo
theorem inc_append : ∀ (l l' : List (Int × Str)) (lo : Int), Inc lo (l ++ l') → Inc lo l ∧ Inc (hi lo l) l'
  | [], l', lo, h => ⟨trivial, h⟩
  | (k, v) :: r, l', lo, h => by
    obtain ⟨a, b⟩ := inc_append r l' _ h.2
    exact ⟨⟨h.1, a⟩, b⟩
theorem hi_le : ∀ (l : List (Int × Str)) (lo : Int), Inc lo l → lo ≤ hi lo l
  | [], lo, _ => Int.le_refl _
  | (k, v) :: r, lo, h => by
    have := hi_le r _ h.2
    have := h.1
    show lo ≤ hi (hashInt k) r
    omega
theorem ent_inc : ∀ (l : List (Int × Str)) (t : Nat) (lo : Int), Inc lo l → IncE lo (ent t l)
  | [], _, _, _ => trivial
  | (k, v) :: r, t, lo, h => ⟨⟨h.1, k, t, rfl⟩, ent_inc r _ _ h.2⟩
theorem ent_hi : ∀ (l : List (Int × Str)) (t : Nat) (lo : Int), Inc lo l → ∀ e ∈ ent t l, e.hash ≤ hi lo l
  | [], _, _, _, e, he => (nomatch he)
  | (k, v) :: r, t, lo, h, e, he => by
    rcases List.mem_cons.mp he with rfl | he
    · exact hi_le r _ h.2
    · exact ent_hi r _ _ h.2 e he
theorem ent_append : ∀ (l l' : List (Int × Str)) (t : Nat), ent t (l ++ l') = ent t l ++ ent (t + 3 * l.length) l'
  | [], l', t => rfl
  | (k, v) :: r, l', t => by
    have := ent_append r l' (t + 3)
    simp only [List.cons_append, ent, this, List.length_cons]
    rw [show t + 3 + 3 * r.length = t + 3 * (r.length + 1) by omega]
theorem ent_length : ∀ (l : List (Int × Str)) (t : Nat), (ent t l).length = l.length
  | [], _ => rfl
  | _ :: r, t => by simp only [ent, List.length_cons, ent_length r]
theorem entS_inc : ∀ (l : List (Int × Str)) (t : Nat) (lo : Int), Inc lo l → IncE lo (entS t l)
  | [], _, _, _ => trivial
  | (k, v) :: r, t, lo, h => ⟨⟨h.1, k, t, rfl⟩, entS_inc r _ _ h.2⟩
theorem entS_length : ∀ (l : List (Int × Str)) (t : Nat), (entS t l).length = l.length
  | [], _ => rfl
  | _ :: r, t => by simp only [entS, vals, List.zip_cons_cons, List.map_cons, List.length_cons]; have := entS_length r (t + 2); simp only [entS] at this; rw [this]
abbrev It := Option (Sem Value) × Sem Value
abbrev Pr := Sem Value × Sem Value
abbrev St := Option Addr × List Pr
def pr (q : Pos) (x : Int × Str) : Pr := (cI x.1, cS q x.2)
def it (q : Pos) (x : Int × Str) : It := (some (cI x.1), cS q x.2)
structure Body (flush : List Pr → Option Addr → Sem (Option Addr)) (f : It → St → Sem (ForInStep St)) : Prop where
  more : ∀ k v m run, run.length + 1 ≠ 17 → f (some k, v) (m, run) = Pure.pure (.yield (m, run ++ [(k, v)]))
  full : ∀ k v m run, run.length + 1 = 17 → f (some k, v) (m, run) = (flush (run ++ [(k, v)]) m >>= fun m => Pure.pure (.yield (m, [])))
variable {flush : List Pr → Option Addr → Sem (Option Addr)} {f : It → St → Sem (ForInStep St)} {rest : List It} {r : St} {mo mo' : Option Addr}
theorem TW.fill (B : Body flush f) (l : List (Int × Str)) (x : Int × Str) (hx : l.length ≤ 16) {run : List Pr} (hr : run.length + l.length = 16)
    (h1 : TW w (flush (run ++ (l ++ [x]).map (pr q)) mo) p s mo' p₁ s₁ n₁) (h2 : TW w (forIn rest (mo', []) f) p₁ s₁ r p₂ s₂ n₂) :
    TW w (forIn ((l ++ [x]).map (it q) ++ rest) (mo, run) f) p s r p₂ s₂ (n₁ + n₂) := by
  induction l generalizing run with
  | nil =>
    simp only [List.nil_append, List.map_cons, List.map_nil, List.cons_append] at h1 ⊢
    rw [List.forIn_cons, it, B.full _ _ _ _ (by simpa using hr)]
    exact TW.cast (TW.bind (n₁ := n₁ + 0) (TW.bind h1 TW.pure) h2) (by omega)
  | cons y l ih =>
    simp only [List.cons_append, List.map_cons] at h1 ⊢
    simp only [List.length_cons] at hr hx
    rw [List.forIn_cons, it, B.more _ _ _ _ (by omega), pb]
    exact ih (by omega) (run := run ++ [(cI y.1, cS q y.2)]) (by simp only [List.length_append, List.length_singleton]; omega) (by simpa [pr] using h1)
def flushD (run : List Pr) (main : Option Addr) : Sem (Option Addr) :=
  if run.isEmpty = true then Pure.pure main
  else
    match main with
    | none => do
      let x ← subDict run
      Pure.pure (some x)
    | some d => do
      let sub ← PySem.holding [Value.ref d] (subDict run)
      (PySem.holding [Value.ref d, Value.ref sub] (mergeMapping d (Value.ref sub) false)).onRaise fun x => do
        let _ ← PySem.holding [Value.ref d, x] (runValue (Code.builtin "proto.let_go" {}))
        Pure.pure ()
      Pure.pure (some d)
noncomputable def P (base : Heap) (es : List DictEntry) (subs : List Obj) : Heap := pushAll (base.push (dct es.toArray es.length)) subs
theorem map_ne {kvs : List (Int × Str)} (h : kvs.length ≠ 0) : (kvs.map (pr q)).isEmpty = false := by cases kvs with | nil => exact absurd rfl h | cons => rfl
variable {base : Heap} {subs : List Obj} {el : List DictEntry}
theorem TW.flush0 {kvs : List (Int × Str)} {lo : Int} (hl : kvs.length = 17) (hi : Inc lo kvs) (hs : 11 ≤ base.objs.size) :
    TW w (flushD (kvs.map (pr q)) none) p (sh os base t) (some base.objs.size) q (sh os (P base (ent t kvs) []) (t + 51)) 223 := by
  unfold flushD
  rw [map_ne (by omega)]
  simp only [Bool.false_eq_true, if_false]
  have L := TW.subLong (w := w) (p := p) (os := os) (t := t) (q := q) (by omega) (by omega) hi hs
  rw [hl] at L
  have e : P base (ent t kvs) [] = base.push (dct (ent t kvs).toArray 17) := by
    unfold P pushAll; rw [ent_length, hl]; rfl
  rw [e]
  exact TW.cast (TW.bind L TW.pure) rfl
theorem P_size : (P base el subs).objs.size = base.objs.size + 1 + subs.length := by unfold P; rw [size_pushAll, size_push']
theorem P_snoc {o : Obj} : (P base el subs).push o = P base el (subs ++ [o]) := by unfold P; rw [pushAll_snoc]
theorem P_merge {sub : List DictEntry} {lo : Int} (hs : 11 ≤ base.objs.size) (he : el ≠ []) (hb : ∀ e ∈ el, e.hash ≤ lo) (hi : IncE lo sub) (hz : el.length + sub.length ≤ 1000) :
    TW w (mergeMapping base.objs.size (.ref (P base el subs).objs.size) false) p (sh os (P base el (subs ++ [dct sub.toArray sub.length])) t) () p (sh os (P base (el ++ sub) (subs ++ [dct sub.toArray sub.length])) t) (5 + 6 * sub.length) := by
  have M := TW.merge (w := w) (p := p) (os := os) (t := t) (a := (P base el subs).objs.size) (sub := sub.toArray) (m := sub.length) (es := el.toArray) (ep := el.length) (lo := lo) hs (hole_all base (subs ++ [dct sub.toArray sub.length]))
    (fun es ep => by
      rw [pushAll_snoc, P_size]
      have : base.objs.size + 1 + subs.length = (pushAll (base.push (dct es ep)) subs).objs.size := by rw [size_pushAll, size_push']
      rw [this]; exact Heap.get?_push_size _ rfl)
    (by rw [P_size]; exact Nat.le_trans hs (Nat.le_trans (Nat.le_succ _) (Nat.le_add_right _ _))) (by simpa using he) (by simpa using hb) (by simpa using hi) (by simpa using hz)
  have e : dct (el.toArray ++ sub.toArray) (el.length + sub.toArray.size) = dct (el ++ sub).toArray (el ++ sub).length := by simp
  simp only [e] at M
  simpa [P] using M
theorem TW.flush1 {kvs : List (Int × Str)} {lo : Int} (hl : kvs.length = 17) (hi : Inc lo kvs) (hs : 11 ≤ base.objs.size) (he : el ≠ []) (hb : ∀ e ∈ el, e.hash ≤ lo) (hz : el.length + 17 ≤ 1000) :
    TW w (flushD (kvs.map (pr q)) (some base.objs.size)) p (sh os (P base el subs) t) (some base.objs.size) q (sh os (P base (el ++ ent t kvs) (subs ++ [dct (ent t kvs).toArray 17])) (t + 51)) 330 := by
  unfold flushD
  rw [map_ne (by omega)]
  simp only [Bool.false_eq_true, if_false]
  have L := TW.subLong (w := w) (p := p) (os := os) (t := t) (q := q) (h := P base el subs) (by omega) (by omega) hi (by rw [P_size]; exact Nat.le_trans hs (Nat.le_trans (Nat.le_succ _) (Nat.le_add_right _ _)))
  have M := P_merge (w := w) (p := q) (os := os) (t := t + 51) (subs := subs) hs he hb (ent_inc kvs t lo hi) (by rw [ent_length, hl]; exact hz)
  rw [ent_length, hl] at M
  rw [hl, P_snoc] at L
  exact TW.cast (TW.bind (TW.holding L) (TW.bind (TW.onRaise (TW.holding M)) TW.pure)) rfl
theorem TW.flush2 {kvs : List (Int × Str)} {lo : Int} (hl : kvs.length = 4) (hi : Inc lo kvs) (hs : 11 ≤ base.objs.size) (he : el ≠ []) (hb : ∀ e ∈ el, e.hash ≤ lo) (hz : el.length + 17 ≤ 1000) :
    TW w (flushD (kvs.map (pr q)) (some base.objs.size)) p (sh os (P base el subs) t) (some base.objs.size) q (sh os (P base (el ++ entS t kvs) (subs ++ [dct (entS t kvs).toArray 4])) (t + 12)) 82 := by
  unfold flushD
  rw [map_ne (by omega)]
  simp only [Bool.false_eq_true, if_false]
  have L := TW.subShort (w := w) (p := p) (os := os) (t := t) (q := q) (h := P base el subs) (kvs := kvs) (by intro e; subst e; cases hl) (by omega) hi (by rw [P_size]; exact Nat.le_trans hs (Nat.le_trans (Nat.le_succ _) (Nat.le_add_right _ _)))
  have M := P_merge (w := w) (p := q) (os := os) (t := t + 12) (subs := subs) hs he hb (entS_inc kvs t lo hi) (by rw [entS_length, hl]; omega)
  rw [entS_length, hl] at M
  rw [hl, P_snoc] at L
  exact TW.cast (TW.bind (TW.holding L) (TW.bind (TW.onRaise (TW.holding M)) TW.pure)) rfl
theorem TW.tail (B : Body flush f) : ∀ (l : List (Int × Str)) (run : List Pr), run.length + l.length ≤ 16 → TW w (forIn (l.map (it q)) (mo, run) f) p s (mo, run ++ l.map (pr q)) p s 0
  | [], run, _ => by simp only [List.map_nil, List.append_nil]; exact TW.pure
  | x :: l, run, h => by
    simp only [List.length_cons] at h
    rw [List.map_cons, List.forIn_cons, it, B.more _ _ _ _ (by omega), pb]
    have ih := TW.tail B l (run ++ [(cI x.1, cS q x.2)]) (by simp only [List.length_append, List.length_singleton]; omega)
    simpa [pr] using ih
theorem split_last {α : Type} (l : List α) (h : l.length = 17) : ∃ l' x, l = l' ++ [x] ∧ l'.length = 16 := by
  have hne : l ≠ [] := by intro e; subst e; cases h
  exact ⟨l.dropLast, l.getLast hne, (List.dropLast_concat_getLast hne).symm, by rw [List.length_dropLast, h]⟩
theorem TW.chunks (B : Body flushD f) (hs : 11 ≤ base.objs.size) : ∀ (cs : List (List (Int × Str))) (el : List DictEntry) (subs : List Obj) (t : Nat) (lo : Int) (p : Pos), (∀ c ∈ cs, c.length = 17) → Inc lo cs.flatten → el ≠ [] → (∀ e ∈ el, e.hash ≤ lo) → el.length + 17 * cs.length ≤ 900 →
    TW w (forIn rest (some base.objs.size, []) f) (if cs.isEmpty then p else q) (sh os (P base (el ++ ent t cs.flatten) (subs ++ subsOf t cs)) (t + 51 * cs.length)) r p₂ s₂ n₂ →
    TW w (forIn (cs.flatten.map (it q) ++ rest) (some base.objs.size, []) f) p (sh os (P base el subs) t) r p₂ s₂ (330 * cs.length + n₂)
  | [], el, subs, t, lo, p, _, _, _, _, _, k => by
    simp only [List.flatten_nil, List.map_nil, List.nil_append, ent, List.append_nil, subsOf, List.length_nil, Nat.mul_zero, Nat.add_zero, List.isEmpty_nil, if_true, Nat.zero_add] at k ⊢
    exact k
  | c :: cs, el, subs, t, lo, p, hc, hi, he, hb, hz, k => by
    have hl : c.length = 17 := hc c (List.mem_cons_self ..)
    rw [List.flatten_cons] at hi
    obtain ⟨h1, h2⟩ := inc_append c cs.flatten lo hi
    simp only [List.length_cons] at hz
    have F := TW.flush1 (w := w) (p := p) (q := q) (os := os) (t := t) (base := base) (subs := subs) (el := el) hl h1 hs he hb (by omega)
    have hb' : ∀ e ∈ el ++ ent t c, e.hash ≤ Mine.hi lo c := fun e h => by
      rcases List.mem_append.mp h with h | h
      · have := hb e h
        have := hi_le c lo h1
        omega
      · exact ent_hi c t lo h1 e h
    have ih := TW.chunks B hs cs (el ++ ent t c) (subs ++ [dct (ent t c).toArray 17]) (t + 51) (Mine.hi lo c) q (fun c' h => hc c' (List.mem_cons_of_mem _ h)) h2
      (by simp [he]) hb' (by rw [List.length_append, ent_length, hl]; omega)
    rw [List.flatten_cons, ent_append, hl] at k
    simp only [List.append_assoc, List.singleton_append] at ih
    rw [show t + 51 + 51 * cs.length = t + 51 * (c :: cs).length by simp only [List.length_cons]; omega, show (if cs.isEmpty then q else q) = (if (c :: cs).isEmpty then p else q) by simp] at ih
    have ih' := ih k
    obtain ⟨l, x, rfl, hl'⟩ := split_last c hl
    rw [List.flatten_cons, List.map_append, List.append_assoc]
    exact TW.cast (TW.fill (run := []) B l x (by omega) (by simpa using hl') F ih') (by simp only [List.length_cons]; omega)
theorem TW.display {c0 : List (Int × Str)} {cs : List (List (Int × Str))} {cl : List (Int × Str)} {lo : Int} (hs : 11 ≤ base.objs.size) (h0 : c0.length = 17) (hc : ∀ c ∈ cs, c.length = 17) (hcl : cl.length = 4) (hm : cs.length ≤ 40) (hne : cs ≠ [])
    (hi : Inc lo (c0 ++ (cs.flatten ++ cl))) :
    TW w (dictDisplay ((c0 ++ (cs.flatten ++ cl)).map (it q))) p (sh os base t) (.ref base.objs.size) q
      (sh os (P base (ent t (c0 ++ cs.flatten) ++ entS (t + 51 + 51 * cs.length) cl) (subsOf (t + 51) cs ++ [dct (entS (t + 51 + 51 * cs.length) cl).toArray 4])) (t + 51 + 51 * cs.length + 12)) (223 + (330 * cs.length + (82 + 0))) := by
  obtain ⟨i1, i2⟩ := inc_append c0 _ lo hi
  obtain ⟨i3, i4⟩ := inc_append cs.flatten cl _ i2
  have hlen : ∀ cs : List (List (Int × Str)), (∀ c ∈ cs, c.length = 17) → cs.flatten.length = 17 * cs.length := by
    intro cs
    induction cs with
    | nil => intro _; rfl
    | cons c r ih => intro h; rw [List.flatten_cons, List.length_append, h c (List.mem_cons_self ..), ih fun c' h' => h c' (List.mem_cons_of_mem _ h'), List.length_cons]; omega
  have F0 := TW.flush0 (w := w) (p := p) (q := q) (os := os) (t := t) (base := base) h0 i1 hs
  have he : ent t (c0 ++ cs.flatten) ≠ [] := by
    intro e
    have := congrArg List.length e
    rw [ent_length, List.length_append, h0] at this
    simp at this
  have hb : ∀ e ∈ ent t (c0 ++ cs.flatten), e.hash ≤ Mine.hi (Mine.hi lo c0) cs.flatten := fun e h => by
    rw [ent_append, h0] at h
    rcases List.mem_append.mp h with h | h
    · have := ent_hi c0 t lo i1 e h
      have := hi_le _ _ i3
      omega
    · exact ent_hi _ _ _ i3 e h
  have F2 := TW.flush2 (w := w) (p := q) (q := q) (os := os) (t := t + 51 + 51 * cs.length) (base := base) (subs := subsOf (t + 51) cs) (el := ent t (c0 ++ cs.flatten)) hcl i4 hs he hb (by rw [ent_length, List.length_append, h0, hlen cs hc]; omega)
  unfold dictDisplay
  refine TW.cast (n := (223 + (330 * cs.length + 0)) + (82 + 0)) (TW.bind (a := ((some base.objs.size, cl.map (pr q)) : St)) (p₁ := q)
    (s₁ := sh os (P base (ent t (c0 ++ cs.flatten)) (subsOf (t + 51) cs)) (t + 51 + 51 * cs.length)) ?_ (TW.bind F2 TW.pure)) (by omega)
  rw [List.map_append, List.map_append]
  obtain ⟨l, x, rfl, hl'⟩ := split_last c0 h0
  refine TW.fill (flush := flushD) (run := []) ⟨fun k v m run h => ?_, fun k v m run h => ?_⟩ l x (by omega) (by simpa using hl') F0 ?_
  · show (if ((run ++ [(k, v)]).length == 17) = true then _ else _) = _
    rw [if_neg (by simpa using h)]
  · show (if ((run ++ [(k, v)]).length == 17) = true then _ else _) = _
    rw [if_pos (by simpa using h)]
    rfl
  · refine TW.chunks ⟨fun k v m run h => ?_, fun k v m run h => ?_⟩ hs cs (ent t (l ++ [x])) [] (t + 51) (Mine.hi lo (l ++ [x])) q hc i3 (by intro e; have := congrArg List.length e; rw [ent_length, h0] at this; simp at this) (ent_hi (l ++ [x]) t lo i1) (by rw [ent_length, h0]; omega) ?_
    · show (if ((run ++ [(k, v)]).length == 17) = true then _ else _) = _
      rw [if_neg (by simpa using h)]
    · show (if ((run ++ [(k, v)]).length == 17) = true then _ else _) = _
      rw [if_pos (by simpa using h)]
      rfl
    · rw [show (if cs.isEmpty then q else q) = q by simp]
      have e := ent_append (l ++ [x]) cs.flatten t
      rw [h0] at e
      rw [← e, List.nil_append]
      refine TW.tail (flush := flushD) ⟨fun k v m run h => ?_, fun k v m run h => ?_⟩ cl [] (by simp [hcl])
      · show (if ((run ++ [(k, v)]).length == 17) = true then _ else _) = _
        rw [if_neg (by simpa using h)]
      · show (if ((run ++ [(k, v)]).length == 17) = true then _ else _) = _
        rw [if_pos (by simpa using h)]
        rfl
end
end Mine
end
-- HeadG
section
open PySem PySem.W PyProof.Rows
set_option maxRecDepth 100000
set_option maxHeartbeats 0
namespace Mine
noncomputable def sts_13 : List Stmt := (bE.drop 13).take 1
def nm13 : Str := Str.ofString "b3_exceptions"
def np13 : Pos := ⟨87, 0, 87, 13⟩
def dp13 : Pos := ⟨87, 16, 87, 8704⟩
def sp13 : Pos := ⟨87, 0, 87, 8704⟩
theorem sts13_eq : sts_13 = [.Assign [.Name nm13 np13] (.Dict keys13 vals13 dp13) sp13] := by kernel_rfl
theorem items13 : (evalEachOpt keys13 env).zip ((evalEach vals13 env).map fun v => do let x ← v; standAt dp13; pure x) = kvs13.map (it dp13) := by kernel_rfl
noncomputable def incB : Int → List (Int × Str) → Bool
  | _, [] => true
  | lo, (k, _) :: r => decide (lo < hashInt k) && incB (hashInt k) r
theorem inc_of : ∀ (l : List (Int × Str)) (lo : Int), incB lo l = true → Inc lo l
  | [], _, _ => trivial
  | (k, v) :: r, lo, h => by
    obtain ⟨a, b⟩ := Bool.and_eq_true_iff.mp h
    exact ⟨of_decide_eq_true a, inc_of r _ b⟩
theorem inc13 : Inc (-1) kvs13 := inc_of _ _ (by decide +kernel)
theorem parts13 : kvs13 = c13 ++ (cs13.flatten ++ cl13) := by decide +kernel
theorem len13 : (c13.length == 17 && cs13.all (·.length == 17) && cl13.length == 4 && cs13.length == 37) = true := by decide +kernel
noncomputable def insAll : BT → Nat → List Obj → BT
  | t, _, [] => t
  | t, n, o :: r => insAll (t.ins n o) (n + 1) r
noncomputable def okAll : BT → Nat → List Obj → Bool
  | _, _, [] => true
  | t, n, o :: r => ((t.ins n o).get n).isSome && okAll (t.ins n o) (n + 1) r
theorem pushAll_abs {life : Life} : ∀ (os : List Obj) (t : BT) (n : Nat), okAll t n os = true → pushAll (absHeap t n life) os = absHeap (insAll t n os) (n + os.length) life
  | [], t, n, _ => rfl
  | o :: r, t, n, h => by
    obtain ⟨a, b⟩ := Bool.and_eq_true_iff.mp h
    rw [pushAll_cons, ← absHeap_ins a, pushAll_abs r _ _ b, insAll, List.length_cons]
    congr 1
    omega
theorem ok13 (w : World) : okAll (T_13 w.params) 134 (dct es13.toArray es13.length :: subs13) = true := by kernel_rfl
theorem mid13 (w : World) : insAll (T_13 w.params) 134 (dct es13.toArray es13.length :: subs13) = T_mid w.params := by kernel_rfl
theorem n13 : 134 + (dct es13.toArray es13.length :: subs13).length = 173 := by kernel_rfl
theorem heap13 (w : World) : P (absHeap (T_13 w.params) 134 life0) es13 subs13 = absHeap (T_mid w.params) 173 life0 := by
  unfold P
  rw [← pushAll_cons, pushAll_abs _ _ _ (ok13 w), mid13, n13]
theorem eval_dict (ks : List (Option Expr)) (vs : List Expr) (pos : Pos) (e : Env) : eval (.Dict ks vs pos) e = (do standAt pos; dictDisplay ((evalEachOpt ks e).zip ((evalEach vs e).map fun v => do let x ← v; standAt pos; pure x))) := by rfl
theorem dict13 (w : World) (os : OsState) (p : Pos) : TW w (eval (.Dict keys13 vals13 dp13) env) p (sh os (absHeap (T_13 w.params) 134 life0) 407) (.ref 134) dp13 (sh os (absHeap (T_mid w.params) 173 life0) 2357) (1 + (223 + (330 * 37 + (82 + 0)))) := by
  rw [eval_dict, items13, parts13]
  have L := len13
  simp only [Bool.and_eq_true, beq_iff_eq, List.all_eq_true] at L
  obtain ⟨⟨⟨l1, l2⟩, l3⟩, l4⟩ := L
  have D := TW.display (w := w) (p := dp13) (q := dp13) (os := os) (t := 407) (base := absHeap (T_13 w.params) 134 life0) (c0 := c13) (cs := cs13) (cl := cl13) (lo := -1) (by rw [absHeap_size]; decide) l1 l2 l3 (by omega) (by intro e; rw [e] at l4; cases l4) (parts13 ▸ inc13)
  rw [l4, absHeap_size] at D
  have e : P (absHeap (T_13 w.params) 134 life0) (ent 407 (c13 ++ cs13.flatten) ++ entS (407 + 51 + 51 * 37) cl13) (subsOf (407 + 51) cs13 ++ [dct (entS (407 + 51 + 51 * 37) cl13).toArray 4]) = absHeap (T_mid w.params) 173 life0 := heap13 w
  rw [e] at D
  exact TW.bind TW.standAt D
noncomputable def rest13 (v : Value) : Sem Flow := do standAt np13; bindName env nm13 v; pure .next
noncomputable def K13 : Flow → Sem Fin := fun f => match f with | .next => (execs [] env).wrap doneF deadEnd id id | f => doneF f
theorem exec13 : exec (.Assign [.Name nm13 np13] (.Dict keys13 vals13 dp13) sp13) env = (do standAt sp13; let v ← eval (.Dict keys13 vals13 dp13) env; rest13 v) :=
  exec_Assign_Name env nm13 np13 (.Dict keys13 vals13 dp13) sp13 (by kernel_rfl)
theorem thread13 (p : Pos) : piecesOf sts_13 env cE p BB = ⟨(exec (.Assign [.Name nm13 np13] (.Dict keys13 vals13 dp13) sp13) env).wrap K13 deadEnd id id, cE, p, BB⟩ := by
  show Thread.mk _ _ _ _ = _
  rw [sts13_eq, execs_cons_wrap]
  rfl
theorem tail13 (w : World) (os : OsState) : SEGT TT pw w 11 ann0 1 9 (S_mid w os) ⟨(rest13 (.ref 134)).wrap K13 deadEnd id id, cE, dp13, BB⟩ = some (Flow.next, S_14 w os, cE, p_14) := by kernel_rfl
theorem tt_eq : treeTable = TT := Fast.te14364793385576792824
theorem segT_eq : @segRunT = @SEGT := Fast.te10110043849684766642
theorem lift {w : World} {n : Nat} {s s' : SharedT} {t : Thread} {f : Flow} {c : Code} {q : Pos} (h : SEGT TT pw w 11 ann0 1 n s t = some (f, s', c, q)) : segRun treeTable pw w 11 ann0 1 n s.abs t = some (f, s'.abs, c, q) :=
  segRun_of (by rw [segT_eq, tt_eq]; exact h)
theorem bw {α β : Type} (m : Sem α) (f : α → Sem β) (K : β → Sem Fin) (H : Value → Sem Fin) (gd : Bool → Bool) (lv : List Value → List Value) : (m >>= f).wrap K H gd lv = m.wrap (fun a => (f a).wrap K H gd lv) H gd lv := by
  rw [Sem.bind_eq_wrap', Sem.wrap_wrap]
  rfl
theorem g_13 (w : World) (os : OsState) : segRun treeTable pw w 11 ann0 1 (1 + (1 + (223 + (330 * 37 + (82 + 0)))) + 9) (S_13 w os).abs (piecesOf sts_13 env cE p_13 BB) = some (Flow.next, (S_14 w os).abs, cE, p_14) := by
  rw [thread13, exec13]
  have A : TW w (do standAt sp13; eval (.Dict keys13 vals13 dp13) env) p_13 (sh os (absHeap (T_13 w.params) 134 life0) 407) (.ref 134) dp13 (sh os (absHeap (T_mid w.params) 173 life0) 2357) _ := TW.bind TW.standAt (dict13 w os sp13)
  have G := A (fun v => (rest13 v).wrap K13 deadEnd id id) deadEnd id id
  have e : (do standAt sp13; let v ← eval (.Dict keys13 vals13 dp13) env; rest13 v : Sem Flow).wrap K13 deadEnd id id = (do standAt sp13; eval (.Dict keys13 vals13 dp13) env : Sem Value).wrap (fun v => (rest13 v).wrap K13 deadEnd id id) deadEnd id id := by
    exact (bw _ _ _ _ _ _).trans ((congrArg (fun k => (standAt sp13).wrap k deadEnd id id) (funext fun _ => bw _ _ _ _ _ _)).trans (bw _ _ _ _ _ _).symm)
  rw [e]
  exact seg_go G (lift (tail13 w os))
end Mine
end
-- HeadL
section
open PySem PySem.W PyProof.Rows
set_option maxRecDepth 100000
set_option maxHeartbeats 0
namespace Mine
noncomputable def sts_0 : List Stmt := (bE.drop 0).take 2
noncomputable def sts_2 : List Stmt := (bE.drop 2).take 1
noncomputable def sts_3 : List Stmt := (bE.drop 3).take 8
noncomputable def sts_11 : List Stmt := (bE.drop 11).take 1
noncomputable def sts_12 : List Stmt := (bE.drop 12).take 1
noncomputable def sts_14 : List Stmt := (bE.drop 14).take 11
theorem g_0 (w : World) (os : OsState) : SEGT TT pw w 11 ann0 1 39 (S_0 w os) (piecesOf sts_0 env cE p_0 BB) = some (Flow.next, S_2 w os, cE, p_2) := by kernel_rfl
theorem g_2 (w : World) (os : OsState) : SEGT TT pw w 11 ann0 1 494 (S_2 w os) (piecesOf sts_2 env cE p_2 BB) = some (Flow.next, S_3 w os, cE, p_3) :=
  byRow2 "special-get-raises" (P := fun w => ∀ os, SEGT TT pw w 11 ann0 1 494 (S_2 w os) (piecesOf sts_2 env cE p_2 BB) = some (Flow.next, S_3 w os, cE, p_3))
    (fun w os => by kernel_rfl) (fun w os => by kernel_rfl) w os
theorem g_3 (w : World) (os : OsState) : SEGT TT pw w 11 ann0 1 160 (S_3 w os) (piecesOf sts_3 env cE p_3 BB) = some (Flow.next, S_11 w os, cE, p_11) := by kernel_rfl
theorem g_11 (w : World) (os : OsState) : SEGT TT pw w 11 ann0 1 999 (S_11 w os) (piecesOf sts_11 env cE p_11 BB) = some (Flow.next, S_12 w os, cE, p_12) :=
  byRow2 "special-get-raises" (P := fun w => ∀ os, SEGT TT pw w 11 ann0 1 999 (S_11 w os) (piecesOf sts_11 env cE p_11 BB) = some (Flow.next, S_12 w os, cE, p_12))
    (fun w os => by kernel_rfl) (fun w os => by kernel_rfl) w os
theorem g_12 (w : World) (os : OsState) : SEGT TT pw w 11 ann0 1 30 (S_12 w os) (piecesOf sts_12 env cE p_12 BB) = some (Flow.next, S_13 w os, cE, p_13) := by kernel_rfl
theorem g_14 (w : World) (os : OsState) : SEGT TT pw w 11 ann0 1 292 (S_14 w os) (piecesOf sts_14 env cE p_14 BB) = some (Flow.next, S_25 w os, cE, p_25) := by kernel_rfl
theorem body_eq : bE = sts_0 ++ (sts_2 ++ (sts_3 ++ (sts_11 ++ (sts_12 ++ (sts_13 ++ (sts_14 ++ [])))))) := by kernel_rfl
theorem fin_eq (w : World) (os : OsState) : Fast.tw14082659384304107361 TT pw w 11 ann0 2 (S_25 w os).abs ⟨doneF Flow.next, cE, p_25, BB⟩ = some (S_25 w os).abs := by kernel_rfl
theorem pre_eq (w : World) (os : OsState) : Fast.tw15667345088766844465 TT pw w 11 ann0 12 ⟨boot_heap w.params, #[], boot_drawn, boot_toks, os⟩ (topStub pw) = some ((S_pre w os).abs, ⟨Fast.tw11892475500146522536 TT cE, cE, p_pre, BB⟩) := by kernel_rfl
theorem block_eq (w : World) (os : OsState) : Fast.tw14374325043358763698 TT pw w 11 ann0 1 1 (S_pre w os).abs (blockOf bE env cE p_pre BB) = some (Flow.next, (S_0 w os).abs, cE, p_0) := by kernel_rfl
theorem denote_eq' : @denote = @Fast.tw11892475500146522536 := Fast.te11892475500146522536
theorem topRun_eq' : @topRun = @Fast.tw14082659384304107361 := Fast.te14082659384304107361
theorem topGo_eq' : @topGo = @Fast.tw15667345088766844465 := Fast.te15667345088766844465
theorem segRun_eq' : @segRun = @Fast.tw14374325043358763698 := Fast.te14374325043358763698
theorem run_eq (w : World) (os : OsState) : topRun treeTable pw w 11 ann0 (12 + (1 + (39 + (494 + (160 + (999 + (30 + ((1 + (1 + (223 + (330 * 37 + (82 + 0)))) + 9) + (292 + 2)))))))))
    ⟨boot_heap w.params, #[], boot_drawn, boot_toks, os⟩ (topStub pw) = some (S_25 w os).abs := by
  have hf : topRun treeTable pw w 11 ann0 2 (S_25 w os).abs (restOf [] env cE p_25 BB) = some (S_25 w os).abs := piece_nil (by rw [topRun_eq', tt_eq]; exact fin_eq w os)
  have h14 := piece_app (rest := []) (lift (g_14 w os)) hf
  have h13 := piece_app (g_13 w os) h14
  have h12 := piece_app (lift (g_12 w os)) h13
  have h11 := piece_app (lift (g_11 w os)) h12
  have h3 := piece_app (lift (g_3 w os)) h11
  have h2 := piece_app (lift (g_2 w os)) h3
  have h0 := piece_app (lift (g_0 w os)) h2
  rw [← body_eq] at h0
  have hb := piece_block (by rw [segRun_eq', tt_eq]; exact block_eq w os) h0
  exact go_top (by rw [topGo_eq', denote_eq', tt_eq]; exact pre_eq w os) hb
end Mine
end
-- HeadO
section
open PySem PySem.W PyProof.Rows
set_option maxRecDepth 100000
set_option maxHeartbeats 0
namespace Mine
/-- the part of the top's heap that the walk knows whole -/
noncomputable def KK (P : Params) : Frag :=
  (nat_lit 2, boot_o_2 P) :: (nat_lit 3, o3_25 P) :: (nat_lit 15, o15 P) :: (nat_lit 17, o17 P) :: (nat_lit 18, o18 P) :: (nat_lit 20, o20 P) :: (nat_lit 21, o21 P) :: (nat_lit 32, o32 P) ::
  (nat_lit 34, o34 P) :: (nat_lit 35, o35 P) :: (nat_lit 37, o37 P) :: (nat_lit 38, o38 P) :: (nat_lit 39, o39 P) :: (nat_lit 41, o41 P) :: (nat_lit 42, o42 P) :: (nat_lit 44, o44 P) ::
  (nat_lit 45, o45 P) :: (nat_lit 46, o46 P) :: (nat_lit 48, o48 P) :: (nat_lit 49, o49 P) :: (nat_lit 51, o51 P) :: (nat_lit 52, o52 P) :: (nat_lit 53, o53 P) :: (nat_lit 55, o55 P) ::
  (nat_lit 56, o56 P) :: (nat_lit 58, o58 P) :: (nat_lit 59, o59 P) :: (nat_lit 60, o60 P) :: (nat_lit 62, o62 P) :: (nat_lit 63, o63 P) :: (nat_lit 65, o65 P) :: (nat_lit 66, o66 P) ::
  (nat_lit 67, o67 P) :: (nat_lit 69, o69 P) :: (nat_lit 70, o70 P) :: (nat_lit 72, o72 P) :: (nat_lit 73, o73 P) :: (nat_lit 74, o74 P) :: (nat_lit 76, o76 P) :: (nat_lit 77, o77 P) ::
  (nat_lit 79, o79 P) :: (nat_lit 80, o80 P) :: (nat_lit 81, o81 P) :: (nat_lit 82, o82 P) :: (nat_lit 83, o83 P) :: (nat_lit 84, o84 P) :: (nat_lit 85, o85 P) :: (nat_lit 88, o88 P) ::
  (nat_lit 90, o90 P) :: (nat_lit 91, o91 P) :: (nat_lit 93, o93 P) :: (nat_lit 94, o94 P) :: (nat_lit 95, o95 P) :: (nat_lit 97, o97 P) :: (nat_lit 98, o98 P) :: (nat_lit 100, o100 P) ::
  (nat_lit 101, o101 P) :: (nat_lit 102, o102 P) :: (nat_lit 104, o104 P) :: (nat_lit 105, o105 P) :: (nat_lit 107, o107 P) :: (nat_lit 108, o108 P) :: (nat_lit 109, o109 P) :: (nat_lit 111, o111 P) ::
  (nat_lit 112, o112 P) :: (nat_lit 114, o114 P) :: (nat_lit 115, o115 P) :: (nat_lit 123, o123 P) :: (nat_lit 127, o127 P) :: (nat_lit 129, o129 P) :: (nat_lit 130, o130 P) :: (nat_lit 132, o132 P) ::
  (nat_lit 133, o133 P) :: (nat_lit 134, o134 P) :: (nat_lit 173, o173 P) :: (nat_lit 175, o175 P) :: (nat_lit 176, o176 P) :: (nat_lit 178, o178 P) :: (nat_lit 179, o179 P) :: (nat_lit 180, o180 P) ::
  (nat_lit 182, o182 P) :: (nat_lit 183, o183 P) :: (nat_lit 185, o185 P) :: (nat_lit 186, o186 P) :: (nat_lit 187, o187 P) :: (nat_lit 189, o189 P) :: (nat_lit 190, o190 P) :: (nat_lit 192, o192 P) ::
  (nat_lit 193, o193 P) :: (nat_lit 194, o194 P) :: (nat_lit 197, o197 P) :: (nat_lit 198, o198 P) :: (nat_lit 199, o199 P) :: (nat_lit 201, o201 P) :: (nat_lit 202, o202 P) :: (nat_lit 204, o204 P) ::
  (nat_lit 205, o205 P) :: (nat_lit 206, o206 P) :: (nat_lit 209, o209 P) :: (nat_lit 210, o210 P) :: (nat_lit 211, o211 P) :: (nat_lit 213, o213 P) :: (nat_lit 214, o214 P) :: (nat_lit 216, o216 P) ::
  (nat_lit 217, o217 P) :: (nat_lit 218, o218 P) :: (nat_lit 221, o221 P) :: (nat_lit 222, o222 P) :: (nat_lit 223, o223 P) :: (nat_lit 226, o226 P) :: (nat_lit 227, o227 P) :: (nat_lit 228, o228 P) ::
  (nat_lit 231, o231 P) :: (nat_lit 232, o232 P) :: []
def kas : List Addr := [2, 3, 15, 17, 18, 20, 21, 32, 34, 35, 37, 38, 39, 41, 42, 44, 45, 46, 48, 49, 51, 52, 53, 55, 56, 58, 59, 60, 62, 63, 65, 66, 67, 69, 70, 72, 73, 74, 76, 77, 79, 80, 81, 82, 83, 84, 85, 88, 90, 91, 93, 94, 95, 97, 98, 100, 101, 102, 104, 105, 107, 108, 109, 111, 112, 114, 115, 123, 127, 129, 130, 132, 133, 134, 173, 175, 176, 178, 179, 180, 182, 183, 185, 186, 187, 189, 190, 192, 193, 194, 197, 198, 199, 201, 202, 204, 205, 206, 209, 210, 211, 213, 214, 216, 217, 218, 221, 222, 223, 226, 227, 228, 231, 232]
theorem kas_eq (P : Params) : kas = (KK P).map (·.1) := by kernel_rfl
noncomputable def qv : Program := view pw [0, 4, 5, 7, 8, 9, 12, 14, 16, 17, 18, 19, 20, 21, 22, 23, 24]
def loose : List Str := [Str.ofString "Whitespace", Str.ofString "b1_set", Str.ofString "b3_exceptions"]
abbrev rr : OpenRow := OpenLaw.row PySem.Challenge.rw_tl0050_01
noncomputable def Xt (s : Shared) : Bool := xlAt qv [] s && recOk (RowW.records rr.toRowW) s
theorem open_eq (w : World) : (fencedOpening treeTable pw w 40000).map (fun s => (s.heap, s.gens, s.drawn, s.toks)) = some (boot_heap w.params, Array.mk [], boot_drawn, boot_toks) :=
  boot_open (p := pw) (by kernel_rfl) (by decide) (fun s => by kernel_rfl) w
theorem size_eq (w : World) : ((boot_heap w.params).isNs mainGlobals && (#[] : Array GenState).size == 0, (boot_heap w.params).objs.size, (boot_heap w.params).nsMap mainGlobals "__annotations__") = (true, 11, ann0) := by kernel_rfl
noncomputable abbrev H1 (w : World) : Heap := absHeap (T_25 w.params) 233 life0
noncomputable abbrev Sh1 (w : World) (os : OsState) : Shared := ⟨H1 w, #[], drawn0, 2432, os⟩
theorem look1 (w : World) (os : OsState) : (staticsOk (importedModules pw.main.body) (boot_heap w.params) (H1 w) && namesBound pw (H1 w) && gensDone (Sh1 w os) && laidKept (boot_heap w.params) (H1 w)) = true := by kernel_rfl
theorem lookY (w : World) (os : OsState) : kas.map (Sh1 w os).heap.get? = (KK w.params).map fun p => some p.2 := by kernel_rfl
theorem seen1 (w : World) (os : OsState) : seen ((recsOf qv).map (·.name)) (ownsOf qv) [] { Sh1 w os with gens := #[] } = expectedOf qv := by kernel_rfl
theorem seen2 (w : World) : (H1 w).bltView = bltViewBooted := by kernel_rfl
theorem e_keysOk : @Heap.keysOk = @Fast.tw10880121769531294198 := Fast.te10880121769531294198
theorem e_looseW : @looseW = @Fast.tw821141287760084731 := Fast.te821141287760084731
theorem e_recsOf : @recsOf = @Fast.tw3399658132070893891 := Fast.te3399658132070893891
theorem e_litsOf : @litsOf = @Fast.tw7409074990110511671 := Fast.te7409074990110511671
theorem e_clssOf : @clssOf = @Fast.tw13664370479719496447 := Fast.te13664370479719496447
theorem e_accountedOkI : @Heap.accountedOkI = @Fast.tw14722251495701143533 := Fast.te14722251495701143533
theorem e_tablesOk : @tablesOk = @Fast.tw10994771534591457954 := Fast.te10994771534591457954
theorem e_importedModules : @importedModules = @Fast.tw5923862056798008813 := Fast.te5923862056798008813
theorem seen3q (w : World) (os : OsState) : (Fast.tw10880121769531294198 (H1 w) (Fast.tw821141287760084731 qv loose) ((Fast.tw3399658132070893891 qv).map (·.name)) ((Fast.tw7409074990110511671 qv).map (·.1)) ((Fast.tw13664370479719496447 qv (Fast.tw821141287760084731 qv loose)).map (·.name)) && Fast.tw14722251495701143533 (H1 w) (Fast.tw5923862056798008813 pw.main.body) && (H1 w).isNs mainGlobals && (H1 w).isNs builtinsNs && Fast.tw10994771534591457954 qv (H1 w) && Xt (Sh1 w os) && (if true then (Sh1 w os).gens.size == 0 else !leftWithCleanup (Sh1 w os).gens)) = true := by kernel_rfl
theorem seen3 (w : World) (os : OsState) : ((H1 w).keysOk (looseW qv loose) ((recsOf qv).map (·.name)) ((litsOf qv).map (·.1)) ((clssOf qv (looseW qv loose)).map (·.name)) && (H1 w).accountedOkI (importedModules pw.main.body) && (H1 w).isNs mainGlobals && (H1 w).isNs builtinsNs && tablesOk qv (H1 w) && Xt (Sh1 w os) && (if true then (Sh1 w os).gens.size == 0 else !leftWithCleanup (Sh1 w os).gens)) = true := by
  rw [e_keysOk, e_looseW, e_recsOf, e_litsOf, e_clssOf, e_accountedOkI, e_tablesOk, e_importedModules]
  exact seen3q w os
theorem seen4 (w : World) (os : OsState) : tabsOk qv (Sh1 w os) = true := by kernel_rfl
theorem seen5 (w : World) (os : OsState) : pinSeenD qv (drecsOf qv) (Sh1 w os) = pinGoodD (drecsOf qv) := by kernel_rfl
theorem seen6 (w : World) (os : OsState) : plainSeenE qv (looseW qv loose) (Sh1 w os) = plainGoodE qv (looseW qv loose) := by kernel_rfl
theorem seen7 (w : World) (os : OsState) : plainSeenD qv loose (Sh1 w os) = plainGoodD qv loose := by kernel_rfl
theorem seen8 (w : World) (os : OsState) : wideSeen qv (Sh1 w os) = wideGood qv := by kernel_rfl
theorem seen9 (w : World) (os : OsState) : clsSeenW qv loose (Sh1 w os) = clsGoodW qv loose := by kernel_rfl
end Mine
end
-- HeadT
section
open PySem PySem.W PyProof.Rows
set_option maxRecDepth 100000
set_option maxHeartbeats 0
namespace Mine
theorem looks_eq (w : World) : (fun os => ((staticsOk (importedModules pw.main.body) (boot_heap w.params) (H1 w) && namesBound pw (H1 w) && gensDone (Sh1 w os) && laidKept (boot_heap w.params) (H1 w)),
    openSeen qv loose (importedModules pw.main.body) Xt true (Sh1 w os), kas.map (Sh1 w os).heap.get?)) = fun _ => (true, openGood qv loose, (KK w.params).map fun p => some p.2) := by
  funext os
  refine looks_pair (look1 w os) (looks_pair ?_ (lookY w os))
  unfold openSeen openGood
  exact looks_pair (seen1 w os) (looks_pair (seen2 w) (looks_pair (seen3 w os) (looks_pair (seen4 w os) (looks_pair (seen5 w os) (looks_pair (seen6 w os) (looks_pair (seen7 w os) (looks_pair (seen8 w os) (seen9 w os))))))))
noncomputable abbrev hook : Hook := kHook KK kas kas_eq
theorem left : LeftO pw qv loose Xt hook.obs hook.val 40000 :=
  LeftO.of_pieces (H₀ := boot_heap) (H₁ := fun P => absHeap (T_25 P) 233 life0) (gs₀ := #[]) (gs₁ := #[]) (d₀ := boot_drawn) (d₁ := drawn0) (k₀ := boot_toks) (k₁ := 2432) (m₀ := 11) (ann := ann0)
    open_eq size_eq run_eq (by decide) looks_eq
noncomputable def dlaw : DefRec := { name := Str.ofString "law", params := A24, body := B24, scope := C24, pos := ⟨139, 0, 152, 49⟩ }
theorem Mine_def : defOf qv rr.name = some (dlaw, []) := by kernel_rfl
theorem said_s1 : sreFenced rr.prog.main = true := by kernel_rfl
theorem said_s3 : namesResolve rr.prog = true := by kernel_rfl
theorem said_s4 : rr.prog.boundNames.all (fun n => !worldNames.contains n) = true := by kernel_rfl
theorem said_s2 : ((moduleNames rr.prog.main.body).isEmpty || lookedIntoSs (moduleNames rr.prog.main.body) rr.prog.main.body) = true := by kernel_rfl
theorem said_s5 : noRoadLSs { strict := !(importedModules rr.prog.main.body).all cThrough.contains, foot := none, bare := (["vars", "dir", "locals"] : List Str).filter (readsOut rr.prog rr.prog.main.body) } rr.prog.main.body = true := by kernel_rfl
theorem said_s6 : (namesMeet rr.prog rr.prog.main.body fun _ n => attrL n) = true := by kernel_rfl
theorem said_looks : looksOpen rr.prog = true := by
  unfold looksOpen
  exact look_both (look_both (look_both (look_both (look_both said_s1 said_s2) said_s3) said_s4) said_s5) said_s6
theorem said_part : rr.partSaid = true := by
  unfold OpenRow.partSaid
  iterate 13 refine look_both ?_ ?_
  · exact said_looks
  all_goals kernel_rfl
theorem said_row : rr.wellSaid = true := by
  unfold OpenRow.wellSaid
  refine look_both (look_both said_part ?_) ?_
  all_goals kernel_rfl
theorem said_law : PySem.Challenge.rw_tl0050_01.wellSaid = true := by
  unfold OpenLaw.wellSaid
  iterate 17 refine look_both ?_ ?_
  refine look_both said_row ?_
  all_goals kernel_rfl
end Mine
open Mine
theorem Mine.hd (walk : WalkO qv loose (XL qv []) hook.says rr.toRowW dlaw [] fun f vs => PySem.call f vs) : PySem.Challenge.rw_tl0050_01.Holds := by
  w_on
  refine holds_law said_law fun said => ?_
  refine holds_open (r := rr) (q := qv) (loose := loose) (Xt := Xt) (XP := XL qv []) (Yf := hook.obs) (Ya := hook.val) (YP := hook.says) (N := 40000) left hook.of hook.keeps (fun s e => xl_of s (Bool.and_eq_true_iff.mp e).1) XL.keeps Mine_def (by kernel_rfl) (by rfl)
    (fun s e => recFacts_of (Bool.and_eq_true_iff.mp e).2) (by rfl) (by assumption) (by decide +kernel) ⟨rfl, rfl, rfl, rfl, rfl, by decide +kernel⟩ ?hw walk
  case hw => w_witness2
end
section
open PySem PySem.W PyProof.Rows
set_option maxRecDepth 100000
set_option maxHeartbeats 8000000
namespace Mine
open PyProof.Rows.LCg
local macro_rules | `(tactic| walk_at "steps") => `(tactic| repeat' (first | (k_unfold; (try dsimp only)) | (k_end; wrow_close) | (walk1; all_goals (try dsimp only)) | (dsimp only; walk1) | (leave1; walk_say "STEP leave1"; try dsimp only)))
local macro_rules | `(tactic| walk_at "steps to subscriptTail") => `(tactic| repeat' ((fail_if_success (with_reducible show wpAny _ _ (subscriptTail _ _ _ _) _ _ _)); first | (k_unfold; (try dsimp only)) | (k_end; wrow_close) | (walk1; all_goals (try dsimp only)) | (dsimp only; walk1) | (leave1; walk_say "STEP leave1"; try dsimp only)))
local macro_rules | `(tactic| walk_at "steps to block") => `(tactic| repeat' ((fail_if_success (with_reducible show wpAny _ _ (eval (PySem.Expr.ListComp _ _ _ _) _) _ _ _)); first | (k_unfold; (try dsimp only)) | (k_end; wrow_close) | (walk1; all_goals (try dsimp only)) | (dsimp only; walk1) | (leave1; walk_say "STEP leave1"; try dsimp only)))
local macro_rules | `(tactic| walk_at "steps to call") => `(tactic| repeat' ((fail_if_success (with_reducible show wpAny _ _ (call (Value.ref _) _) _ _ _)); first | (k_unfold; (try dsimp only)) | (k_end; wrow_close) | (walk1; all_goals (try dsimp only)) | (dsimp only; walk1) | (leave1; walk_say "STEP leave1"; try dsimp only)))
local macro_rules | `(tactic| walk_at "steps to tuple") => `(tactic| repeat' ((fail_if_success (with_reducible show wpAny _ _ (call (Value.type _) _) _ _ _)); first | (k_unfold; (try dsimp only)) | (k_end; wrow_close) | (walk1; all_goals (try dsimp only)) | (dsimp only; walk1) | (leave1; walk_say "STEP leave1"; try dsimp only)))
local macro_rules | `(tactic| walk_at "steps to for") => `(tactic| repeat' ((fail_if_success (with_reducible show wpAny _ _ (exec (PySem.Stmt.For _ _ _ _ _) _) _ _ _)); first | (k_unfold; (try dsimp only)) | (k_end; wrow_close) | (walk1; all_goals (try dsimp only)) | (dsimp only; walk1) | (leave1; walk_say "STEP leave1"; try dsimp only)))
local macro_rules | `(tactic| walk_at "steps to tail") => `(tactic| repeat' ((fail_if_success (with_reducible show wpAny _ _ (subscriptTail _ _ _ _) _ _ _)); first | (k_unfold; (try dsimp only)) | (k_end; wrow_close) | (walk1; all_goals (try dsimp only)) | (dsimp only; walk1) | (leave1; walk_say "STEP leave1"; try dsimp only)))
local macro_rules | `(tactic| walk_at "steps to zip") => `(tactic| repeat' ((fail_if_success (with_reducible show wpAny _ _ (call (Value.type "zip") _) _ _ _)); first | (k_unfold; (try dsimp only)) | (k_end; wrow_close) | (walk1; all_goals (try dsimp only)) | (dsimp only; walk1) | (leave1; walk_say "STEP leave1"; try dsimp only)))
local macro_rules | `(tactic| walk_at "steps to slice") => `(tactic| repeat' ((fail_if_success (with_reducible show wpAny _ _ (eval (PySem.Expr.Subscript _ (PySem.Expr.Slice _ _ _ _) _) _) _ _ _)); first | (k_unfold; (try dsimp only)) | (k_end; wrow_close) | (walk1; all_goals (try dsimp only)) | (dsimp only; walk1) | (leave1; walk_say "STEP leave1"; try dsimp only)))
local macro_rules | `(tactic| walk_at "steps to ne") => `(tactic| repeat' ((fail_if_success (with_reducible show wpAny _ _ (compareOp PySem.CmpOp.NotEq _ _) _ _ _)); first | (k_unfold; (try dsimp only)) | (k_end; wrow_close) | (walk1; all_goals (try dsimp only)) | (dsimp only; walk1) | (leave1; walk_say "STEP leave1"; try dsimp only)))
-- C0
section
noncomputable abbrev Led := List (Addr × Obj)
section
variable {prog : Program} {w : World} {A : Around} {E : Value → Shared → Prop} {R : Result → Shared → Prop} {s : Shared}
noncomputable abbrev TestsAt (prog : Program) (w : World) (A : Around) (ifs : List PySem.Expr) (env : Env) (Q : Bool → Shared → Prop) (E : Value → Shared → Prop) (s : Shared) : Prop :=
  wpAny (model prog w) A (forIn ifs true fun c r => if r = true then do let ok ← isTrue c env (eval c env); pure (ForInStep.yield ok) else pure (ForInStep.yield r)) Q E s
theorem compLoop_T {elt target iter : PySem.Expr} {ifs : List PySem.Expr} {scope : Scope} {pos : Pos} {it acc : Value} {env : Env} (I : Nat → Shared → Prop)
    (turn : ∀ n s, I n s → wpAny (model prog w) A (pyNext it) (fun r s₁ => match r with
      | none => R (.ok .next) s₁
      | some v => wpAny (model prog w) A (letOwnedTupleGo target it v) (fun _ s₁' => wpAny (model prog w) A (assign target env v) (fun _ s₂ =>
          TestsAt prog w A ifs env (fun ok s₃ =>
            if ok = true then wpAny (model prog w) A (eval elt env) (fun x s₄ =>
              wpAny (model prog w) A (call (.builtin "list.append") [acc, x]) (fun _ s₅ => ∃ m, m < n ∧ I m s₅) (notedBy (model prog w) A env fun e s' => R (.error e) s') s₄) (notedBy (model prog w) A env fun e s' => R (.error e) s') s₃
            else ∃ m, m < n ∧ I m s₃) (notedBy (model prog w) A env fun e s' => R (.error e) s') s₂) (notedBy (model prog w) A env fun e s' => R (.error e) s') s₁') (notedBy (model prog w) A env fun e s' => R (.error e) s') s₁) (notedBy (model prog w) A env fun e s' => R (.error e) s') s)
    (n : Nat) (h : I n s) :
    codeAny (model prog w) A (.compLoop (.ListComp elt [⟨target, iter, ifs, 0⟩] scope pos) 0 it acc env) R s := by
  refine codeAny_loop rfl I (fun n s hI => ?_) n h
  show wpAny _ A ((compTurn (.ListComp elt [⟨target, iter, ifs, 0⟩] scope pos) 0 it acc env).onRaise (fun x => do noteFrame x env; theTreesLotGoes x)) _ _ s
  refine wpAny_noted ?_
  rw [compTurn_list]
  refine wpAny_bind (wpAny_standAt (wpAny_bind (wpAny_mono (turn n s hI) (fun r s₁ h₁ => ?_) fun _ _ h' => h')))
  cases r with
  | none => exact wpAny_pure h₁
  | some v =>
    refine wpAny_bind (wpAny_mono h₁ (fun _ s₁' h₁ => ?_) fun _ _ h' => h')
    refine wpAny_bind (wpAny_mono h₁ (fun _ s₂ h₂ => wpAny_bind (wpAny_mono h₂ (fun ok s₃ h₃ => ?_) fun _ _ h' => h')) fun _ _ h' => h')
    cases ok with
    | false => exact wpAny_pure ⟨rfl, h₃⟩
    | true =>
      exact wpAny_bind (wpAny_bind (wpAny_mono h₃ (fun x s₄ h₄ => wpAny_bind (wpAny_mono h₄ (fun _ s₅ h₅ => wpAny_pure (wpAny_pure ⟨rfl, h₅⟩)) fun _ _ h' => h')) fun _ _ h' => h'))
end
/-- an iterator's turns, with the tokens told -/
structure TTurns (prog : Program) (w : World) (A : Around) (target : PySem.Expr) (I : Addr) (fp wr : List Addr) (n n₀ : Nat) (P Md : Nat → Value → Heap → Nat → Prop) (St : Nat → Heap → Prop) : Prop where
  sub : ∀ b ∈ wr, b ∈ fp
  frame : ∀ i h h', St i h → (∀ b ∈ fp, ∀ o, h.get? b = some o → h'.get? b = some o) → St i h'
  item : ∀ i (s : Shared) (Q : Option Value → Shared → Prop) (E : Value → Shared → Prop), i < n → St i s.heap → n₀ ≤ s.toks →
    (∀ v h' tk, Md i v h' tk → n₀ ≤ tk → (∀ b o, b ∉ wr → s.heap.get? b = some o → h'.get? b = some o) → Q (some v) { s with heap := h', toks := tk }) → wpAny (model prog w) A (pyNext (.ref I)) Q E s
  go : ∀ i v (s : Shared) (Q : Unit → Shared → Prop) (E : Value → Shared → Prop), Md i v s.heap s.toks →
    (∀ h', P i v h' s.toks → St (i + 1) h' → (∀ b o, b ∉ wr → s.heap.get? b = some o → h'.get? b = some o) → Q () { s with heap := h' }) → wpAny (model prog w) A (letOwnedTupleGo target (.ref I) v) Q E s
  done : ∀ (s : Shared) (Q : Option Value → Shared → Prop) (E : Value → Shared → Prop), St n s.heap →
    (∀ h' tk, (∀ b o, b ∉ wr → s.heap.get? b = some o → h'.get? b = some o) → Q none { s with heap := h', toks := tk }) → wpAny (model prog w) A (pyNext (.ref I)) Q E s
theorem TTurns.ofK {prog : Program} {w : World} {A : Around} {target : PySem.Expr} {I : Addr} {fp wr : List Addr} {n : Nat} {P Md : Nat → Value → Heap → Prop} {St : Nat → Heap → Prop} (W : KTurns prog w A target I fp wr n P Md St) (n₀ : Nat) :
    TTurns prog w A target I fp wr n n₀ (fun i v h _ => P i v h) (fun i v h _ => Md i v h) St where
  sub := W.sub
  frame := W.frame
  item := fun i s Q E hi st hn hQ => wpAny_with_toks hn (W.item i s _ _ hi st fun v h' tk hm hk hle => hQ v h' tk hm hle hk)
  go := W.go
  done := W.done
/-- off the places of the block -/
noncomputable def OffT (C D : Addr) (wr : List Addr) (l : Led) : Prop := ∀ p ∈ l, p.1 ≠ C ∧ p.1 ≠ D ∧ p.1 ∉ wr
noncomputable def TEnd (h₀ : Heap) (L : Addr) (m : Str → Option Value) (s₁ : Shared) (C : Addr) (oC : Obj) (D : Addr) (oD : Obj) (wr : List Addr) (own : Led) (J : Led → Prop) (s₂ : Shared) : Prop :=
  ∃ h' tk news', s₂ = { s₁ with heap := h', toks := tk } ∧ Fr h₀ L h' m ∧ News h₀ L h' ((C, oC) :: (D, oD) :: (own ++ news')) ∧ OffT C D wr news' ∧ J news'
section
variable {prog : Program} {w : World} {A : Around} {E : Value → Shared → Prop} {s : Shared} {h₀ : Heap} {L : Addr} {m : Str → Option Value} {env : Env}
/-- a comprehension whose iterator hands out new objects -/
theorem block_TX {elt target iter : PySem.Expr} {ifs : List PySem.Expr} {scope : Scope} {cl : List (Str × Addr)} {pos : Pos} {s₂ : Shared} {I : Addr} {fp wr : List Addr} {n : Nat} {P Md : Nat → Value → Heap → Nat → Prop} {St : Nat → Heap → Prop} {news : Led}
    {V : Nat → Value → (Str → Option Value) → Nat → Prop} {RR : Value → Addr → Result → Shared → Prop}
    (XL : Nat → Value → Led) (W : TTurns prog w A target I fp wr n s₂.toks P Md St)
    (hturn : ∀ i (s : Shared) (QQ : Value → Shared → Prop) (R : Option Value → Shared → Prop) (E E2 : Value → Shared → Prop), i < n → St i s.heap → s₂.toks ≤ s.toks →
      (∀ v s₁, wpAny (model prog w) A (letOwnedTupleGo target (.ref I) v) (fun _ s' => QQ v s') E2 s₁ → R (some v) s₁) →
      (∀ v h' tk, P i v h' tk → St (i + 1) h' → s₂.toks ≤ tk → (∀ p ∈ XL i v, p.1 ∉ wr ∧ s.heap.get? p.1 = none ∧ h'.get? p.1 = some p.2) → (∀ b o, b ∉ wr → s.heap.get? b = some o → h'.get? b = some o) → QQ v { s with heap := h', toks := tk }) → wpAny (model prog w) A (pyNext (.ref I)) R E s)
    (hself : ∀ s (Q : Value → Shared → Prop) (E : Value → Shared → Prop), St 0 s.heap → Q (.ref I) s → wpAny (model prog w) A (pyIter (.ref I)) Q E s) (hsz : n ≤ sizeLine)
    (hcell : ∀ y ∈ scope.names, y.2 ≠ .cell) (hkind : scope.kind = .function) (hst : St 0 s₂.heap) (hfp : ∀ b ∈ fp, b < s₂.heap.objs.size)
    (F : Fr h₀ L s₂.heap m) (N : News h₀ L s₂.heap news) (hLf : L ∉ fp) (hwr : ∀ b ∈ wr, h₀.get? b = none) (hnw : ∀ p ∈ news, p.1 ∉ wr)
    (J : Nat → List Value → Led → Prop) (h0 : J 0 [] news)
    (asg : ∀ i v (s' : Shared) C m₂ (Q : Unit → Shared → Prop) (E : Value → Shared → Prop), i < n → P i v s'.heap s'.toks → s'.heap.Ns C m₂ → (∀ h' tk m₃, V i v m₃ tk → h'.Ns C m₃ → (∀ b o, b ≠ C → s'.heap.get? b = some o → h'.get? b = some o) → Q () { s' with heap := h', toks := tk }) →
      wpAny (model prog w) A (assign target (compEnvC scope cl C env) v) Q E s')
    (step : ∀ i v oC C D m₂ ys news₁ h tk own (E' : Value → Shared → Prop), i < n → V i v m₂ tk → s₂.toks ≤ tk → J i ys news₁ → (∀ p ∈ own, p.1 ∈ fp) → (∀ b ∈ fp, h₀.get? b = none → ∀ o, h.get? b = some o → (b, o) ∈ own) → St (i + 1) h → NsObj oC m₂ → Fr h₀ L h m → News h₀ L h ((C, oC) :: (D, lst ys) :: (own ++ (XL i v ++ news₁))) → C ≠ D → OffT C D wr news₁ → OffT C D wr (XL i v) → (∀ p ∈ XL i v, ∀ q ∈ news₁, p.1 ≠ q.1) →
      TestsAt prog w A ifs (compEnvC scope cl C env) (fun ok s₃ => if ok = true then wpAny (model prog w) A (eval elt (compEnvC scope cl C env)) (fun y s₄ => TEnd h₀ L m { s₂ with heap := h, toks := tk } C oC D (lst ys) wr own (J (i + 1) (ys ++ [y])) s₄) E' s₃
        else TEnd h₀ L m { s₂ with heap := h, toks := tk } C oC D (lst ys) wr own (J (i + 1) ys) s₃) E' { s₂ with heap := h, toks := tk })
    (hlen : ∀ i ys nw, J i ys nw → ys.length ≤ i)
    (hRR : ∀ D C h tk m' ys news', Fr h₀ L h m → News h₀ L h ((D, lst ys) :: news') → (∀ p ∈ news', p.1 ≠ D) → h.Ns C m' → h₀.get? C = none → h₀.get? D = none → C ≠ L → D ≠ L → C ≠ D → (∀ p ∈ news', p.1 ≠ C) → J n ys news' → RR (.ref D) C (.ok .next) { s₂ with heap := h, toks := tk }) :
    wpAny (model prog w) A (newList []) (fun acc s₃ => wpAny (model prog w) A (newFunctionEnv scope env.globals cl [] env.qual none .none (some env)) (fun cenv s₄ =>
      codeAny (model prog w) A (.compStart (.ListComp elt [⟨target, iter, ifs, 0⟩] scope pos) 0 (.ref I) acc { cenv with scope := relabel scope env }) (RR acc cenv.locals) s₄) E s₃) E s₂ := by
  refine wpAny_newObj_type (wpAny_newFunctionEnv hcell (by intro y hy; simp at hy) (fun h₁ hns₁ hsb₁ => ?_) hkind)
  dsimp only at hns₁ hsb₁ ⊢
  generalize hH2 : s₂.heap.push { cls := .type "list", dict := none, data := .seq ([] : List Value).toArray } = H2 at hns₁ hsb₁ ⊢
  have hC : H2.objs.size = s₂.heap.objs.size + 1 := by rw [← hH2, Heap.size_push]
  have hDC : s₂.heap.objs.size ≠ H2.objs.size := by rw [hC]; exact Nat.ne_of_lt (Nat.lt_succ_self _)
  have below : ∀ b, b < s₂.heap.objs.size → b ≠ H2.objs.size ∧ b ≠ s₂.heap.objs.size := fun b hb => ⟨by rw [hC]; exact Nat.ne_of_lt (Nat.lt_succ_of_lt hb), Nat.ne_of_lt hb⟩
  have hDf : s₂.heap.objs.size ∉ fp := fun hm => Nat.lt_irrefl _ (hfp _ hm)
  have hCf : H2.objs.size ∉ fp := fun hm => by have := hfp _ hm; rw [hC] at this; exact Nat.lt_irrefl _ (Nat.lt_of_succ_lt this)
  have hDw : s₂.heap.objs.size ∉ wr := fun h => hDf (W.sub _ h)
  have hCw : H2.objs.size ∉ wr := fun h => hCf (W.sub _ h)
  have old : ∀ b o, s₂.heap.get? b = some o → h₁.get? b = some o := fun b o e => hsb₁.extBut b o (below b (Heap.lt_size e)).1 (Heap.get?_push_of_some _ (hH2 ▸ Heap.get?_push_of_some _ e))
  have hacc : h₁.get? s₂.heap.objs.size = some (lst []) := hsb₁.extBut _ _ hDC (Heap.get?_push_of_some _ (hH2 ▸ Heap.get?_push_size _ rfl))
  have hst₁ : St 0 h₁ := W.frame _ _ _ hst fun b _ o e => old b o e
  have fresh : ∀ a, s₂.heap.objs.size ≤ a → s₂.heap.get? a = none := fun a ha => by
    cases e : s₂.heap.get? a with
    | none => rfl
    | some o' => exact absurd (Heap.lt_size e) (Nat.not_lt.mpr ha)
  have fresh₀ : ∀ a, s₂.heap.objs.size ≤ a → h₀.get? a = none := fun a ha => by
    cases e : h₀.get? a with
    | none => rfl
    | some o' => have := F.keep a o' e; rw [fresh a ha] at this; cases this
  have hD₀ : h₀.get? s₂.heap.objs.size = none := fresh₀ _ (Nat.le_refl _)
  have hC₀ : h₀.get? H2.objs.size = none := fresh₀ _ (by rw [hC]; exact Nat.le_succ _)
  have hLlt : L < s₂.heap.objs.size := F.ns.lt
  have hDL : s₂.heap.objs.size ≠ L := Ne.symm (below L hLlt).2
  have hCL : H2.objs.size ≠ L := Ne.symm (below L hLlt).1
  have hLw : L ∉ wr := fun h => hLf (W.sub _ h)
  have oldw : ∀ b o, h₀.get? b = some o → b ∉ wr := fun b o e hb => by rw [hwr b hb] at e; cases e
  have off₀ : OffT H2.objs.size s₂.heap.objs.size wr news := fun p hp => ⟨(below _ (Heap.lt_size (N p hp).1)).1, (below _ (Heap.lt_size (N p hp).1)).2, hnw p hp⟩
  have loop : ∀ s₃ : Shared, s₃ = { s₂ with heap := h₁, toks := s₂.toks + ([] : List (Str × Value)).length } →
      codeAny (model prog w) A (.compLoop (.ListComp elt [⟨target, iter, ifs, 0⟩] scope pos) 0 (.ref I) (.ref s₂.heap.objs.size) (compEnvC scope cl H2.objs.size env))
        (RR (.ref s₂.heap.objs.size) H2.objs.size) s₃ := by
    rintro s₃ rfl
    refine compLoop_T
      (fun k s' => ∃ h' tk i ys m' news', s' = { s₂ with heap := h', toks := tk } ∧ i ≤ n ∧ k = n + 1 - i ∧ s₂.toks ≤ tk ∧ St i h' ∧ Fr h₀ L h' m ∧ h'.Ns H2.objs.size m' ∧ News h₀ L h' ((s₂.heap.objs.size, lst ys) :: news') ∧
        OffT H2.objs.size s₂.heap.objs.size wr news' ∧ J i ys news') ?_ (n + 1)
      ⟨h₁, _, 0, [], _, news, rfl, Nat.zero_le _, rfl, Nat.le_add_right _ _, hst₁, F.keeps old, hns₁, fun p hp => ?_, off₀, h0⟩
    · rintro k s' ⟨h', tk, i, ys, m', news', rfl, hi, rfl, htk, hst', F', hn', N', off', hJ⟩
      have next : ∀ h₂ : Heap, (∀ b o, b ∉ wr → h'.get? b = some o → h₂.get? b = some o) → Fr h₀ L h₂ m ∧ h₂.Ns H2.objs.size m' ∧ News h₀ L h₂ ((s₂.heap.objs.size, lst ys) :: news') := fun h₂ hk =>
        ⟨⟨F'.ns.at' fun o e => hk _ o hLw e, fun b o e => hk b o (oldw b o e) (F'.keep b o e), F'.above⟩, hn'.at' (fun o e => hk _ o hCw e), fun p hp => by
          rcases List.mem_cons.mp hp with rfl | hp
          · exact ⟨hk _ _ hDw (N' _ List.mem_cons_self).1, (N' _ List.mem_cons_self).2⟩
          · exact ⟨hk _ _ (off' p hp).2.2 (N' p (List.mem_cons_of_mem _ hp)).1, (N' p (List.mem_cons_of_mem _ hp)).2⟩⟩
      by_cases hlt : i < n
      · refine hturn i _ _ _ _ _ hlt hst' htk (fun v s₁ h => h) fun v h₃ tk₂ hP hst₃ htk₂ hX₂ hk₂ => ?_
        obtain ⟨F₃, hn₃, N₃⟩ := next h₃ hk₂
        have offX : OffT H2.objs.size s₂.heap.objs.size wr (XL i v) := fun p hp => by
          obtain ⟨x1, x2, _⟩ := hX₂ p hp
          refine ⟨fun e => ?_, fun e => ?_, x1⟩
          · obtain ⟨oC, heC, _⟩ := ns_obj hn'
            have x2' : h'.get? p.1 = none := x2
            rw [e, heC] at x2'
            cases x2'
          · have x2' : h'.get? p.1 = none := x2
            rw [e, (N' _ List.mem_cons_self).1] at x2'
            cases x2'
        have newX : ∀ p ∈ XL i v, ∀ q ∈ news', p.1 ≠ q.1 := fun p hp q hq e => by
          have x2' : h'.get? p.1 = none := (hX₂ p hp).2.1
          rw [e, (N' q (List.mem_cons_of_mem _ hq)).1] at x2'
          cases x2'
        refine wpAny_with_toks (n := s₂.toks) htk₂ ?_
        refine asg i v _ H2.objs.size m' _ _ hlt hP hn₃ fun h₄ tk₄ m₃ hV hn₄ hk₄ htk₄ => ?_
        have hst₄ : St (i + 1) h₄ := W.frame _ _ _ hst₃ fun b hb o e => hk₄ b o (fun q => hCf (by have q' : b = H2.objs.size := q; rw [← q']; exact hb)) e
        obtain ⟨oC, heC, hoC⟩ := ns_obj hn₄
        have F₄ : Fr h₀ L h₄ m := ⟨F₃.ns.at' fun o e => hk₄ _ o (Ne.symm hCL) e, fun b o e => hk₄ b o (fun q => by rw [show b = H2.objs.size from q, hC₀] at e; cases e) (F₃.keep b o e), F₃.above⟩
        have Nown : News h₀ L h₄ (PyProof.Rows.ownOf h₀ fp h₄) := news_ownOf hLf
        have N₄ : News h₀ L h₄ ((H2.objs.size, oC) :: (s₂.heap.objs.size, lst ys) :: (PyProof.Rows.ownOf h₀ fp h₄ ++ (XL i v ++ news'))) := fun p hp => by
          rcases List.mem_cons.mp hp with rfl | hp
          · exact ⟨heC, hCL, hC₀⟩
          · rcases List.mem_cons.mp hp with rfl | hp
            · have z := N₃ _ List.mem_cons_self
              exact ⟨hk₄ _ _ hDC z.1, z.2⟩
            · rcases List.mem_append.mp hp with hp | hp
              · exact Nown p hp
              · rcases List.mem_append.mp hp with hp | hp
                · have x := hX₂ p hp
                  refine ⟨hk₄ _ _ (offX p hp).1 x.2.2, fun e => ?_, ?_⟩
                  · have x2' : h'.get? p.1 = none := x.2.1
                    obtain ⟨oL, _, _, hL, _⟩ := F'.ns
                    rw [e, hL] at x2'
                    cases x2'
                  · cases e : h₀.get? p.1 with
                    | none => rfl
                    | some o' =>
                      have x2' : h'.get? p.1 = none := x.2.1
                      rw [F'.keep _ _ e] at x2'
                      cases x2'
                · have z := N₃ p (List.mem_cons_of_mem _ hp)
                  exact ⟨hk₄ _ _ (off' p hp).1 z.1, z.2⟩
        refine wpAny_with_toks (n := s₂.toks) htk₄ ?_
        refine wpAny_mono (step i v oC H2.objs.size s₂.heap.objs.size m₃ ys news' h₄ tk₄ (PyProof.Rows.ownOf h₀ fp h₄) _ hlt hV htk₄ hJ ownOf_sub (fun b hb hn o e => mem_ownOf hb hn e) hst₄ hoC F₄ N₄ (Ne.symm hDC) off' offX newX) (fun ok s₅ h₅ htk₅ => ?_) fun _ _ e _ => e
        have stay : ∀ h₆, Fr h₀ L h₆ m → News h₀ L h₆ (PyProof.Rows.ownOf h₀ fp h₄) → St (i + 1) h₆ := fun h₆ F₆ N₆ => W.frame _ _ _ hst₄ fun b hb o e => by
          cases hn : h₀.get? b with
          | some o₀ =>
            have : o₀ = o := by have q := F₄.keep b o₀ hn; rw [e] at q; exact (Option.some.inj q).symm
            exact this ▸ F₆.keep b o₀ hn
          | none => exact (N₆ _ (mem_ownOf hb hn e)).1
        cases ok with
        | false =>
          obtain ⟨h₆, tk₆, news₆, rfl, F₆, N₆, off₆, J₆⟩ := h₅
          refine ⟨n + 1 - (i + 1), by lia, h₆, tk₆, i + 1, ys, m₃, news₆, rfl, hlt, rfl, htk₅, stay h₆ F₆ (fun p hp => N₆ p (List.mem_cons_of_mem _ (List.mem_cons_of_mem _ (List.mem_append_left _ hp)))), F₆, hoC.ns (N₆ _ List.mem_cons_self).1, fun p hp => ?_, off₆, J₆⟩
          rcases List.mem_cons.mp hp with rfl | hp
          · exact N₆ _ (List.mem_cons_of_mem _ List.mem_cons_self)
          · exact N₆ p (List.mem_cons_of_mem _ (List.mem_cons_of_mem _ (List.mem_append_right _ hp)))
        | true =>
          simp only [if_true] at h₅ ⊢
          refine wpAny_with_toks (n := s₂.toks) htk₅ ?_
          refine wpAny_mono h₅ (fun y s₆ h₆ htk₆ => ?_) fun _ _ e _ => e
          obtain ⟨h₆, tk₆, news₆, rfl, F₆, N₆, off₆, J₆⟩ := h₆
          have hle := hlen i ys _ hJ
          have zD := (N₆ _ (List.mem_cons_of_mem _ List.mem_cons_self)).1
          refine append_at (hsz := by show ys.toArray.size ≤ sizeLine; rw [List.size_toArray]; lia) zD fun h₇ hs₇ hD₇ => ?_
          refine ⟨n + 1 - (i + 1), by lia, h₇, tk₆, i + 1, ys ++ [y], m₃, news₆, rfl, hlt, rfl, htk₆, W.frame _ _ _ (stay h₆ F₆ (fun p hp => N₆ p (List.mem_cons_of_mem _ (List.mem_cons_of_mem _ (List.mem_append_left _ hp))))) fun b hb o e => hs₇.extBut b o (fun q => hDf (q ▸ hb)) e, F₆.change hs₇ hDL hD₀,
            (hoC.ns (N₆ _ List.mem_cons_self).1).sameBut hs₇ (Ne.symm hDC), fun p hp => ?_, off₆, J₆⟩
          rcases List.mem_cons.mp hp with rfl | hp
          · exact ⟨hD₇.trans (congrArg some (lst_snoc ys y)), hDL, hD₀⟩
          · have z := N₆ p (List.mem_cons_of_mem _ (List.mem_cons_of_mem _ (List.mem_append_right _ hp)))
            exact ⟨hs₇.extBut _ _ (off₆ p hp).2.1 z.1, z.2⟩
      · obtain rfl : i = n := Nat.le_antisymm hi (Nat.not_lt.mp hlt)
        refine W.done _ _ _ hst' fun h₂ tk₂ hk₂ => ?_
        obtain ⟨F₂, hn₂, N₂⟩ := next h₂ hk₂
        exact hRR _ _ h₂ tk₂ _ ys news' F₂ N₂ (fun p hp => (off' p hp).2.1) hn₂ hC₀ hD₀ hCL hDL (Ne.symm hDC) (fun p hp => (off' p hp).1) hJ
    · rcases List.mem_cons.mp hp with rfl | hp
      · exact ⟨hacc, hDL, hD₀⟩
      · exact ⟨old _ _ (N p hp).1, (N p hp).2⟩
  exact codeAny_compStart_list (loop _ rfl) (hself _ _ _ hst₁ (loop _ rfl))
theorem block_T {elt target iter : PySem.Expr} {ifs : List PySem.Expr} {scope : Scope} {cl : List (Str × Addr)} {pos : Pos} {s₂ : Shared} {I : Addr} {fp wr : List Addr} {n : Nat} {P Md : Nat → Value → Heap → Nat → Prop} {St : Nat → Heap → Prop} {news : Led}
    {V : Nat → Value → (Str → Option Value) → Nat → Prop} {RR : Value → Addr → Result → Shared → Prop}
    (W : TTurns prog w A target I fp wr n s₂.toks P Md St) (hself : ∀ s (Q : Value → Shared → Prop) (E : Value → Shared → Prop), St 0 s.heap → Q (.ref I) s → wpAny (model prog w) A (pyIter (.ref I)) Q E s) (hsz : n ≤ sizeLine)
    (hcell : ∀ y ∈ scope.names, y.2 ≠ .cell) (hkind : scope.kind = .function) (hst : St 0 s₂.heap) (hfp : ∀ b ∈ fp, b < s₂.heap.objs.size)
    (F : Fr h₀ L s₂.heap m) (N : News h₀ L s₂.heap news) (hLf : L ∉ fp) (hwr : ∀ b ∈ wr, h₀.get? b = none) (hnw : ∀ p ∈ news, p.1 ∉ wr)
    (J : Nat → List Value → Led → Prop) (h0 : J 0 [] news)
    (asg : ∀ i v (s' : Shared) C m₂ (Q : Unit → Shared → Prop) (E : Value → Shared → Prop), i < n → P i v s'.heap s'.toks → s'.heap.Ns C m₂ → (∀ h' tk m₃, V i v m₃ tk → h'.Ns C m₃ → (∀ b o, b ≠ C → s'.heap.get? b = some o → h'.get? b = some o) → Q () { s' with heap := h', toks := tk }) →
      wpAny (model prog w) A (assign target (compEnvC scope cl C env) v) Q E s')
    (step : ∀ i v oC C D m₂ ys news₁ h tk own (E' : Value → Shared → Prop), i < n → V i v m₂ tk → s₂.toks ≤ tk → J i ys news₁ → (∀ p ∈ own, p.1 ∈ fp) → (∀ b ∈ fp, h₀.get? b = none → ∀ o, h.get? b = some o → (b, o) ∈ own) → St (i + 1) h → NsObj oC m₂ → Fr h₀ L h m → News h₀ L h ((C, oC) :: (D, lst ys) :: (own ++ news₁)) → C ≠ D → OffT C D wr news₁ →
      TestsAt prog w A ifs (compEnvC scope cl C env) (fun ok s₃ => if ok = true then wpAny (model prog w) A (eval elt (compEnvC scope cl C env)) (fun y s₄ => TEnd h₀ L m { s₂ with heap := h, toks := tk } C oC D (lst ys) wr own (J (i + 1) (ys ++ [y])) s₄) E' s₃
        else TEnd h₀ L m { s₂ with heap := h, toks := tk } C oC D (lst ys) wr own (J (i + 1) ys) s₃) E' { s₂ with heap := h, toks := tk })
    (hlen : ∀ i ys nw, J i ys nw → ys.length ≤ i)
    (hRR : ∀ D C h tk m' ys news', Fr h₀ L h m → News h₀ L h ((D, lst ys) :: news') → (∀ p ∈ news', p.1 ≠ D) → h.Ns C m' → h₀.get? C = none → h₀.get? D = none → C ≠ L → D ≠ L → C ≠ D → (∀ p ∈ news', p.1 ≠ C) → J n ys news' → RR (.ref D) C (.ok .next) { s₂ with heap := h, toks := tk }) :
    wpAny (model prog w) A (newList []) (fun acc s₃ => wpAny (model prog w) A (newFunctionEnv scope env.globals cl [] env.qual none .none (some env)) (fun cenv s₄ =>
      codeAny (model prog w) A (.compStart (.ListComp elt [⟨target, iter, ifs, 0⟩] scope pos) 0 (.ref I) acc { cenv with scope := relabel scope env }) (RR acc cenv.locals) s₄) E s₃) E s₂ := by
  exact block_TX (fun _ _ => []) W (fun i s QQ R E E2 hi hst htk hR hQ => W.item i s R E hi hst htk fun v h₁ tk₁ hMd htk₁ hk₁ => hR v _ (W.go i v _ _ E2 hMd fun h₂ hP hst₂ hk₂ => hQ v h₂ tk₁ hP hst₂ htk₁ (fun p hp => nomatch hp) fun b o hb x => hk₂ b o hb (hk₁ b o hb x)))
    hself hsz hcell hkind hst hfp F N hLf hwr hnw J h0 asg (fun i v oC C D m₂ ys news₁ h tk own E' hi hV htk hJ o1 o2 hst hoC F' N' hCD hof _ _ => step i v oC C D m₂ ys news₁ h tk own E' hi hV htk hJ o1 o2 hst hoC F' N' hCD hof) hlen hRR
end
end
-- C1
section
section
variable {prog : Program} {w : World} {A : Around} {E : Value → Shared → Prop} {s : Shared} {h₀ : Heap} {L : Addr} {m : Str → Option Value} {env : Env}
/-- a block over an iterator: all that block_T asks, and what stands behind it -/
inductive BlockAt (prog : Program) (w : World) (A : Around) (h₀ : Heap) (L : Addr) (m : Str → Option Value) (env : Env) (elt target : PySem.Expr) (ifs : List PySem.Expr) (scope : Scope) (cl : List (Str × Addr)) (Fin : Shared → List Value → Led → Prop) (it : Value) (s₂ : Shared) : Prop
  | mk (I : Addr) (fp wr : List Addr) (n : Nat) (P Md : Nat → Value → Heap → Nat → Prop) (St : Nat → Heap → Prop) (news : Led) (V : Nat → Value → (Str → Option Value) → Nat → Prop) (J : Nat → List Value → Led → Prop)
    (q1 : it = .ref I) (q2 : TTurns prog w A target I fp wr n s₂.toks P Md St) (q3 : (∀ s (Q : Value → Shared → Prop) (E : Value → Shared → Prop), St 0 s.heap → Q (.ref I) s → wpAny (model prog w) A (pyIter (.ref I)) Q E s)) (q4 : n ≤ sizeLine) (q5 : St 0 s₂.heap) (q6 : (∀ b ∈ fp, b < s₂.heap.objs.size)) (q7 : Fr h₀ L s₂.heap m) (q8 : News h₀ L s₂.heap news) (q9 : L ∉ fp) (q10 : (∀ b ∈ wr, h₀.get? b = none)) (q11 : (∀ p ∈ news, p.1 ∉ wr)) (q12 : J 0 [] news) (q13 : (∀ i v (s' : Shared) C m₂ (Q : Unit → Shared → Prop) (E : Value → Shared → Prop), i < n → P i v s'.heap s'.toks → s'.heap.Ns C m₂ → (∀ h' tk m₃, V i v m₃ tk → h'.Ns C m₃ → (∀ b o, b ≠ C → s'.heap.get? b = some o → h'.get? b = some o) → Q () { s' with heap := h', toks := tk }) → wpAny (model prog w) A (assign target (compEnvC scope cl C env) v) Q E s')) (q14 : (∀ i v oC C D m₂ ys news₁ h tk own (E' : Value → Shared → Prop), i < n → V i v m₂ tk → s₂.toks ≤ tk → J i ys news₁ → (∀ p ∈ own, p.1 ∈ fp) → (∀ b ∈ fp, h₀.get? b = none → ∀ o, h.get? b = some o → (b, o) ∈ own) → St (i + 1) h → NsObj oC m₂ → Fr h₀ L h m → News h₀ L h ((C, oC) :: (D, lst ys) :: (own ++ news₁)) → C ≠ D → OffT C D wr news₁ → TestsAt prog w A ifs (compEnvC scope cl C env) (fun ok s₃ => if ok = true then wpAny (model prog w) A (eval elt (compEnvC scope cl C env)) (fun y s₄ => TEnd h₀ L m { s₂ with heap := h, toks := tk } C oC D (lst ys) wr own (J (i + 1) (ys ++ [y])) s₄) E' s₃ else TEnd h₀ L m { s₂ with heap := h, toks := tk } C oC D (lst ys) wr own (J (i + 1) ys) s₃) E' { s₂ with heap := h, toks := tk })) (q15 : (∀ i ys nw, J i ys nw → ys.length ≤ i)) (q16 : ∀ ys nw, J n ys nw → Fin s₂ ys nw) : BlockAt prog w A h₀ L m env elt target ifs scope cl Fin it s₂
noncomputable def FinTE (h₀ : Heap) (L : Addr) (m : Str → Option Value) (Q : Value → Shared → Prop) (s : Shared) (ys : List Value) (news : Led) : Prop :=
  ∀ D h tk, Fr h₀ L h m → News h₀ L h ((D, lst ys) :: news) → (∀ p ∈ news, p.1 ≠ D) → Q (.ref D) { s with heap := h, toks := tk }
noncomputable def FinTA (h₀ : Heap) (L : Addr) (m : Str → Option Value) (y : Str) (Q : Flow → Shared → Prop) (s : Shared) (ys : List Value) (news : Led) : Prop :=
  ∀ D h tk, Fr h₀ L h (fun z => if z = y then some (.ref D) else m z) → News h₀ L h ((D, lst ys) :: news) → (∀ p ∈ news, p.1 ≠ D) → Q .next { s with heap := h, toks := tk }
theorem ListComp_T {elt target iter : PySem.Expr} {ifs : List PySem.Expr} {scope : Scope} {cl : List (Str × Addr)} {pos : Pos} {Q : Value → Shared → Prop} (F₀ : Fr h₀ L s.heap m)
    (hclos : closureFor scope env = pure cl) (hcell : ∀ y ∈ scope.names, y.2 ≠ .cell) (hkind : scope.kind = .function)
    (hnames : ∀ y ∈ scope.names, y.2 = .local → scope.names.lookup y.1 = some .local)
    (h : wpAny (model prog w) A (eval iter env) (fun xv s₁ => wpAny (model prog w) A (pyIter xv) (BlockAt prog w A h₀ L m env elt target ifs scope cl (FinTE h₀ L m Q)) E s₁) E s)
    (hs : ∀ x, foldedSetIterable iter env x = pure x := by intro _; rfl) :
    wpAny (model prog w) A (eval (.ListComp elt [⟨target, iter, ifs, 0⟩] scope pos) env) Q E s := by
  rw [eval_ListComp]
  refine wpAny_comprehension_free (use := none) rfl hs hclos hkind hnames (wpAny_mono h (fun xv s₁ h₁ => wpAny_mono h₁ (fun it s₂ h₂ => ?_) fun _ _ e => e) fun _ _ e => e)
  obtain ⟨I, fp, wr, n, P, Md, St, news, V, J, rfl, W, hself, hsz, hst, hfp, F, N, hLf, hwr, hnw, h0, asg, step, hlen, fin⟩ := h₂
  refine block_T W hself hsz hcell hkind hst hfp F N hLf hwr hnw J h0 asg step hlen ?_
  intro D C h tk m' ys news' F' N' o1 hn hC₀ hD₀ hCL hDL hCD offC hJ
  refine ⟨m', hn, fun h'' hs'' => fin ys _ hJ D h'' tk (F'.change hs'' hCL hC₀) (fun p hp => ?_) o1⟩
  refine ⟨hs''.extBut _ _ ?_ (N' p hp).1, (N' p hp).2⟩
  rcases List.mem_cons.mp hp with rfl | hp
  · exact Ne.symm hCD
  · exact offC p hp
theorem Assign_ListComp_T {elt target iter : PySem.Expr} {ifs : List PySem.Expr} {y : Str} {py : Pos} {scope : Scope} {cl : List (Str × Addr)} {pos spos : Pos} {Q : Flow → Shared → Prop} (F₀ : Fr h₀ L s.heap m) (hLe : env.locals = L)
    (hsw : swapsWith (.ListComp elt [⟨target, iter, ifs, 0⟩] scope pos) (some (.Name y py)) spos.line env = pure true)
    (hclos : closureFor scope env = pure cl) (hcell : ∀ z ∈ scope.names, z.2 ≠ .cell) (hkind : scope.kind = .function)
    (hnames : ∀ z ∈ scope.names, z.2 = .local → scope.names.lookup z.1 = some .local)
    (hy : env.kindOf y = some .local) (hp : (env.scope.kind == .class || (env.scope.kind == .module && env.locals != env.globals)) = false)
    (h : wpAny (model prog w) A (eval iter env) (fun xv s₁ => wpAny (model prog w) A (pyIter xv) (BlockAt prog w A h₀ L m env elt target ifs scope cl (FinTA h₀ L m y Q)) E s₁) E s)
    (hs : ∀ x, foldedSetIterable iter env x = pure x := by intro _; rfl) :
    wpAny (model prog w) A (exec (.Assign [.Name y py] (.ListComp elt [⟨target, iter, ifs, 0⟩] scope pos) spos) env) Q E s := by
  subst hLe
  rw [exec_Assign_Name_used _ _ _ _ hsw]
  refine wpAny_bind (wpAny_standAt (wpAny_bind ?_))
  show wpAny _ A (do let _ ← comprehension (.ListComp elt [⟨target, iter, ifs, 0⟩] scope pos) scope env _ (newList []) false (eval iter env) (some (assign (.Name y py) env))) _ _ s
  refine wpAny_bind (wpAny_mono (wpAny_comprehension_free (use := some (assign (.Name y py) env)) (Q := fun _ s' => Q .next s') rfl hs hclos hkind hnames
    (wpAny_mono h (fun xv s₁ h₁ => wpAny_mono h₁ (fun it s₂ h₂ => ?_) fun _ _ e => e) fun _ _ e => e)) (fun _ s' hq => wpAny_pure (wpAny_pure hq)) fun _ _ e => e)
  obtain ⟨I, fp, wr, n, P, Md, St, news, V, J, rfl, W, hself, hsz, hst, hfp, F, N, hLf, hwr, hnw, h0, asg, step, hlen, fin⟩ := h₂
  refine block_T W hself hsz hcell hkind hst hfp F N hLf hwr hnw J h0 asg step hlen ?_
  intro D C h' tk m' ys news' F' N' o1 hn hC₀ hD₀ hCL hDL hCD offC hJ
  show wpAny _ A (assign (.Name y py) env (.ref D)) _ _ _
  refine wpAny_assign_Name (wpAny_storeName_local hy F'.ns (fun h₂ hn₂ hs₂ => ?_) hp)
  have hL₀ : h₀.get? env.locals = none := Heap.get?_none_of_le F'.above
  have F₂ : Fr h₀ env.locals h₂ (fun z => if z = y then some (.ref D) else m z) := ⟨hn₂, fun b o e => hs₂.extBut b o (fun q => by rw [q, hL₀] at e; cases e) (F'.keep b o e), F'.above⟩
  refine ⟨m', hn.sameBut hs₂ hCL, fun h'' hs'' => fin ys _ hJ D h'' _ (F₂.change hs'' hCL hC₀) (fun p hp => ?_) o1⟩
  have z : h₂.get? p.1 = some p.2 := hs₂.extBut _ _ (N' p hp).2.1 (N' p hp).1
  refine ⟨hs''.extBut _ _ ?_ z, (N' p hp).2⟩
  rcases List.mem_cons.mp hp with rfl | hp
  · exact Ne.symm hCD
  · exact offC p hp
/-- the target is one name -/
theorem asg_name {scope : Scope} {cl : List (Str × Addr)} {x : Str} {px : Pos} {n : Nat} {P : Nat → Value → Nat → Prop} (hmono : ∀ i v tk, P i v tk → P i v (tk + 1)) (hkind : scope.kind = .function) (hx : scope.names.lookup x = some .local) :
    ∀ i v (s' : Shared) C m₂ (Q : Unit → Shared → Prop) (E : Value → Shared → Prop), i < n → P i v s'.toks → s'.heap.Ns C m₂ →
      (∀ h' tk m₃, (m₃ x = some v ∧ P i v tk) → h'.Ns C m₃ → (∀ b o, b ≠ C → s'.heap.get? b = some o → h'.get? b = some o) → Q () { s' with heap := h', toks := tk }) →
      wpAny (model prog w) A (assign (.Name x px) (compEnvC scope cl C env) v) Q E s' := by
  intro i v s' C m₂ Q E _ hP hn h
  refine wpAny_assign_Name (wpAny_storeName_local (lookup_relabel_local hx) hn (fun h₃ hn₃ hs₃ => ?_) (by simp [compEnvC, relabel, hkind]))
  exact h h₃ (s'.toks + 1) _ ⟨by simp, hmono _ _ _ hP⟩ hn₃ fun b o hb e => hs₃.extBut b o hb e
end
end
-- C2
section
section
variable {prog : Program} {w : World} {A : Around} {E : Value → Shared → Prop} {s : Shared} {h₀ : Heap} {L : Addr} {m : Str → Option Value} {env : Env}
theorem go_name {x : Str} {px : Pos} {I : Addr} {v : Value} {s : Shared} {Q : Unit → Shared → Prop} {E : Value → Shared → Prop} (h : Q () s) : wpAny (model prog w) A (letOwnedTupleGo (.Name x px) (.ref I) v) Q E s := wpAny_pure h
noncomputable def SignT (x : Str) (n₀ i : Nat) (v : Value) (tk : Nat) : Prop := ∃ c u, x.cps[i]? = some c ∧ v = .str ⟨#[c]⟩ u ∧ n₀ ≤ u ∧ u < tk
theorem strTurns {y : Str} {py : Pos} {I : Addr} {x : Str} {t : Tok} (hh : A.handled = none) (n₀ : Nat) {nm : String} (hnm : nm = "str_ascii_iterator" ∨ nm = "str_iterator") :
    TTurns prog w A (.Name y py) I [I] [I] x.cps.size n₀ (fun i v _ tk => SignT x n₀ i v tk) (fun i v h tk => SignT x n₀ i v tk ∧ h.IsStrIter I nm x t (i + 1)) (fun i h => h.IsStrIter I nm x t i) where
  sub := fun _ hb => hb
  frame := fun _ _ _ st hk => let ⟨o, ho, r⟩ := st; ⟨o, hk I (by simp) o ho, r⟩
  item := fun i s Q E hi st hn hQ => by
    have key : ∀ h' : Heap, h'.IsStrIter I nm x t (i + 1) → Heap.SameBut I s.heap h' → Q (some (.str ⟨#[x.cps[i]]⟩ s.toks)) { s with heap := h', toks := s.toks + 1 } := fun h' hit' hs' =>
      hQ _ h' (s.toks + 1) ⟨⟨x.cps[i], s.toks, by simp [hi], rfl, hn, Nat.lt_succ_self _⟩, hit'⟩ (Nat.le_succ_of_le hn) fun b o hb e => hs'.extBut b o (fun h => hb (by simp [h])) e
    rcases hnm with rfl | rfl
    · exact wpAny_pyNext_ascii_item st (c := x.cps[i]) (by simp [hi]) key
    · exact wpAny_pyNext_wide_item st (c := x.cps[i]) (by simp [hi]) key
  go := fun i v s Q E hm hQ => go_name (hQ s.heap hm.1 hm.2 fun _ _ _ e => e)
  done := fun s Q E st hQ => by
    rcases hnm with rfl | rfl
    · exact wpAny_pyNext_ascii_end hh st (by simp) fun h' he' => hQ h' s.toks fun b o hb e => he' b o (fun h => hb (by simp [h])) e
    · exact wpAny_pyNext_wide_end hh st (by simp) fun h' he' => hQ h' s.toks fun b o hb e => he' b o (fun h => hb (by simp [h])) e
theorem iter_str {x : Str} {t : Tok} {Q : Value → Shared → Prop}
    (hQ : ∀ (o : Obj) (nm : String), (nm = "str_ascii_iterator" ∨ nm = "str_iterator") → (s.heap.push o).IsStrIter s.heap.objs.size nm x t 0 → Q (.ref s.heap.objs.size) { s with heap := s.heap.push o }) : wpAny (model prog w) A (pyIter (.str x t)) Q E s := by
  cases ha : x.cps.all (· < 128)
  · exact wpAny_pyIter_wide ha (hQ _ _ (.inr rfl) ⟨_, Heap.get?_push_size _ rfl, rfl, rfl⟩)
  · exact wpAny_pyIter_ascii ha (hQ _ _ (.inl rfl) ⟨_, Heap.get?_push_size _ rfl, rfl, rfl⟩)
/-- a block over a text's signs -/
theorem block_str {elt : PySem.Expr} {y : Str} {py : Pos} {ifs : List PySem.Expr} {scope : Scope} {cl : List (Str × Addr)} {x : Str} {t : Tok} {news : Led} {Fin : Shared → List Value → Led → Prop}
    (hh : A.handled = none) (hkind : scope.kind = .function) (hy : scope.names.lookup y = some .local) (F : Fr h₀ L s.heap m) (N : News h₀ L s.heap news) (hsz : x.cps.size ≤ sizeLine) (J : Nat → List Value → Led → Prop) (h0 : J 0 [] news)
    (step : ∀ i c u oC C D I m₂ ys news₁ h tk own (E' : Value → Shared → Prop), x.cps[i]? = some c → m₂ y = some (.str ⟨#[c]⟩ u) → s.toks ≤ u → u < tk → J i ys news₁ → (∀ p ∈ own, p.1 = I) → NsObj oC m₂ → Fr h₀ L h m → News h₀ L h ((C, oC) :: (D, lst ys) :: (own ++ news₁)) → C ≠ D → OffT C D [I] news₁ →
      ∀ g, TestsAt prog w A ifs (compEnvC scope cl C env) (fun ok s₃ => if ok = true then wpAny (model prog w) A (eval elt (compEnvC scope cl C env)) (fun y s₄ => TEnd h₀ L m { s with heap := g } C oC D (lst ys) [I] own (J (i + 1) (ys ++ [y])) s₄) E' s₃
        else TEnd h₀ L m { s with heap := g } C oC D (lst ys) [I] own (J (i + 1) ys) s₃) E' { s with heap := h, toks := tk })
    (hlen : ∀ i ys nw, J i ys nw → ys.length ≤ i) (fin : ∀ g ys nw, J x.cps.size ys nw → Fin { s with heap := g } ys nw) :
    wpAny (model prog w) A (pyIter (.str x t)) (BlockAt prog w A h₀ L m env elt (.Name y py) ifs scope cl Fin) E s := by
  refine iter_str fun o nm hnm hSt => ?_
  have up : ∀ b o', s.heap.get? b = some o' → (s.heap.push o).get? b = some o' := fun b o' e => Heap.get?_push_of_some _ e
  have hnI : ∀ p ∈ news, p.1 ∉ [s.heap.objs.size] := fun p hp hm => Nat.lt_irrefl _ ((List.mem_singleton.mp hm) ▸ Heap.lt_size (N p hp).1)
  refine ⟨s.heap.objs.size, [s.heap.objs.size], [s.heap.objs.size], x.cps.size, _, _, _, news, fun i v m₃ tk => m₃ y = some v ∧ SignT x s.toks i v tk, J, rfl, strTurns (t := t) hh s.toks hnm, fun s' Q E hst hq => ?_, hsz, hSt, ?_, F.keeps up, N.grown up, ?_, ?_, hnI, h0,
    asg_name (P := SignT x s.toks) (fun _ _ _ ⟨c, u, a, b, d, e⟩ => ⟨c, u, a, b, d, Nat.lt_succ_of_lt e⟩) hkind hy, ?_, hlen, fun ys nw hJ => fin (s.heap.push o) ys nw hJ⟩
  · rcases hnm with rfl | rfl
    · exact wpAny_pyIter_striter_ascii hst hq
    · exact wpAny_pyIter_striter_wide hst hq
  · intro b hb
    rw [List.mem_singleton.mp hb]
    show s.heap.objs.size < (s.heap.push o).objs.size
    rw [Heap.size_push]; exact Nat.lt_succ_self _
  · intro hm
    exact absurd F.ns.lt ((List.mem_singleton.mp hm) ▸ Nat.lt_irrefl _)
  · intro b hb
    rw [List.mem_singleton.mp hb]
    exact next_is_new F
  · rintro i v oC C D m₂ ys news₁ h tk own E' hi ⟨hv, c, u, hc, rfl, hu1, hu2⟩ _ hJ hown _ _ hoC F' N' hCD hoff
    exact step i c u oC C D s.heap.objs.size m₂ ys news₁ h tk own E' hc hv hu1 hu2 hJ (fun p hp => List.mem_singleton.mp (hown p hp)) hoC F' N' hCD hoff (s.heap.push o)
/-- a block over a list -/
theorem block_list {elt : PySem.Expr} {y : Str} {py : Pos} {ifs : List PySem.Expr} {scope : Scope} {cl : List (Str × Addr)} {ax : Addr} {its : Array Value} {news : Led} {Fin : Shared → List Value → Led → Prop}
    (hh : A.handled = none) (hkind : scope.kind = .function) (hy : scope.names.lookup y = some .local) (F : Fr h₀ L s.heap m) (N : News h₀ L s.heap news) (hl : s.heap.IsList ax its) (hLx : L ≠ ax) (hsz : its.size ≤ sizeLine) (J : Nat → List Value → Led → Prop) (h0 : J 0 [] news)
    (step : ∀ i v oC C D I m₂ ys news₁ h tk own (E' : Value → Shared → Prop), its[i]? = some v → m₂ y = some v → J i ys news₁ → (∀ p ∈ own, p.1 = I ∨ p.1 = ax) → NsObj oC m₂ → Fr h₀ L h m → News h₀ L h ((C, oC) :: (D, lst ys) :: (own ++ news₁)) → C ≠ D → OffT C D [I] news₁ →
      ∀ g, TestsAt prog w A ifs (compEnvC scope cl C env) (fun ok s₃ => if ok = true then wpAny (model prog w) A (eval elt (compEnvC scope cl C env)) (fun y s₄ => TEnd h₀ L m { s with heap := g } C oC D (lst ys) [I] own (J (i + 1) (ys ++ [y])) s₄) E' s₃
        else TEnd h₀ L m { s with heap := g } C oC D (lst ys) [I] own (J (i + 1) ys) s₃) E' { s with heap := h, toks := tk })
    (hlen : ∀ i ys nw, J i ys nw → ys.length ≤ i) (fin : ∀ g ys nw, J its.size ys nw → Fin { s with heap := g } ys nw) :
    wpAny (model prog w) A (pyIter (.ref ax)) (BlockAt prog w A h₀ L m env elt (.Name y py) ifs scope cl Fin) E s := by
  refine wpAny_pyIter_list hl ?_
  have hlt : ax < s.heap.objs.size := by obtain ⟨_, e, _⟩ := hl; exact Heap.lt_size e
  have up : ∀ b o', s.heap.get? b = some o' → (s.heap.push { cls := .type "list_iterator", data := .fields #[.ref ax, .int 0 0] }).get? b = some o' := fun b o' e => Heap.get?_push_of_some _ e
  have hnI : ∀ p ∈ news, p.1 ∉ [s.heap.objs.size] := fun p hp hm => Nat.lt_irrefl _ ((List.mem_singleton.mp hm) ▸ Heap.lt_size (N p hp).1)
  have W := Walks.list (prog := prog) (w := w) hh s.heap.objs.size ax (Nat.ne_of_lt hlt) its
  refine ⟨s.heap.objs.size, _, _, its.size, _, _, _, news, fun i v m₃ _ => m₃ y = some v ∧ its[i]? = some v, J, rfl, TTurns.ofK (KTurns.ofWalks W (fun _ _ _ _ _ _ hq => go_name hq)) _, fun s' Q E hst hq => W.self 0 s' Q E hst hq, hsz, ⟨⟨_, Heap.get?_push_size _ rfl, rfl, rfl⟩, hl.push _⟩, ?_, F.keeps up, N.grown up, ?_, ?_, hnI, h0,
    asg_name (P := fun i v _ => its[i]? = some v) (fun _ _ _ h => h) hkind hy, ?_, hlen, fun ys nw hJ => fin (s.heap.push { cls := .type "list_iterator", data := .fields #[.ref ax, .int 0 0] }) ys nw hJ⟩
  · intro b hb
    show b < (s.heap.push _).objs.size
    rw [Heap.size_push]
    rcases List.mem_cons.mp hb with rfl | hb
    · exact Nat.lt_succ_self _
    · rw [List.mem_singleton.mp hb]; exact Nat.lt_succ_of_lt hlt
  · intro hm
    rcases List.mem_cons.mp hm with e | hm
    · exact absurd F.ns.lt (e ▸ Nat.lt_irrefl _)
    · exact hLx (List.mem_singleton.mp hm)
  · intro b hb
    rw [List.mem_singleton.mp hb]
    exact next_is_new F
  · rintro i v oC C D m₂ ys news₁ h tk own E' hi ⟨hv, hc⟩ _ hJ hown _ _ hoC F' N' hCD hoff
    exact step i v oC C D s.heap.objs.size m₂ ys news₁ h tk own E' hc hv hJ (fun p hp => by
      rcases List.mem_cons.mp (hown p hp) with e | hm
      · exact .inl e
      · exact .inr (List.mem_singleton.mp hm)) hoC F' N' hCD hoff (s.heap.push { cls := .type "list_iterator", data := .fields #[.ref ax, .int 0 0] })
end
end
-- W0
section
noncomputable def Spec (w : World) (f : Addr) (vs : List Value) (news : Led) (R : Value → Led → Prop) (d : Nat := 20) (u : Nat := 128) : Prop :=
  ∀ (mean : ExcName → Option Value) (mg mb : Str → Option Value) (dp un : Nat) (gd : Option (List Code)) (cn : Str) (cs : Scope) (a : Addr) (ccd : Value) (cl : List (Str × Addr)) (outer : List Env) (A₀ : Around) (base h₀ : Heap) (L : Addr)
    (m : Str → Option Value) (s : Shared) (Q E : Value → Shared → Prop),
    Below A₀ base outer h₀ → Fr h₀ L s.heap m → (KK w.params).In h₀ → News h₀ L s.heap news → Top qv (looseW qv loose) mean mg mb h₀ → cs.kind = .function →
    dp + d < recursionLimit → un + u < cLine →
    (∀ (r : Value) (nw : Led) (h' : Heap) (tk' : Nat), R r nw → Fr h₀ L h' m → News h₀ L h' (nw ++ news) → Q r { s with heap := h', toks := tk' }) →
      wpAny (model rr.prog w) (ktrTop dp un gd cn cs L a ccd cl outer) (call (.ref f) vs) Q E s
theorem Spec.use {w : World} {f : Addr} {vs : List Value} {news : Led} {R : Value → Led → Prop} {d u : Nat} (S : Spec w f vs news R d u) {mean : ExcName → Option Value} {mg mb : Str → Option Value} {dp un : Nat} {gd : Option (List Code)} {cn : Str} {cs : Scope} {a : Addr} {ccd : Value} {cl : List (Str × Addr)} {outer : List Env} {A₀ : Around} {base h₀ : Heap} {L : Addr}
    {m : Str → Option Value} {s : Shared} {Q E : Value → Shared → Prop}
    (B : Below A₀ base outer h₀) (F : Fr h₀ L s.heap m) (X : (KK w.params).In h₀) (N : News h₀ L s.heap news) (T : Top qv (looseW qv loose) mean mg mb h₀) (hk : cs.kind = .function) (hd : dp + d < recursionLimit) (hu : un + u < cLine)
    (h : ∀ (r : Value) (nw : Led) (h' : Heap) (tk' : Nat), R r nw → Fr h₀ L h' m → News h₀ L h' (nw ++ news) → Q r { s with heap := h', toks := tk' }) :
    wpAny (model rr.prog w) (ktrTop dp un gd cn cs L a ccd cl outer) (call (.ref f) vs) Q E s :=
  S mean mg mb dp un gd cn cs a ccd cl outer A₀ base h₀ L m s Q E B F X N T hk hd hu h
end
-- C3
section
section
variable {prog : Program} {w : World} {A : Around} {E : Value → Shared → Prop} {s : Shared} {h₀ : Heap} {env : Env}
noncomputable def FEnd (h₀ : Heap) (L : Addr) (s₁ : Shared) (wr : List Addr) (own : Led) (J : (Str → Option Value) → Led → Prop) (Q : Flow → Shared → Prop) (f : Flow) (s₂ : Shared) : Prop :=
  match f with
  | .ret v => Q (.ret v) s₂
  | .brk => Q .next s₂
  | _ => ∃ h' tk m' news', s₂ = { s₁ with heap := h', toks := tk } ∧ Fr h₀ L h' m' ∧ News h₀ L h' (own ++ news') ∧ (∀ p ∈ news', p.1 ∉ wr) ∧ J m' news'
theorem fend_gen {M : Model} {A : Around} {c : Sem Flow} {E : Value → Shared → Prop} {s s₁ : Shared} {h₀ : Heap} {L : Addr} {wr : List Addr} {own : Led} {J : (Str → Option Value) → Led → Prop} {Qb : Flow → Shared → Prop}
    (h : ∀ (Q : Flow → Shared → Prop) (J' : (Str → Option Value) → Led → Prop), (∀ m nw, J m nw → J' m nw) → wpAny M A c (FEnd h₀ L s₁ wr own J' Q) E s) : wpAny M A c (FEnd h₀ L s₁ wr own J Qb) E s := h Qb J fun _ _ h => h
inductive LoopT (prog : Program) (w : World) (A : Around) (h₀ : Heap) (env : Env) (target : PySem.Expr) (body orelse : List Stmt) (Q : Flow → Shared → Prop) (E : Value → Shared → Prop) (it : Value) (s₂ : Shared) : Prop
  | mk (I : Addr) (fp wr : List Addr) (n : Nat) (P Md : Nat → Value → Heap → Nat → Prop) (St : Nat → Heap → Prop) (m : Str → Option Value) (news : Led) (X : Type) (U : X → (Str → Option Value) → Str → Option Value) (V : Nat → X → Nat → Prop) (J : Nat → (Str → Option Value) → Led → Prop)
    (q1 : it = .ref I) (q2 : TTurns prog w A target I fp wr n s₂.toks P Md St) (q3 : env.locals ∉ fp) (q4 : (∀ b ∈ wr, h₀.get? b = none)) (q5 : (∀ p ∈ news, p.1 ∉ wr)) (q6 : St 0 s₂.heap) (q7 : Fr h₀ env.locals s₂.heap m) (q8 : News h₀ env.locals s₂.heap news) (q9 : J 0 m news) (q10 : (∀ i v (s' : Shared) m₁ (Q : Unit → Shared → Prop) (E : Value → Shared → Prop), i < n → P i v s'.heap s'.toks → Fr h₀ env.locals s'.heap m₁ → (∀ h' tk x, V i x tk → Fr h₀ env.locals h' (U x m₁) → (∀ b o, b ≠ env.locals → s'.heap.get? b = some o → h'.get? b = some o) → Q () { s' with heap := h', toks := tk }) → wpAny (model prog w) A (assign target env v) Q E s')) (q11 : (∀ i x m₁ news₁ h tk own, i < n → V i x tk → s₂.toks ≤ tk → J i m₁ news₁ → (∀ p ∈ own, p.1 ∈ fp) → (∀ b ∈ fp, h₀.get? b = none → ∀ o, h.get? b = some o → (b, o) ∈ own) → St (i + 1) h → (∀ p ∈ news₁, p.1 ∉ wr) → Fr h₀ env.locals h (U x m₁) → News h₀ env.locals h (own ++ news₁) → wpAny (model prog w) A (execs body env) (FEnd h₀ env.locals { s₂ with heap := h, toks := tk } wr own (J (i + 1)) Q) E { s₂ with heap := h, toks := tk })) (q12 : ∀ h' tk m' news', s₂.toks ≤ tk → Fr h₀ env.locals h' m' → News h₀ env.locals h' news' → J n m' news' → wpAny (model prog w) A (execs orelse env) Q E { s₂ with heap := h', toks := tk }) : LoopT prog w A h₀ env target body orelse Q E it s₂
/-- the target is one name of the frame -/
theorem asgF_name {x : Str} {px : Pos} {n : Nat} {P : Nat → Value → Nat → Prop} (hmono : ∀ i v tk, P i v tk → P i v (tk + 1)) (hy : env.kindOf x = some .local) (hp : (env.scope.kind == .class || (env.scope.kind == .module && env.locals != env.globals)) = false) :
    ∀ i v (s' : Shared) m₁ (Q : Unit → Shared → Prop) (E : Value → Shared → Prop), i < n → P i v s'.toks → Fr h₀ env.locals s'.heap m₁ →
      (∀ h' tk (u : Value), P i u tk → Fr h₀ env.locals h' (fun z => if z = x then some u else m₁ z) → (∀ b o, b ≠ env.locals → s'.heap.get? b = some o → h'.get? b = some o) → Q () { s' with heap := h', toks := tk }) →
      wpAny (model prog w) A (assign (.Name x px) env v) Q E s' := by
  intro i v s' m₁ Q E _ hP F h
  refine wpAny_assign_Name (wpAny_storeName_local hy F.ns (fun h₂ hn₂ hs₂ => ?_) hp)
  have hL₀ : h₀.get? env.locals = none := Heap.get?_none_of_le F.above
  exact h h₂ (s'.toks + 1) v (hmono _ _ _ hP) ⟨hn₂, fun b o e => hs₂.extBut b o (fun q => by rw [q, hL₀] at e; cases e) (F.keep b o e), F.above⟩ fun b o hb e => hs₂.extBut b o hb e
/-- a loop over a text's signs -/
theorem loop_str {y : Str} {py : Pos} {body orelse : List Stmt} {x : Str} {t : Tok} {m : Str → Option Value} {news : Led} {Q : Flow → Shared → Prop}
    (hh : A.handled = none) (hy : env.kindOf y = some .local) (hp : (env.scope.kind == .class || (env.scope.kind == .module && env.locals != env.globals)) = false) (F : Fr h₀ env.locals s.heap m) (N : News h₀ env.locals s.heap news)
    (J : Nat → (Str → Option Value) → Led → Prop) (h0 : J 0 m news)
    (step : ∀ i c u m₁ news₁ h tk I oI, x.cps[i]? = some c → s.toks ≤ u → u < tk → J i m₁ news₁ → (∀ p ∈ news₁, p.1 ≠ I) → Fr h₀ env.locals h (fun z => if z = y then some (.str ⟨#[c]⟩ u) else m₁ z) → News h₀ env.locals h (news₁ ++ [(I, oI)]) →
      ∀ g, wpAny (model prog w) A (execs body env) (FEnd h₀ env.locals { s with heap := g } [I] [(I, oI)] (J (i + 1)) Q) E { s with heap := h, toks := tk })
    (done : ∀ h' tk m' news', s.toks ≤ tk → Fr h₀ env.locals h' m' → News h₀ env.locals h' news' → J x.cps.size m' news' → wpAny (model prog w) A (execs orelse env) Q E { s with heap := h', toks := tk }) :
    wpAny (model prog w) A (pyIter (.str x t)) (fun it s₂ => LoopT prog w A h₀ env (.Name y py) body orelse Q E it s₂) E s := by
  refine iter_str fun o nm hnm hSt => ?_
  have up : ∀ b o', s.heap.get? b = some o' → (s.heap.push o).get? b = some o' := fun b o' e => Heap.get?_push_of_some _ e
  have hnI : ∀ p ∈ news, p.1 ∉ [s.heap.objs.size] := fun p hp hm => Nat.lt_irrefl _ ((List.mem_singleton.mp hm) ▸ Heap.lt_size (N p hp).1)
  refine ⟨s.heap.objs.size, [s.heap.objs.size], [s.heap.objs.size], x.cps.size, _, _, _, m, news, Value, fun u m₁ z => if z = y then some u else m₁ z, fun i u tk => SignT x s.toks i u tk, J, rfl, strTurns (t := t) hh s.toks hnm, ?_, ?_, hnI, hSt, F.keeps up, N.grown up, h0,
    asgF_name (P := SignT x s.toks) (fun _ _ _ ⟨c, u, a, b, d, e⟩ => ⟨c, u, a, b, d, Nat.lt_succ_of_lt e⟩) hy hp, ?_, fun h' tk m' news' a b c d => done h' tk m' news' a b c d⟩
  · intro hm
    exact absurd F.ns.lt ((List.mem_singleton.mp hm) ▸ Nat.lt_irrefl _)
  · intro b hb
    rw [List.mem_singleton.mp hb]
    exact next_is_new F
  · rintro i v m₁ news₁ h tk own hi ⟨c, u, hc, rfl, hu1, hu2⟩ _ hJ hown hmem hst hoff F' N'
    obtain ⟨oI, hoI, _⟩ := hst
    have hI : (s.heap.objs.size, oI) ∈ own := hmem _ (List.mem_singleton.mpr rfl) (next_is_new F) oI hoI
    have hall : ∀ p ∈ own, p = (s.heap.objs.size, oI) := fun p hp => by
      have e1 := List.mem_singleton.mp (hown p hp)
      have e2 := (N' p (List.mem_append_left _ hp)).1
      rw [e1, hoI] at e2
      obtain ⟨a, b⟩ := p
      simp only at e1 e2
      rw [e1, Option.some.inj e2]
    refine wpAny_mono (step i c u m₁ news₁ h tk s.heap.objs.size oI hc hu1 hu2 hJ (fun p hp e => hoff p hp (List.mem_singleton.mpr e)) F' (fun p hp => ?_) (s.heap.push o)) (fun f s₂ h₂ => ?_) fun _ _ e => e
    · rcases List.mem_append.mp hp with hp | hp
      · exact N' p (List.mem_append_right _ hp)
      · exact N' p (List.mem_append_left _ (List.mem_singleton.mp hp ▸ hI))
    · have fin : (∃ h' tk' m' news', s₂ = { s with heap := h', toks := tk' } ∧ Fr h₀ env.locals h' m' ∧ News h₀ env.locals h' ([(s.heap.objs.size, oI)] ++ news') ∧ (∀ p ∈ news', p.1 ∉ [s.heap.objs.size]) ∧ J (i + 1) m' news') →
          ∃ h' tk' m' news', s₂ = { s with heap := h', toks := tk' } ∧ Fr h₀ env.locals h' m' ∧ News h₀ env.locals h' (own ++ news') ∧ (∀ p ∈ news', p.1 ∉ [s.heap.objs.size]) ∧ J (i + 1) m' news' := by
        rintro ⟨h', tk', m', news', e, F5, N5, off5, J5⟩
        refine ⟨h', tk', m', news', e, F5, fun p hp => ?_, off5, J5⟩
        rcases List.mem_append.mp hp with hp | hp
        · rw [hall p hp]; exact N5 _ (List.mem_append_left _ List.mem_cons_self)
        · exact N5 p (List.mem_append_right _ hp)
      cases f with
      | ret v => exact h₂
      | brk => exact h₂
      | next => exact fin h₂
      | cont => exact fin h₂
end
end
-- C4
section
section
variable {prog : Program} {w : World} {A : Around} {E : Value → Shared → Prop} {s : Shared} {h₀ : Heap} {env : Env}
/-- the end of a turn -/
theorem FEnd.of {L : Addr} {s₁ : Shared} {wr : List Addr} {own : Led} {J : (Str → Option Value) → Led → Prop} {Q : Flow → Shared → Prop} {h' : Heap} {tk : Nat} {m' : Str → Option Value} {f : Flow} {all : Led} (F : Fr h₀ L h' m') (N : News h₀ L h' all) (news' : Led)
    (sub : ∀ p ∈ own ++ news', p ∈ all) (off : ∀ p ∈ news', p.1 ∉ wr) (hJ : J m' news') (hf : f = .next ∨ f = .cont := by exact .inl rfl) : FEnd h₀ L s₁ wr own J Q f { s₁ with heap := h', toks := tk } := by
  rcases hf with rfl | rfl <;> exact ⟨h', tk, m', news', rfl, F, fun p hp => N p (sub p hp), off, hJ⟩
theorem loop_of {y : Str} {py : Pos} {body orelse : List Stmt} {I : Addr} {fp wr : List Addr} {n : Nat} {P : Nat → Value → Nat → Prop} {Md : Nat → Value → Heap → Nat → Prop} {St : Nat → Heap → Prop} {m : Str → Option Value} {news : Led} {Q : Flow → Shared → Prop}
    (W : TTurns prog w A (.Name y py) I fp wr n s.toks (fun i v _ tk => P i v tk) Md St) (hmono : ∀ i v tk, P i v tk → P i v (tk + 1)) (hy : env.kindOf y = some .local) (hp : (env.scope.kind == .class || (env.scope.kind == .module && env.locals != env.globals)) = false)
    (hLf : env.locals ∉ fp) (hwr : ∀ b ∈ wr, h₀.get? b = none) (hnw : ∀ p ∈ news, p.1 ∉ wr) (hst : St 0 s.heap) (F : Fr h₀ env.locals s.heap m) (N : News h₀ env.locals s.heap news)
    (J : Nat → (Str → Option Value) → Led → Prop) (h0 : J 0 m news)
    (step : ∀ i v m₁ news₁ h tk own, i < n → P i v tk → s.toks ≤ tk → J i m₁ news₁ → (∀ p ∈ own, p.1 ∈ fp) → (∀ b ∈ fp, h₀.get? b = none → ∀ o, h.get? b = some o → (b, o) ∈ own) → St (i + 1) h → (∀ p ∈ news₁, p.1 ∉ wr) → Fr h₀ env.locals h (fun z => if z = y then some v else m₁ z) → News h₀ env.locals h (news₁ ++ own) →
      ∀ g t, wpAny (model prog w) A (execs body env) (FEnd h₀ env.locals { s with heap := g, toks := t } wr own (J (i + 1)) Q) E { s with heap := h, toks := tk })
    (done : ∀ h' tk m' news', s.toks ≤ tk → Fr h₀ env.locals h' m' → News h₀ env.locals h' news' → J n m' news' → wpAny (model prog w) A (execs orelse env) Q E { s with heap := h', toks := tk }) :
    LoopT prog w A h₀ env (.Name y py) body orelse Q E (.ref I) s := by
  refine ⟨I, fp, wr, n, _, _, _, m, news, Value, fun u m₁ z => if z = y then some u else m₁ z, fun i u tk => P i u tk, J, rfl, W, hLf, hwr, hnw, hst, F, N, h0, asgF_name hmono hy hp, ?_, fun h' tk m' news' a b c d => done h' tk m' news' a b c d⟩
  rintro i v m₁ news₁ h tk own hi hP htk hJ hown hmem hst' hoff F' N'
  exact step i v m₁ news₁ h tk own hi hP htk hJ hown hmem hst' hoff F' (fun p hp => N' p ((List.mem_append.mp hp).elim (List.mem_append_right _) (List.mem_append_left _))) h tk
noncomputable def bindNames : List Str → List Value → (Str → Option Value) → Str → Option Value
  | y :: ys, v :: vs, m => bindNames ys vs fun z => if z = y then some v else m z
  | _, _, m => m
theorem asg_order {L : Addr} (hL : env.locals = L) (hp : (env.scope.kind == .class || (env.scope.kind == .module && env.locals != env.globals)) = false) : ∀ (ys : List (Str × Pos)) (vals : List Value) (s : Shared) (m : Str → Option Value) (Q : Unit → Shared → Prop), (∀ y ∈ ys, env.kindOf y.1 = some .local) → Fr h₀ L s.heap m → vals.length = ys.length →
    (∀ h' tk, s.toks ≤ tk → Fr h₀ L h' (bindNames (ys.map (·.1)) vals m) → (∀ b o, b ≠ L → s.heap.get? b = some o → h'.get? b = some o) → Q () { s with heap := h', toks := tk }) →
    wpAny (model prog w) A (assignInOrder ((assignEach (ys.map fun y => PySem.Expr.Name y.1 y.2) env).map (·.2)) vals) Q E s
  | [], vals, s, m, Q, _, F, _, h => assignInOrder_nil (h s.heap s.toks (Nat.le_refl _) F fun _ _ _ e => e)
  | y :: ys, [], s, m, Q, _, F, hl, h => by cases hl
  | y :: ys, v :: vals, s, m, Q, hy, F, hl, h => by
    subst hL
    refine assignInOrder_cons ?_
    refine wpAny_assign_Name (wpAny_storeName_local (hy y List.mem_cons_self) F.ns (fun h₂ hn₂ hs₂ => ?_) hp)
    have hL₀ : h₀.get? env.locals = none := Heap.get?_none_of_le F.above
    have F₂ : Fr h₀ env.locals h₂ (fun z => if z = y.1 then some v else m z) := ⟨hn₂, fun b o e => hs₂.extBut b o (fun q => by rw [q, hL₀] at e; cases e) (F.keep b o e), F.above⟩
    exact asg_order rfl hp ys vals _ _ Q (fun z hz => hy z (List.mem_cons_of_mem _ hz)) F₂ (Nat.succ.inj hl) fun h' tk htk F' hk => h h' tk (Nat.le_trans (Nat.le_succ _) htk) F' fun b o hb e => hk b o hb (hs₂.extBut b o hb e)
theorem asgEach_len (ys : List (Str × Pos)) : (assignEach (ys.map fun y => PySem.Expr.Name y.1 y.2) env).length = ys.length := by
  induction ys with
  | nil => rfl
  | cons y r ih => exact congrArg (· + 1) ih
theorem asgEach_star (ys : List (Str × Pos)) : (assignEach (ys.map fun y => PySem.Expr.Name y.1 y.2) env).findIdx? (·.1) = none := by
  induction ys with
  | nil => rfl
  | cons y r ih =>
    show List.findIdx? (·.1) ((false, assign (.Name y.1 y.2) env) :: assignEach (r.map fun y => PySem.Expr.Name y.1 y.2) env) = none
    rw [List.findIdx?_cons, ih]; rfl
theorem loop_tup {ys : List (Str × Pos)} {k : Nat} {pos : Pos} {body orelse : List Stmt} {I : Addr} {fp wr : List Addr} {n : Nat} {Pt : Nat → Array Value → Nat → Prop} {Md : Nat → Value → Heap → Nat → Prop} {St : Nat → Heap → Prop} {m : Str → Option Value} {news : Led} {Q : Flow → Shared → Prop}
    (hh : A.handled = none) (W : TTurns prog w A (.Tuple (ys.map fun y => PySem.Expr.Name y.1 y.2) k pos) I fp wr n s.toks (fun i v h tk => ∃ T vals, v = .ref T ∧ Pt i vals tk ∧ h.IsTuple T vals) Md St)
    (hmono : ∀ i v tk tk', tk ≤ tk' → Pt i v tk → Pt i v tk') (hsize : ∀ i v tk, Pt i v tk → v.size = ys.length) (hy : ∀ y ∈ ys, env.kindOf y.1 = some .local) (hp : (env.scope.kind == .class || (env.scope.kind == .module && env.locals != env.globals)) = false)
    (hLf : env.locals ∉ fp) (hwr : ∀ b ∈ wr, h₀.get? b = none) (hnw : ∀ p ∈ news, p.1 ∉ wr) (hst : St 0 s.heap) (F : Fr h₀ env.locals s.heap m) (N : News h₀ env.locals s.heap news)
    (J : Nat → (Str → Option Value) → Led → Prop) (h0 : J 0 m news)
    (step : ∀ i (v : Array Value) m₁ news₁ h tk own, i < n → Pt i v tk → s.toks ≤ tk → J i m₁ news₁ → (∀ p ∈ own, p.1 ∈ fp) → (∀ b ∈ fp, h₀.get? b = none → ∀ o, h.get? b = some o → (b, o) ∈ own) → St (i + 1) h → (∀ p ∈ news₁, p.1 ∉ wr) → Fr h₀ env.locals h (bindNames (ys.map (·.1)) v.toList m₁) → News h₀ env.locals h (news₁ ++ own) →
      ∀ g t, wpAny (model prog w) A (execs body env) (FEnd h₀ env.locals { s with heap := g, toks := t } wr own (J (i + 1)) Q) E { s with heap := h, toks := tk })
    (done : ∀ h' tk m' news', s.toks ≤ tk → Fr h₀ env.locals h' m' → News h₀ env.locals h' news' → J n m' news' → wpAny (model prog w) A (execs orelse env) Q E { s with heap := h', toks := tk }) :
    LoopT prog w A h₀ env (.Tuple (ys.map fun y => PySem.Expr.Name y.1 y.2) k pos) body orelse Q E (.ref I) s := by
  refine ⟨I, fp, wr, n, _, _, _, m, news, Array Value, fun u m₁ => bindNames (ys.map (·.1)) u.toList m₁, fun i u tk => Pt i u tk, J, rfl, W, hLf, hwr, hnw, hst, F, N, h0, ?_, ?_, fun h' tk m' news' a b c d => done h' tk m' news' a b c d⟩
  · rintro i v s' m₁ Q E hi ⟨T, vals, rfl, hPt, hT⟩ F h
    have hL₀ : h₀.get? env.locals = none := Heap.get?_none_of_le F.above
    refine assign_Tuple_tuple hh hT (by rw [asgEach_len]; exact (hsize _ _ _ hPt).symm) (asgEach_star ys) fun h₁ he => ?_
    refine asg_order rfl hp ys vals.toList { s' with heap := h₁ } m₁ Q hy (F.extBut he (Nat.le_refl _)) (by rw [Array.length_toList]; exact hsize _ _ _ hPt) fun h₂ tk htk F₂ hk => ?_
    exact h h₂ tk vals (hmono _ _ _ _ htk hPt) F₂ fun b o hb e => hk b o hb (he b o (fun q => by rw [q, Heap.get?_none_of_le (Nat.le_refl _)] at e; cases e) e)
  · rintro i v m₁ news₁ h tk own hi hP htk hJ hown hmem hst' hoff F' N'
    exact step i v m₁ news₁ h tk own hi hP htk hJ hown hmem hst' hoff F' (fun p hp => N' p ((List.mem_append.mp hp).elim (List.mem_append_right _) (List.mem_append_left _))) h tk
/-- the iterator's object stands alone among what the loop owns -/
theorem own_one {I : Addr} {o : Obj} {own news₁ : Led} {L : Addr} {h : Heap} (hm : (I, o) ∈ own) (hown : ∀ p ∈ own, p.1 ∈ [I]) (N : News h₀ L h (news₁ ++ own)) : ∃ oI, (∀ p ∈ own, p = (I, oI)) ∧ News h₀ L h (news₁ ++ [(I, oI)]) := by
  refine ⟨o, fun p hp => ?_, fun p hp => N p ?_⟩
  · have e1 := List.mem_singleton.mp (hown p hp)
    have e2 := (N p (List.mem_append_right _ hp)).1
    have e3 := (N _ (List.mem_append_right _ hm)).1
    obtain ⟨a, b⟩ := p
    simp only at e1 e2 e3
    rw [e1, e3] at e2
    rw [e1, Option.some.inj e2]
  · rcases List.mem_append.mp hp with hp | hp
    · exact List.mem_append_left _ hp
    · rw [List.mem_singleton.mp hp]; exact List.mem_append_right _ hm
theorem fend_own {I : Addr} {oI : Obj} {own : Led} {L : Addr} {s₁ s₂ : Shared} {J : (Str → Option Value) → Led → Prop} {Q : Flow → Shared → Prop} {f : Flow} (hall : ∀ p ∈ own, p = (I, oI)) (h₂ : FEnd h₀ L s₁ [I] [(I, oI)] J Q f s₂) : FEnd h₀ L s₁ [I] own J Q f s₂ := by
  have fin : (∃ h' tk' m' news', s₂ = { s₁ with heap := h', toks := tk' } ∧ Fr h₀ L h' m' ∧ News h₀ L h' ([(I, oI)] ++ news') ∧ (∀ p ∈ news', p.1 ∉ [I]) ∧ J m' news') →
      ∃ h' tk' m' news', s₂ = { s₁ with heap := h', toks := tk' } ∧ Fr h₀ L h' m' ∧ News h₀ L h' (own ++ news') ∧ (∀ p ∈ news', p.1 ∉ [I]) ∧ J m' news' := by
    rintro ⟨h', tk', m', news', e, F5, N5, off5, J5⟩
    refine ⟨h', tk', m', news', e, F5, fun p hp => ?_, off5, J5⟩
    rcases List.mem_append.mp hp with hp | hp
    · rw [hall p hp]; exact N5 _ (List.mem_append_left _ List.mem_cons_self)
    · exact N5 p (List.mem_append_right _ hp)
  cases f with
  | ret v => exact h₂
  | brk => exact h₂
  | next => exact fin h₂
  | cont => exact fin h₂
/-- a loop over a range -/
theorem loop_range {y : Str} {py : Pos} {body orelse : List Stmt} {r : Addr} {a₀ b₀ : Int} {t₀ u₀ v₀ : Tok} {n : Nat} {m : Str → Option Value} {news : Led} {Q : Flow → Shared → Prop}
    (hh : A.handled = none) (hr : IsRange s.heap r a₀ b₀ 1 t₀ u₀ v₀) (hsmall : Builtin.Range.small a₀ b₀ 1 = true) (hn : Builtin.Range.rangeSize a₀ b₀ 1 = (n : Int)) (hy : env.kindOf y = some .local) (hp : (env.scope.kind == .class || (env.scope.kind == .module && env.locals != env.globals)) = false)
    (F : Fr h₀ env.locals s.heap m) (N : News h₀ env.locals s.heap news) (J : Nat → (Str → Option Value) → Led → Prop) (h0 : J 0 m news)
    (step : ∀ (I : Addr) (oI : Obj) i u m₁ news₁ h tk, i < n → s.toks ≤ tk → J i m₁ news₁ → (∀ p ∈ news₁, p.1 ∉ [I]) → Fr h₀ env.locals h (fun z => if z = y then some (.int (a₀ + (i : Int)) u) else m₁ z) → News h₀ env.locals h (news₁ ++ [(I, oI)]) →
      ∀ g t, wpAny (model prog w) A (execs body env) (FEnd h₀ env.locals { s with heap := g, toks := t } [I] [(I, oI)] (J (i + 1)) Q) E { s with heap := h, toks := tk })
    (done : ∀ h' tk m' news', s.toks ≤ tk → Fr h₀ env.locals h' m' → News h₀ env.locals h' news' → J n m' news' → wpAny (model prog w) A (execs orelse env) Q E { s with heap := h', toks := tk }) :
    wpAny (model prog w) A (pyIter (.ref r)) (fun it s₂ => LoopT prog w A h₀ env (.Name y py) body orelse Q E it s₂) E s := by
  refine wpAny_pyIter_range hr hsmall ?_
  have hnew := next_is_new F
  have up : ∀ b o' o, s.heap.get? b = some o' → (s.heap.push o).get? b = some o' := fun b o' o e => Heap.get?_push_of_some _ e
  refine loop_of (P := fun i v _ => ∃ t, v = .int (a₀ + (i : Int) * 1) t) (TTurns.ofK (KTurns.ofWalks (Walks.range hh s.heap.objs.size a₀ 1 n) fun i v s Q E hst hQ => ?go) _) (fun _ _ _ h => h) hy hp ?_ ?_ ?_ ?_ (F.push _) (fun p hp => ⟨up _ _ _ (N p hp).1, (N p hp).2⟩) J h0 ?_ done
  case go => exact go_name hQ
  · intro hm
    exact absurd F.ns.lt ((List.mem_singleton.mp hm) ▸ Nat.lt_irrefl _)
  · intro b hb
    rw [List.mem_singleton.mp hb]
    exact hnew
  · intro p hp hI
    exact absurd (Heap.lt_size (N p hp).1) ((List.mem_singleton.mp hI) ▸ Nat.lt_irrefl _)
  · show IsRangeIter _ _ _ _ _
    rw [hn]
    simpa using Heap.get?_push_size _ rfl
  · rintro i v m₁ news₁ h tk own hi ⟨t, rfl⟩ htk hJ hown hmem hst' hoff F' N' g t'
    rw [Int.mul_one] at F'
    obtain ⟨oI, hI, N''⟩ := own_one (hmem _ (List.mem_singleton.mpr rfl) hnew _ hst') hown N'
    exact wpAny_mono (step s.heap.objs.size oI i t m₁ news₁ h tk hi htk hJ hoff F' N'' g t') (fun f s₂ h₂ => fend_own hI h₂) fun _ _ e => e
end
end
-- C5
section
/-- read off the ledger alone -/
noncomputable def RV (nw : Led) (v : Value) (d : PyData) : Prop := ∀ h : Heap, (∀ p ∈ nw, h.get? p.1 = some p.2) → ∃ as, Reads h v d as
noncomputable def RVA (nw : Led) (vs : List Value) (ds : List PyData) : Prop := ∀ h : Heap, (∀ p ∈ nw, h.get? p.1 = some p.2) → ∃ as, ReadsAll h vs ds as
theorem RV.mono {l l' : Led} {v : Value} {d : PyData} (r : RV l v d) (hs : ∀ p ∈ l, p ∈ l') : RV l' v d := fun h hh => r h fun p hp => hh p (hs p hp)
theorem RVA.mono {l l' : Led} {v : List Value} {d : List PyData} (r : RVA l v d) (hs : ∀ p ∈ l, p ∈ l') : RVA l' v d := fun h hh => r h fun p hp => hh p (hs p hp)
theorem RVA.nil {l : Led} : RVA l [] [] := fun _ _ => ⟨[], .nil⟩
theorem RVA.cons {l : Led} {v : Value} {d : PyData} {vs : List Value} {ds : List PyData} (r : RV l v d) (rs : RVA l vs ds) : RVA l (v :: vs) (d :: ds) := fun h hh => by
  obtain ⟨a, ra⟩ := r h hh
  obtain ⟨b, rb⟩ := rs h hh
  exact ⟨a ++ b, .cons ra rb⟩
theorem readsAll_snoc {h : Heap} {v : Value} {d : PyData} {bs : List Addr} (rb : Reads h v d bs) : ∀ {vs : List Value} {ds : List PyData} {as : List Addr}, ReadsAll h vs ds as → ∃ cs, ReadsAll h (vs ++ [v]) (ds ++ [d]) cs
  | _, _, _, .nil => ⟨_, .cons rb .nil⟩
  | _, _, _, .cons h1 h2 => by
    obtain ⟨c, hc⟩ := readsAll_snoc rb h2
    exact ⟨_, .cons h1 hc⟩
theorem RVA.snoc {l : Led} {v : Value} {d : PyData} {vs : List Value} {ds : List PyData} (rs : RVA l vs ds) (r : RV l v d) : RVA l (vs ++ [v]) (ds ++ [d]) := fun h hh => by
  obtain ⟨a, ra⟩ := rs h hh
  obtain ⟨b, rb⟩ := r h hh
  exact readsAll_snoc rb ra
theorem RV.int {l : Led} (i : Int) (t : Tok) : RV l (.int i t) (.int i) := fun _ _ => ⟨_, .int i t⟩
theorem RV.bool {l : Led} (b : Bool) : RV l (.bool b) (.bool b) := fun _ _ => ⟨_, .bool b⟩
theorem RV.str {l : Led} (x : Str) (t : Tok) : RV l (.str x t) (.str x) := fun _ _ => ⟨_, .str x t⟩
theorem RV.tup {l : Led} {T : Addr} {vs : Array Value} {n : Nat} {ds : List PyData} (hT : (T, ({ cls := .type "tuple", data := .seq vs n } : Obj)) ∈ l) (r : RVA l vs.toList ds) : RV l (.ref T) (.tuple ds) := fun h hh => by
  obtain ⟨a, ra⟩ := r h hh
  exact ⟨a, reads_tuple_at (hh _ hT) rfl rfl ra⟩
theorem RV.lst {l : Led} {T : Addr} {vs : Array Value} {n : Nat} {ds : List PyData} (hT : (T, ({ cls := .type "list", data := .seq vs n } : Obj)) ∈ l) (r : RVA l vs.toList ds) : RV l (.ref T) (.list ds) := fun h hh => by
  obtain ⟨a, ra⟩ := r h hh
  exact ⟨_, reads_list_at (hh _ hT) rfl rfl ra⟩
/-- a list that is being written, ahead of the ledger -/
inductive AccJ (a : Addr) (ds : List PyData) (base nw : Led) : Prop
  | mk (vs : List Value) (k : Nat) (own : Led)
    (q1 : nw = (a, W.listOf vs.toArray k) :: (own ++ base)) (q2 : RVA own vs ds) (q3 : vs.length = ds.length) (q4 : (∀ p ∈ own ++ base, p.1 ≠ a)) (q5 : (∀ q ∈ base, @LT.lt Nat _ q.1 a)) (q6 : ∀ p ∈ own, ∀ q ∈ base, @LT.lt Nat _ q.1 p.1) : AccJ a ds base nw
section
variable {prog : Program} {w : World} {A : Around} {E : Value → Shared → Prop} {s : Shared} {g : Heap} {L : Addr} {m : Str → Option Value}
theorem acc_append {T a : Addr} {oT : Obj} {vs : List Value} {k : Nat} {r : Led} {v : Value} {Q : Value → Shared → Prop} (F : Fr g L s.heap m) (N : News g L s.heap ((T, oT) :: (a, W.listOf vs.toArray k) :: r)) (hT : @LT.lt Nat _ a T) (hr : ∀ p ∈ r, p.1 ≠ a) (hsz : vs.length ≤ 1000)
    (h : ∀ h', Fr g L h' m → News g L h' ((T, oT) :: (a, W.listOf (vs ++ [v]).toArray (k + 1)) :: r) → Q .none { s with heap := h' }) : wpAny (model prog w) A (call (.builtin "list.append") [.ref a, v]) Q E s := by
  have U : Upd a (W.listOf vs.toArray k) (W.listOf (vs.toArray.push v) (k + 1)) ((T, oT) :: (a, W.listOf vs.toArray k) :: r) ((T, oT) :: (a, W.listOf (vs.toArray.push v) (k + 1)) :: r) := .tail (fun e => Nat.lt_irrefl _ (show @LT.lt Nat _ a a from e ▸ hT)) (.head hr)
  have e : vs.toArray.push v = (vs ++ [v]).toArray := by simp
  rw [e] at U
  exact append_K F N (by rw [← e] at U; exact U) (fun h' F' N' => h h' F' (by rw [← e]; exact N')) (by rw [List.size_toArray, sizeLine_eq]; lia)
theorem acc_append0 {a : Addr} {vs : List Value} {k : Nat} {r : Led} {v : Value} {Q : Value → Shared → Prop} (F : Fr g L s.heap m) (N : News g L s.heap ((a, W.listOf vs.toArray k) :: r)) (hr : ∀ p ∈ r, p.1 ≠ a) (hsz : vs.length ≤ 1000)
    (h : ∀ h', Fr g L h' m → News g L h' ((a, W.listOf (vs ++ [v]).toArray (k + 1)) :: r) → Q .none { s with heap := h' }) : wpAny (model prog w) A (call (.builtin "list.append") [.ref a, v]) Q E s := by
  have U : Upd a (W.listOf vs.toArray k) (W.listOf (vs.toArray.push v) (k + 1)) ((a, W.listOf vs.toArray k) :: r) ((a, W.listOf (vs.toArray.push v) (k + 1)) :: r) := .head hr
  have e : vs.toArray.push v = (vs ++ [v]).toArray := by simp
  exact append_K F N U (fun h' F' N' => h h' F' (by rw [← e]; exact N')) (by rw [List.size_toArray, sizeLine_eq]; lia)
end
theorem ints_snoc {n : Int} {t : Tok} : ∀ {vs : List Value} {ns : List Int}, IntsAre vs ns → IntsAre (vs ++ [.int n t]) (ns ++ [n])
  | _, _, .nil => .cons n t .nil
  | _, _, .cons a b r => .cons a b (ints_snoc r)
end
-- C6
section
section
variable {prog : Program} {w : World} {A : Around} {E : Value → Shared → Prop} {s : Shared}
noncomputable def Stays (e : Addr) (h h' : Heap) : Prop := ∀ b o, b ≠ e → h.get? b = some o → h'.get? b = some o
theorem Stays.of {e : Addr} {h h' : Heap} (k : Heap.SameBut e h h') : Stays e h h' := fun b o hb x => k.extBut b o hb x
theorem Stays.trans {e : Addr} {h h' h'' : Heap} (a : Stays e h h') (b : Stays e h' h'') : Stays e h h'' := fun c o hc x => b c o hc (a c o hc x)
/-- what `enumerate` does once its own iterator has given an item: token by token -/
theorem enum_out {e it : Addr} {i : Int} {old x : Value} {Q : Value → Shared → Prop} (he : IsEnum s.heap e it i old)
    (hQ : ∀ h', IsEnumOut h' e it (i + 1) x s.heap.objs.size → h'.get? s.heap.objs.size = some { cls := .type "tuple", data := .seq #[.int i s.toks, x] } → Stays e s.heap h' → Q (.ref s.heap.objs.size) { s with heap := h', toks := s.toks + 1 }) :
    wpAny (model prog w) A (do
      let .int i _ ← field (.ref e) 3 | unsupported "internal:enumerate.__next__"
      let given ← field (.ref e) 4
      let index ← if given == .none then mkInt i else pure given
      setField (.ref e) 3 (rawInt (i + 1)); setField (.ref e) 4 .none
      let result ← newTuple [index, x]
      if ← Builtin.SmallTypes.ownedTupleIsFree (.ref e) then
        rule "enumerate.__next__.owned-tuple-again"
        let old ← field (.ref e) 5
        setField (.ref e) 5 x
        Builtin.SmallTypes.ownedTupleHandOut (.ref e) result
        letGo [old] [result]
      ret result) (fun fin s' => ∃ v, fin = .done (.ret v) ∧ Q v s') E s := by
  obtain ⟨hp, g, d, tk, os⟩ := s
  have hlt : e < hp.objs.size := Heap.lt_size he
  refine wpAny_bind (wpAny_field he rfl (x := rawInt i) rfl ?_)
  refine wpAny_bind (wpAny_field he rfl (x := .none) rfl ?_)
  show wpAny _ _ (mkInt i >>= _) _ _ _
  refine wpAny_bind (wpAny_mkInt ?_)
  refine wpAny_bind (wpAny_setField_rec he (by simp) fun h₁ he₁ s₁ => ?_)
  replace he₁ : IsEnum h₁ e it (i + 1) old := he₁
  refine wpAny_bind (wpAny_setField_rec he₁ (by simp) fun h₂ he₂ s₂ => ?_)
  replace he₂ : IsEnum h₂ e it (i + 1) old := he₂
  refine wpAny_bind (wpAny_newTuple ?_)
  have z : h₂.objs.size = hp.objs.size := by rw [s₂.1, s₁.1]
  have he₃ : IsEnum (h₂.push { cls := .type "tuple", data := .seq #[.int i tk, x] }) e it (i + 1) old := Heap.get?_push_of_some _ he₂
  have t₃ : (h₂.push { cls := .type "tuple", data := .seq #[.int i tk, x] }).get? hp.objs.size = some { cls := .type "tuple", data := .seq #[.int i tk, x] } := by rw [← z]; exact Heap.get?_push_size _ rfl
  have k₃ : Stays e hp (h₂.push { cls := .type "tuple", data := .seq #[.int i tk, x] }) := fun b o hb y => Heap.get?_push_of_some _ (((Stays.of s₁).trans (Stays.of s₂)) b o hb y)
  have hTe : hp.objs.size ≠ e := Nat.ne_of_gt hlt
  show wpAny _ _ (Builtin.SmallTypes.ownedTupleIsFree (.ref e) >>= _) _ _ ⟨h₂.push { cls := .type "tuple", data := .seq #[.int i tk, x] }, g, d, tk + 1, os⟩
  rw [z]
  generalize h₂.push { cls := .type "tuple", data := .seq #[.int i tk, x] } = h₃ at he₃ t₃ k₃
  refine wpAny_bind ?_
  unfold Builtin.SmallTypes.ownedTupleIsFree
  refine wpAny_bind (wpAny_field he₃ rfl (x := .none) rfl (wpAny_pure ?_))
  simp only [if_true]
  refine wpAny_bind (wpAny_rule ?_)
  refine wpAny_bind (wpAny_field he₃ rfl (x := old) rfl ?_)
  refine wpAny_bind (wpAny_setField_rec he₃ (by simp) fun h₄ he₄ s₄ => ?_)
  replace he₄ : IsEnum h₄ e it (i + 1) x := he₄
  refine wpAny_bind ?_
  unfold Builtin.SmallTypes.ownedTupleHandOut
  refine wpAny_bind (wpAny_setField_rec he₄ (by simp) fun h₅ he₅ s₅ => ?_)
  replace he₅ : IsEnumOut h₅ e it (i + 1) x hp.objs.size := he₅
  refine wpAny_setField_rec he₅ (by simp) fun h₆ he₆ s₆ => ?_
  replace he₆ : IsEnumOut h₆ e it (i + 1) x hp.objs.size := he₆
  have k₆ : Stays e h₃ h₆ := ((Stays.of s₄).trans (Stays.of s₅)).trans (Stays.of s₆)
  exact wpAny_bind (wpAny_letGo (wpAny_pure ⟨_, rfl, hQ h₆ he₆ (k₆ _ _ hTe t₃) (k₃.trans k₆)⟩))
noncomputable def EnumP (x : Str) (n₀ i : Nat) (vals : Array Value) (tk : Nat) : Prop := ∃ c ti u, x.cps[i]? = some c ∧ vals = #[.int i ti, .str ⟨#[c]⟩ u] ∧ n₀ ≤ u ∧ u < tk
inductive EnumMd (x : Str) (t : Tok) (nm : String) (e it : Addr) (n₀ i : Nat) (v : Value) (h : Heap) (tk : Nat) : Prop
  | mk (T : Addr) (c : Nat) (ti : Tok) (u : Tok) (y : Value)
    (q1 : v = .ref T) (q2 : x.cps[i]? = some c) (q3 : n₀ ≤ u) (q4 : u < tk) (q5 : h.get? T = some { cls := .type "tuple", data := .seq #[.int i ti, .str ⟨#[c]⟩ u] }) (q6 : IsEnumOut h e it ((i : Int) + 1) y T) (q7 : h.IsStrIter it nm x t (i + 1)) (q8 : T ≠ e) (q9 : T ≠ it) : EnumMd x t nm e it n₀ i v h tk
theorem stays_iter {e it : Addr} {h h' : Heap} {nm : String} {x : Str} {t : Tok} {i : Nat} (k : Stays e h h') (hne : it ≠ e) (st : h.IsStrIter it nm x t i) : h'.IsStrIter it nm x t i := let ⟨o, ho, r⟩ := st; ⟨o, k it o hne ho, r⟩
theorem enumStrTurns {elts : List PySem.Expr} {k : Nat} {pos : Pos} {e it : Addr} {x : Str} {t : Tok} (hh : A.handled = none) (n₀ : Nat) {nm : String} (hnm : nm = "str_ascii_iterator" ∨ nm = "str_iterator") (hne : e ≠ it) :
    TTurns prog w A (.Tuple elts k pos) e [e, it] [e, it] x.cps.size n₀ (fun i v h tk => ∃ T vals, v = .ref T ∧ EnumP x n₀ i vals tk ∧ h.IsTuple T vals) (EnumMd x t nm e it n₀) (fun i h => (∃ old, IsEnum h e it i old) ∧ h.IsStrIter it nm x t i) where
  sub := fun _ hb => hb
  frame := fun i h h' st hk => by
    obtain ⟨⟨old, he⟩, o, ho, r⟩ := st
    exact ⟨⟨old, hk e (by simp) _ he⟩, o, hk it (by simp) o ho, r⟩
  item := fun i s Q E hi st hn hQ => by
    obtain ⟨⟨old, he⟩, hit⟩ := st
    have hx : x.cps[i]? = some x.cps[i] := by simp [hi]
    have hT : s.TypeIs (.ref e) "enumerate" := ⟨_, he, rfl⟩
    have helt : e < s.heap.objs.size := Heap.lt_size he
    have hilt : it < s.heap.objs.size := by obtain ⟨o, ho, _⟩ := hit; exact Heap.lt_size ho
    unfold pyNext
    refine wpAny_bind (wpAny_attempt (wpAny_callSpecial?_slot (name := Str.ofString "__next__") hT F.slot_enumerate_next (wpAny_call_entry F.slot_enumerate_next hT F.entry_enumerate_next ?_ (F.args_enumerate_next_1 _))))
    show wpAny _ _ (field (.ref e) 2 >>= _) _ _ _
    refine wpAny_bind (wpAny_field he rfl (x := .ref it) rfl ?_)
    have key : ∀ h₁ : Heap, h₁.IsStrIter it nm x t (i + 1) → Heap.SameBut it s.heap h₁ → IsEnum h₁ e it i old ∧ h₁.objs.size = s.heap.objs.size := fun h₁ _ hs => ⟨(hs.2 e hne).trans he, hs.1⟩
    have fin : ∀ h₁ : Heap, h₁.IsStrIter it nm x t (i + 1) → Heap.SameBut it s.heap h₁ → ∀ h', IsEnumOut h' e it ((i : Int) + 1) (.str ⟨#[x.cps[i]]⟩ s.toks) h₁.objs.size → h'.get? h₁.objs.size = some { cls := .type "tuple", data := .seq #[.int i (s.toks + 1), .str ⟨#[x.cps[i]]⟩ s.toks] } → Stays e h₁ h' → Q (some (.ref h₁.objs.size)) { s with heap := h', toks := s.toks + 1 + 1 } := by
      intro h₁ hit₁ hs₁ h' ho hT' k
      refine hQ _ h' _ ⟨_, x.cps[i], s.toks + 1, s.toks, _, rfl, hx, hn, by lia, hT', ho, stays_iter k hne.symm hit₁, ?_, ?_⟩ (by lia) fun b o hb y => ?_
      · rw [hs₁.1]; exact Nat.ne_of_gt helt
      · rw [hs₁.1]; exact Nat.ne_of_gt hilt
      · exact k b o (fun q => hb (by simp [q])) (hs₁.extBut b o (fun q => hb (by simp [q])) y)
    rcases hnm with rfl | rfl
    · refine wpAny_bind (wpAny_nextOf_ascii_item hit hx fun h₁ hit₁ hs₁ => ?_)
      exact enum_out (s := { s with heap := h₁, toks := s.toks + 1 }) (key h₁ hit₁ hs₁).1 fun h' ho hT' k => wpAny_pure (fin h₁ hit₁ hs₁ h' ho hT' k)
    · refine wpAny_bind (wpAny_nextOf_wide_item hit hx fun h₁ hit₁ hs₁ => ?_)
      exact enum_out (s := { s with heap := h₁, toks := s.toks + 1 }) (key h₁ hit₁ hs₁).1 fun h' ho hT' k => wpAny_pure (fin h₁ hit₁ hs₁ h' ho hT' k)
  go := fun i v s Q E hm hQ => by
    obtain ⟨T, c, ti, u, y, rfl, hx, h1, h2, hT, ho, hit, hTe, hTi⟩ := hm
    refine wpAny_letOwnedTupleGo_enum ho fun h' he' hs' => hQ h' ⟨T, _, rfl, ⟨c, ti, u, hx, rfl, h1, h2⟩, ⟨_, (hs'.2 T hTe).trans hT, rfl, _, rfl⟩⟩ ⟨⟨y, by simpa using he'⟩, stays_iter (Stays.of hs') hne.symm hit⟩ fun b o hb q => ?_
    exact (hs'.2 b fun e' => hb (by simp [e'])).trans q
  done := fun s Q E st hQ => by
    obtain ⟨⟨old, he⟩, hit⟩ := st
    rcases hnm with rfl | rfl
    · refine wpAny_pyNext_enum_endD (St := fun i h => h.IsStrIter it "str_ascii_iterator" x t i) (Draws.strAscii (A := A.in1) (show A.in1.handled = none from hh) it x t) he hit fun h' hx => ?_; exact hQ h' s.toks fun b o hb y => hx b o (fun e' => hb (by simp [e'])) y
    · refine wpAny_pyNext_enum_endD (St := fun i h => h.IsStrIter it "str_iterator" x t i) (Draws.strWide (A := A.in1) (show A.in1.handled = none from hh) it x t) he hit fun h' hx => ?_; exact hQ h' s.toks fun b o hb y => hx b o (fun e' => hb (by simp [e'])) y
theorem fresh_none {h₀ h : Heap} {L b : Addr} {m : Str → Option Value} (F : Fr h₀ L h m) (hb : @LE.le Nat _ h.objs.size b) : h₀.get? b = none :=
  Heap.get?_none_of_le (Nat.le_trans (Nat.le_of_lt (Nat.lt_of_le_of_lt F.above F.ns.lt)) hb)
/-- a loop over `enumerate` of a text -/
theorem loop_enum {h₀ : Heap} {env : Env} {y1 y2 : Str} {p1 p2 : Pos} {k : Nat} {pos : Pos} {body orelse : List Stmt} {x : Str} {t : Tok} {m : Str → Option Value} {news : Led} {Q : Flow → Shared → Prop}
    (hh : A.handled = none) (hy1 : env.kindOf y1 = some .local) (hy2 : env.kindOf y2 = some .local) (hp : (env.scope.kind == .class || (env.scope.kind == .module && env.locals != env.globals)) = false) (F : Fr h₀ env.locals s.heap m) (N : News h₀ env.locals s.heap news)
    (J : Nat → (Str → Option Value) → Led → Prop) (h0 : J 0 m news)
    (step : ∀ (e it : Addr) i c ti u m₁ news₁ h tk own, x.cps[i]? = some c → s.toks ≤ u → u < tk → J i m₁ news₁ → (∀ p ∈ news₁, p.1 ∉ [e, it]) → Fr h₀ env.locals h (bindNames [y1, y2] [.int i ti, .str ⟨#[c]⟩ u] m₁) → News h₀ env.locals h (news₁ ++ own) →
      ∀ g t, wpAny (model prog w) A (execs body env) (FEnd h₀ env.locals { s with heap := g, toks := t } [e, it] own (J (i + 1)) Q) E { s with heap := h, toks := tk })
    (done : ∀ h' tk m' news', s.toks ≤ tk → Fr h₀ env.locals h' m' → News h₀ env.locals h' news' → J x.cps.size m' news' → wpAny (model prog w) A (execs orelse env) Q E { s with heap := h', toks := tk }) :
    wpAny (model prog w) A (call (.type "enumerate") [.str x t]) (fun xv s₁ => wpAny (model prog w) A (pyIter xv) (fun it s₂ => LoopT prog w A h₀ env (.Tuple [.Name y1 p1, .Name y2 p2] k pos) body orelse Q E it s₂) E s₁) E s := by
  refine call_enumerate_str fun h' he hit hsz hk => ?_
  have hnm : strIterType x = "str_ascii_iterator" ∨ strIterType x = "str_iterator" := by unfold strIterType; split <;> simp
  refine wpAny_pyIter_enum he ?_
  have F2 : Fr h₀ env.locals h' m := F.keeps hk
  have N2 : News h₀ env.locals h' news := fun p hp => ⟨hk _ _ (N p hp).1, (N p hp).2⟩
  have hL : env.locals < s.heap.objs.size := F.ns.lt
  refine loop_tup (s := { s with heap := h' }) (ys := [(y1, p1), (y2, p2)]) (Pt := fun i v tk => EnumP x s.toks i v tk) hh (enumStrTurns hh s.toks hnm (Nat.succ_ne_self _)) ?_ ?_ ?_ hp ?_ ?_ ?_ ⟨⟨_, he⟩, hit⟩ F2 N2 J h0 ?_ done
  · rintro i v tk tk' hle ⟨c, ti, u, a, b, d, e⟩
    exact ⟨c, ti, u, a, b, d, Nat.lt_of_lt_of_le e hle⟩
  · rintro i v tk ⟨c, ti, u, a, rfl, d, e⟩
    rfl
  · intro y hy
    rcases List.mem_cons.mp hy with rfl | hy
    · exact hy1
    · rw [List.mem_singleton.mp hy]; exact hy2
  · intro hm
    rcases List.mem_cons.mp hm with e | hm
    · exact absurd hL (by rw [e]; exact Nat.not_lt.mpr (Nat.le_succ _))
    · exact absurd hL (by rw [List.mem_singleton.mp hm]; exact Nat.lt_irrefl _)
  · intro b hm
    rcases List.mem_cons.mp hm with rfl | hm
    · exact fresh_none F (Nat.le_succ _)
    · rw [List.mem_singleton.mp hm]; exact fresh_none F (Nat.le_refl _)
  · intro p hp' hm
    have hlt : p.1 < s.heap.objs.size := Heap.lt_size (N p hp').1
    rcases List.mem_cons.mp hm with e | hm
    · rw [e] at hlt; exact absurd hlt (Nat.not_lt.mpr (Nat.le_succ _))
    · rw [List.mem_singleton.mp hm] at hlt; exact Nat.lt_irrefl _ hlt
  · rintro i v m₁ news₁ h tk own hi ⟨c, ti, u, hc, rfl, hu1, hu2⟩ htk hJ hown hmem hst hoff F' N' g t'
    exact step _ _ i c ti u m₁ news₁ h tk own hc hu1 hu2 hJ hoff F' N' g t'
end
end
-- C7
section
/-- an iterator's turns, the generators told -/
structure GTurns (prog : Program) (w : World) (A : Around) (target : PySem.Expr) (I : Addr) (fp wr : List Addr) (n n₀ : Nat) (B : Array GenState → Prop) (GR : Array GenState → Array GenState → Prop) (P : Nat → Value → Heap → Nat → Prop) (Md : Nat → Value → Heap → Array GenState → Nat → Prop) (St : Nat → Heap → Array GenState → Prop) : Prop where
  sub : ∀ b ∈ wr, b ∈ fp
  refl : ∀ G, GR G G
  frame : ∀ i h h' G G', St (i + 1) h G → GR G G' → (∀ b ∈ fp, ∀ o, h.get? b = some o → h'.get? b = some o) → St (i + 1) h' G'
  item : ∀ i (s : Shared) (Q : Option Value → Shared → Prop) (E : Value → Shared → Prop), i < n → St i s.heap s.gens → B s.gens → n₀ ≤ s.toks →
    (∀ v h' tk G', Md i v h' G' tk → B G' → n₀ ≤ tk → (∀ b o, b ∉ wr → s.heap.get? b = some o → h'.get? b = some o) → Q (some v) { s with heap := h', toks := tk, gens := G' }) → wpAny (model prog w) A (pyNext (.ref I)) Q E s
  go : ∀ i v (s : Shared) (Q : Unit → Shared → Prop) (E : Value → Shared → Prop), Md i v s.heap s.gens s.toks →
    (∀ h', P i v h' s.toks → St (i + 1) h' s.gens → (∀ b o, b ∉ wr → s.heap.get? b = some o → h'.get? b = some o) → Q () { s with heap := h' }) → wpAny (model prog w) A (letOwnedTupleGo target (.ref I) v) Q E s
  done : ∀ (s : Shared) (Q : Option Value → Shared → Prop) (E : Value → Shared → Prop), St n s.heap s.gens →
    (∀ h' tk, (∀ b o, b ∉ wr → s.heap.get? b = some o → h'.get? b = some o) → Q none { s with heap := h', toks := tk }) → wpAny (model prog w) A (pyNext (.ref I)) Q E s
theorem GTurns.ofT {prog : Program} {w : World} {A : Around} {target : PySem.Expr} {I : Addr} {fp wr : List Addr} {n n₀ : Nat} {B : Array GenState → Prop} {P Md : Nat → Value → Heap → Nat → Prop} {St : Nat → Heap → Prop} (W : TTurns prog w A target I fp wr n n₀ P Md St) :
    GTurns prog w A target I fp wr n n₀ B (fun _ _ => True) P (fun i v h _ tk => Md i v h tk) (fun i h _ => St i h) where
  sub := W.sub
  refl := fun _ => trivial
  frame := fun i h h' _ _ st _ hk => W.frame (i + 1) h h' st hk
  item := fun i s Q E hi st hB hn hQ => W.item i s Q E hi st hn fun v h' tk hm hle hk => hQ v h' tk s.gens hm hB hle hk
  go := W.go
  done := W.done
section
variable {prog : Program} {w : World} {A : Around} {E : Value → Shared → Prop} {s : Shared} {h₀ : Heap} {env : Env}
noncomputable def FEndG (h₀ : Heap) (L : Addr) (s₁ : Shared) (wr : List Addr) (own : Led) (GB : Array GenState → Prop) (J : (Str → Option Value) → Led → Prop) (Q : Flow → Shared → Prop) (f : Flow) (s₂ : Shared) : Prop :=
  match f with
  | .ret v => Q (.ret v) s₂
  | .brk => Q .next s₂
  | _ => ∃ h' tk G m' news', s₂ = { s₁ with heap := h', toks := tk, gens := G } ∧ GB G ∧ Fr h₀ L h' m' ∧ News h₀ L h' (own ++ news') ∧ (∀ p ∈ news', p.1 ∉ wr) ∧ J m' news'
theorem FEndG.of {L : Addr} {s₁ : Shared} {wr : List Addr} {own : Led} {GB : Array GenState → Prop} {J : (Str → Option Value) → Led → Prop} {Q : Flow → Shared → Prop} {h' : Heap} {tk : Nat} {G : Array GenState} {m' : Str → Option Value} {f : Flow} {all : Led} (F : Fr h₀ L h' m') (N : News h₀ L h' all) (hG : GB G) (news' : Led)
    (sub : ∀ p ∈ own ++ news', p ∈ all) (off : ∀ p ∈ news', p.1 ∉ wr) (hJ : J m' news') (hf : f = .next ∨ f = .cont := by exact .inl rfl) : FEndG h₀ L s₁ wr own GB J Q f { s₁ with heap := h', toks := tk, gens := G } := by
  rcases hf with rfl | rfl <;> exact ⟨h', tk, G, m', news', rfl, hG, F, fun p hp => N p (sub p hp), off, hJ⟩
theorem fendG_gen {M : Model} {A : Around} {c : Sem Flow} {E : Value → Shared → Prop} {s s₁ : Shared} {h₀ : Heap} {L : Addr} {wr : List Addr} {own : Led} {GB : Array GenState → Prop} {J : (Str → Option Value) → Led → Prop} {Qb : Flow → Shared → Prop}
    (h : ∀ (Q : Flow → Shared → Prop) (J' : (Str → Option Value) → Led → Prop), (∀ m nw, J m nw → J' m nw) → wpAny M A c (FEndG h₀ L s₁ wr own GB J' Q) E s) : wpAny M A c (FEndG h₀ L s₁ wr own GB J Qb) E s := h Qb J fun _ _ h => h
inductive LoopG (prog : Program) (w : World) (A : Around) (h₀ : Heap) (env : Env) (B : Array GenState → Prop) (GR : Array GenState → Array GenState → Prop) (target : PySem.Expr) (body orelse : List Stmt) (Q : Flow → Shared → Prop) (E : Value → Shared → Prop) (it : Value) (s₂ : Shared) : Prop
  | mk (I : Addr) (fp wr : List Addr) (n : Nat) (P : Nat → Value → Heap → Nat → Prop) (Md : Nat → Value → Heap → Array GenState → Nat → Prop) (St : Nat → Heap → Array GenState → Prop) (m : Str → Option Value) (news : Led) (X : Type) (U : X → (Str → Option Value) → Str → Option Value) (V : Nat → X → Nat → Prop) (J : Nat → (Str → Option Value) → Led → Prop)
    (q1 : it = .ref I) (q2 : GTurns prog w A target I fp wr n s₂.toks B GR P Md St) (q3 : env.locals ∉ fp) (q4 : (∀ b ∈ wr, h₀.get? b = none)) (q5 : (∀ p ∈ news, p.1 ∉ wr)) (q6 : St 0 s₂.heap s₂.gens) (q7 : B s₂.gens) (q8 : Fr h₀ env.locals s₂.heap m) (q9 : News h₀ env.locals s₂.heap news) (q10 : J 0 m news) (q11 : (∀ i v (s' : Shared) m₁ (Q : Unit → Shared → Prop) (E : Value → Shared → Prop), i < n → P i v s'.heap s'.toks → Fr h₀ env.locals s'.heap m₁ → (∀ h' tk x, V i x tk → Fr h₀ env.locals h' (U x m₁) → (∀ b o, b ≠ env.locals → s'.heap.get? b = some o → h'.get? b = some o) → Q () { s' with heap := h', toks := tk }) → wpAny (model prog w) A (assign target env v) Q E s')) (q12 : (∀ i x m₁ news₁ h tk G own, i < n → V i x tk → s₂.toks ≤ tk → B G → J i m₁ news₁ → (∀ p ∈ own, p.1 ∈ fp) → (∀ b ∈ fp, h₀.get? b = none → ∀ o, h.get? b = some o → (b, o) ∈ own) → St (i + 1) h G → (∀ p ∈ news₁, p.1 ∉ wr) → Fr h₀ env.locals h (U x m₁) → News h₀ env.locals h (own ++ news₁) → wpAny (model prog w) A (execs body env) (FEndG h₀ env.locals { s₂ with heap := h, toks := tk, gens := G } wr own (fun G' => GR G G' ∧ B G') (J (i + 1)) Q) E { s₂ with heap := h, toks := tk, gens := G })) (q13 : ∀ h' tk G m' news', s₂.toks ≤ tk → B G → Fr h₀ env.locals h' m' → News h₀ env.locals h' news' → J n m' news' → wpAny (model prog w) A (execs orelse env) Q E { s₂ with heap := h', toks := tk, gens := G }) : LoopG prog w A h₀ env B GR target body orelse Q E it s₂
theorem For_GG {target iter : PySem.Expr} {body orelse : List Stmt} {pos : Pos} {Q : Flow → Shared → Prop} {m : Str → Option Value} (_F : Fr h₀ env.locals s.heap m)
    (h : wpAny (model prog w) A (eval iter env) (fun xv s₁ => wpAny (model prog w) A (pyIter xv) (fun it s₂ => ∃ (B : Array GenState → Prop) (GR : Array GenState → Array GenState → Prop), LoopG prog w A h₀ env B GR target body orelse Q E it s₂) E s₁) E s)
    (hs : ∀ x, foldedSetIterable iter env x = pure x := by intro _; rfl)
    (hE : PassesOwn (model prog w) A env E := by passes_own) :
    wpAny (model prog w) A (exec (.For target iter body orelse pos) env) Q E s := by
  refine wpAny_For (wpAny_mono h (fun xv s₁ h₁ => wpAny_mono h₁ (fun it s₂ h₂ => ?_) fun _ _ e => e) fun _ _ e => e) hs
  obtain ⟨B, GR, I, fp, wr, n, P, Md, St, m, news, X, U, V, J, rfl, W, hLf, hwr, hnw, hst, hB, F, N, h0, asg, step, hQ⟩ := h₂
  have hLw : env.locals ∉ wr := fun h => hLf (W.sub _ h)
  have old : ∀ b o, h₀.get? b = some o → b ∉ wr := fun b o e hb => by rw [hwr b hb] at e; cases e
  refine codeAny_forLoop_any
    (fun k s' => ∃ h' tk G m' news' i, s' = { s₂ with heap := h', toks := tk, gens := G } ∧ s₂.toks ≤ tk ∧ St i h' G ∧ B G ∧ Fr h₀ env.locals h' m' ∧ News h₀ env.locals h' news' ∧ (∀ p ∈ news', p.1 ∉ wr) ∧ J i m' news' ∧ i ≤ n ∧ k = n + 1 - i) ?_ (n + 1)
    ⟨s₂.heap, s₂.toks, s₂.gens, m, news, 0, rfl, Nat.le_refl _, hst, hB, F, N, hnw, h0, Nat.zero_le _, rfl⟩
  rintro k s' ⟨h', tk, G, m', news', i, rfl, htk, hst', hB', F', N', hnw', hJ, hi, rfl⟩
  have next : ∀ h₁ : Heap, (∀ b o, b ∉ wr → h'.get? b = some o → h₁.get? b = some o) → Fr h₀ env.locals h₁ m' ∧ News h₀ env.locals h₁ news' := fun h₁ hk₁ =>
    ⟨⟨F'.ns.at' fun o e => hk₁ _ o hLw e, fun b o e => hk₁ b o (old b o e) (F'.keep b o e), F'.above⟩, fun p hp => ⟨hk₁ _ _ (hnw' p hp) (N' p hp).1, (N' p hp).2⟩⟩
  by_cases hlt : i < n
  · refine W.item i _ _ _ hlt hst' hB' htk fun v h₁ tk₁ G₁ hMd hB₁ htk₁ hk₁ => ?_
    refine W.go i v _ _ _ hMd fun h₂ hP hst₂ hk₂ => ?_
    obtain ⟨F₂, N₂⟩ := next h₂ fun b o hb x => hk₂ b o hb (hk₁ b o hb x)
    refine wpAny_with_toks (n := s₂.toks) htk₁ ?_
    refine asg i v _ m' _ _ hlt hP F₂ fun h₃ tk₃ x hV F₃ hk₃ htk₃ => ?_
    have hst₃ : St (i + 1) h₃ G₁ := W.frame _ _ _ _ _ hst₂ (W.refl _) fun b hb o e => hk₃ b o (fun q => hLf (by have q' : b = env.locals := q; rw [← q']; exact hb)) e
    have N₃ : News h₀ env.locals h₃ news' := fun p hp => ⟨hk₃ _ _ (N₂ p hp).2.1 (N₂ p hp).1, (N₂ p hp).2⟩
    have Nown : News h₀ env.locals h₃ (PyProof.Rows.ownOf h₀ fp h₃) := news_ownOf hLf
    refine wpAny_with_toks (n := s₂.toks) htk₃ ?_
    have stay : ∀ h₆ m₆ G₆, Fr h₀ env.locals h₆ m₆ → News h₀ env.locals h₆ (PyProof.Rows.ownOf h₀ fp h₃) → GR G₁ G₆ → St (i + 1) h₆ G₆ := fun h₆ m₆ G₆ F₆ N₆ hr => W.frame _ _ _ _ _ hst₃ hr fun b hb o e => by
      cases hn : h₀.get? b with
      | some o₀ =>
        have : o₀ = o := by have q := F₃.keep b o₀ hn; rw [e] at q; exact (Option.some.inj q).symm
        exact this ▸ F₆.keep b o₀ hn
      | none => exact (N₆ _ (mem_ownOf hb hn e)).1
    refine wpAny_mono (step i x m' news' h₃ tk₃ G₁ (PyProof.Rows.ownOf h₀ fp h₃) hlt hV htk₃ hB₁ hJ ownOf_sub (fun b hb hn o e => mem_ownOf hb hn e) hst₃ hnw' F₃ (Nown.append N₃)) (fun f s₃ h₄ htk₄ => ?_) fun e s' he _ => hE e s' he
    cases f with
    | ret v => exact h₄
    | brk => exact h₄
    | cont =>
      obtain ⟨h₅, tk₅, G₅, m₂, news₂, rfl, ⟨hr₅, hB₅⟩, F₅, N₅, hoff, hJ₅⟩ := h₄
      exact ⟨n + 1 - (i + 1), by lia, h₅, tk₅, G₅, m₂, news₂, i + 1, rfl, htk₄, stay h₅ m₂ G₅ F₅ (fun p hp => N₅ p (List.mem_append_left _ hp)) hr₅, hB₅, F₅, fun p hp => N₅ p (List.mem_append_right _ hp), hoff, hJ₅, hlt, rfl⟩
    | next =>
      obtain ⟨h₅, tk₅, G₅, m₂, news₂, rfl, ⟨hr₅, hB₅⟩, F₅, N₅, hoff, hJ₅⟩ := h₄
      exact ⟨n + 1 - (i + 1), by lia, h₅, tk₅, G₅, m₂, news₂, i + 1, rfl, htk₄, stay h₅ m₂ G₅ F₅ (fun p hp => N₅ p (List.mem_append_left _ hp)) hr₅, hB₅, F₅, fun p hp => N₅ p (List.mem_append_right _ hp), hoff, hJ₅, hlt, rfl⟩
  · have hin : i = n := by lia
    subst hin
    refine wpAny_with_toks (n := s₂.toks) htk ?_
    refine W.done _ _ _ hst' fun h₁ tk₁ hk₁ htk₁ => ?_
    obtain ⟨F₁, N₁⟩ := next h₁ hk₁
    exact wpAny_mono (hQ h₁ tk₁ G m' news' htk₁ hB' F₁ N₁ hJ) (fun f s' h => h) fun e s' he => hE e s' he
theorem For_G {target iter : PySem.Expr} {body orelse : List Stmt} {pos : Pos} {Q : Flow → Shared → Prop} {m : Str → Option Value} (B : Array GenState → Prop) (GR : Array GenState → Array GenState → Prop) (F : Fr h₀ env.locals s.heap m)
    (h : wpAny (model prog w) A (eval iter env) (fun xv s₁ => wpAny (model prog w) A (pyIter xv) (fun it s₂ => LoopG prog w A h₀ env B GR target body orelse Q E it s₂) E s₁) E s)
    (hs : ∀ x, foldedSetIterable iter env x = pure x := by intro _; rfl)
    (hE : PassesOwn (model prog w) A env E := by passes_own) :
    wpAny (model prog w) A (exec (.For target iter body orelse pos) env) Q E s :=
  For_GG F (wpAny_mono h (fun _ _ h₁ => wpAny_mono h₁ (fun _ _ h₂ => ⟨B, GR, h₂⟩) fun _ _ e => e) fun _ _ e => e) hs hE
theorem LoopT.toG {target : PySem.Expr} {body orelse : List Stmt} {Q : Flow → Shared → Prop} {it : Value} {s₂ : Shared} (h : LoopT prog w A h₀ env target body orelse Q E it s₂) : LoopG prog w A h₀ env (fun G => G = s₂.gens) (fun _ _ => True) target body orelse Q E it s₂ := by
  obtain ⟨I, fp, wr, n, P, Md, St, m, news, X, U, V, J, e, W, hLf, hwr, hnw, hst, F, N, h0, asg, step, hQ⟩ := h
  refine ⟨I, fp, wr, n, P, _, _, m, news, X, U, V, J, e, .ofT W, hLf, hwr, hnw, hst, rfl, F, N, h0, asg, ?_, ?_⟩
  · rintro i x m₁ news₁ h tk G own hi hV htk rfl hJ o1 o2 hst hn F' N'
    refine wpAny_mono (step i x m₁ news₁ h tk own hi hV htk hJ o1 o2 hst hn F' N') (fun f s' h => ?_) fun _ _ e => e
    cases f with
    | ret v => exact h
    | brk => exact h
    | next => obtain ⟨h', tk, m', news', e, F, N, off, hJ⟩ := h; exact ⟨h', tk, s₂.gens, m', news', e, ⟨trivial, rfl⟩, F, N, off, hJ⟩
    | cont => obtain ⟨h', tk, m', news', e, F, N, off, hJ⟩ := h; exact ⟨h', tk, s₂.gens, m', news', e, ⟨trivial, rfl⟩, F, N, off, hJ⟩
  · rintro h' tk G m' news' htk rfl F N hJ
    exact hQ h' tk m' news' htk F N hJ
theorem For_T {target iter : PySem.Expr} {body orelse : List Stmt} {pos : Pos} {Q : Flow → Shared → Prop} {m : Str → Option Value} (F : Fr h₀ env.locals s.heap m)
    (h : wpAny (model prog w) A (eval iter env) (fun xv s₁ => wpAny (model prog w) A (pyIter xv) (fun it s₂ => LoopT prog w A h₀ env target body orelse Q E it s₂) E s₁) E s)
    (hs : ∀ x, foldedSetIterable iter env x = pure x := by intro _; rfl)
    (hE : PassesOwn (model prog w) A env E := by passes_own) :
    wpAny (model prog w) A (exec (.For target iter body orelse pos) env) Q E s :=
  For_GG F (wpAny_mono h (fun _ _ h₁ => wpAny_mono h₁ (fun _ _ h₂ => ⟨_, _, h₂.toG⟩) fun _ _ e => e) fun _ _ e => e) hs hE
end
end
-- C8
section
section
variable {prog : Program} {w : World} {A : Around} {E : Value → Shared → Prop} {s : Shared} {h₀ : Heap} {env : Env}
theorem loopG_tup {B : Array GenState → Prop} {GR : Array GenState → Array GenState → Prop} {ys : List (Str × Pos)} {k : Nat} {pos : Pos} {body orelse : List Stmt} {I : Addr} {fp wr : List Addr} {n : Nat} {Pt : Nat → Array Value → Nat → Prop} {Md : Nat → Value → Heap → Array GenState → Nat → Prop} {St : Nat → Heap → Array GenState → Prop} {m : Str → Option Value} {news : Led} {Q : Flow → Shared → Prop}
    (hh : A.handled = none) (W : GTurns prog w A (.Tuple (ys.map fun y => PySem.Expr.Name y.1 y.2) k pos) I fp wr n s.toks B GR (fun i v h tk => ∃ T vals, v = .ref T ∧ Pt i vals tk ∧ h.IsTuple T vals) Md St)
    (hmono : ∀ i v tk tk', tk ≤ tk' → Pt i v tk → Pt i v tk') (hsize : ∀ i v tk, Pt i v tk → v.size = ys.length) (hy : ∀ y ∈ ys, env.kindOf y.1 = some .local) (hp : (env.scope.kind == .class || (env.scope.kind == .module && env.locals != env.globals)) = false)
    (hLf : env.locals ∉ fp) (hwr : ∀ b ∈ wr, h₀.get? b = none) (hnw : ∀ p ∈ news, p.1 ∉ wr) (hst : St 0 s.heap s.gens) (hB : B s.gens) (F : Fr h₀ env.locals s.heap m) (N : News h₀ env.locals s.heap news)
    (J : Nat → (Str → Option Value) → Led → Prop) (h0 : J 0 m news)
    (step : ∀ i (v : Array Value) m₁ news₁ h tk G own, i < n → Pt i v tk → s.toks ≤ tk → B G → J i m₁ news₁ → (∀ p ∈ own, p.1 ∈ fp) → (∀ b ∈ fp, h₀.get? b = none → ∀ o, h.get? b = some o → (b, o) ∈ own) → St (i + 1) h G → (∀ p ∈ news₁, p.1 ∉ wr) → Fr h₀ env.locals h (bindNames (ys.map (·.1)) v.toList m₁) → News h₀ env.locals h (news₁ ++ own) →
      ∀ g t G₀, wpAny (model prog w) A (execs body env) (FEndG h₀ env.locals { s with heap := g, toks := t, gens := G₀ } wr own (fun G' => GR G G' ∧ B G') (J (i + 1)) Q) E { s with heap := h, toks := tk, gens := G })
    (done : ∀ h' tk G m' news', s.toks ≤ tk → B G → Fr h₀ env.locals h' m' → News h₀ env.locals h' news' → J n m' news' → wpAny (model prog w) A (execs orelse env) Q E { s with heap := h', toks := tk, gens := G }) :
    LoopG prog w A h₀ env B GR (.Tuple (ys.map fun y => PySem.Expr.Name y.1 y.2) k pos) body orelse Q E (.ref I) s := by
  refine ⟨I, fp, wr, n, _, _, _, m, news, Array Value, fun u m₁ => bindNames (ys.map (·.1)) u.toList m₁, fun i u tk => Pt i u tk, J, rfl, W, hLf, hwr, hnw, hst, hB, F, N, h0, ?_, ?_, fun h' tk G m' news' a b c d e => done h' tk G m' news' a b c d e⟩
  · rintro i v s' m₁ Q E hi ⟨T, vals, rfl, hPt, hT⟩ F h
    refine assign_Tuple_tuple hh hT (by rw [asgEach_len]; exact (hsize _ _ _ hPt).symm) (asgEach_star ys) fun h₁ he => ?_
    refine asg_order rfl hp ys vals.toList { s' with heap := h₁ } m₁ Q hy (F.extBut he (Nat.le_refl _)) (by rw [Array.length_toList]; exact hsize _ _ _ hPt) fun h₂ tk htk F₂ hk => ?_
    exact h h₂ tk vals (hmono _ _ _ _ htk hPt) F₂ fun b o hb e => hk b o hb (he b o (fun q => by rw [q, Heap.get?_none_of_le (Nat.le_refl _)] at e; cases e) e)
  · rintro i v m₁ news₁ h tk G own hi hP htk hBG hJ hown hmem hst' hoff F' N'
    exact step i v m₁ news₁ h tk G own hi hP htk hBG hJ hown hmem hst' hoff F' (fun p hp => N' p ((List.mem_append.mp hp).elim (List.mem_append_right _) (List.mem_append_left _))) h tk G
/-- a loop over a range, the generators told -/
theorem loopG_range {B : Array GenState → Prop} {y : Str} {py : Pos} {body orelse : List Stmt} {r : Addr} {a₀ b₀ : Int} {t₀ u₀ v₀ : Tok} {n : Nat} {m : Str → Option Value} {news : Led} {Q : Flow → Shared → Prop}
    (hh : A.handled = none) (hr : IsRange s.heap r a₀ b₀ 1 t₀ u₀ v₀) (hsmall : Builtin.Range.small a₀ b₀ 1 = true) (hn : Builtin.Range.rangeSize a₀ b₀ 1 = (n : Int)) (hy : env.kindOf y = some .local) (hp : (env.scope.kind == .class || (env.scope.kind == .module && env.locals != env.globals)) = false) (hB : B s.gens)
    (F : Fr h₀ env.locals s.heap m) (N : News h₀ env.locals s.heap news) (J : Nat → (Str → Option Value) → Led → Prop) (h0 : J 0 m news)
    (step : ∀ (I : Addr) (oI : Obj) i u m₁ news₁ h tk G, i < n → s.toks ≤ tk → B G → J i m₁ news₁ → (∀ p ∈ news₁, p.1 ∉ [I]) → Fr h₀ env.locals h (fun z => if z = y then some (.int (a₀ + (i : Int)) u) else m₁ z) → News h₀ env.locals h (news₁ ++ [(I, oI)]) →
      ∀ g t G₀, wpAny (model prog w) A (execs body env) (FEndG h₀ env.locals { s with heap := g, toks := t, gens := G₀ } [I] [(I, oI)] B (J (i + 1)) Q) E { s with heap := h, toks := tk, gens := G })
    (done : ∀ h' tk G m' news', s.toks ≤ tk → B G → Fr h₀ env.locals h' m' → News h₀ env.locals h' news' → J n m' news' → wpAny (model prog w) A (execs orelse env) Q E { s with heap := h', toks := tk, gens := G }) :
    wpAny (model prog w) A (pyIter (.ref r)) (fun it s₂ => LoopG prog w A h₀ env B (fun _ _ => True) (.Name y py) body orelse Q E it s₂) E s := by
  refine wpAny_pyIter_range hr hsmall ?_
  have hnew := next_is_new F
  have up : ∀ b o' o, s.heap.get? b = some o' → (s.heap.push o).get? b = some o' := fun b o' o e => Heap.get?_push_of_some _ e
  refine ⟨s.heap.objs.size, [s.heap.objs.size], [s.heap.objs.size], n, _, _, _, m, news, Value, fun u m₁ z => if z = y then some u else m₁ z, fun i u tk => ∃ t, u = .int (a₀ + (i : Int) * 1) t, J, rfl,
    GTurns.ofT (TTurns.ofK (KTurns.ofWalks (Walks.range hh s.heap.objs.size a₀ 1 n) fun i v s Q E hst hQ => ?go) _), ?_, ?_, ?_, ?_, hB, F.push _, fun p hp => ⟨up _ _ _ (N p hp).1, (N p hp).2⟩, h0, asgF_name (P := fun i v _ => ∃ t, v = .int (a₀ + (i : Int) * 1) t) (fun _ _ _ h => h) hy hp, ?_, fun h' tk G m' news' a b c d e => done h' tk G m' news' a b c d e⟩
  case go => exact go_name hQ
  · intro hm
    exact absurd F.ns.lt ((List.mem_singleton.mp hm) ▸ Nat.lt_irrefl _)
  · intro b hb
    rw [List.mem_singleton.mp hb]
    exact hnew
  · intro p hp hI
    exact absurd (Heap.lt_size (N p hp).1) ((List.mem_singleton.mp hI) ▸ Nat.lt_irrefl _)
  · show IsRangeIter _ _ _ _ _
    rw [hn]
    simpa using Heap.get?_push_size _ rfl
  · rintro i v m₁ news₁ h tk G own hi ⟨t, rfl⟩ htk hBG hJ hown hmem hst' hoff F' N'
    rw [Int.mul_one] at F'
    obtain ⟨oI, hI, N''⟩ := own_one (hmem _ (List.mem_singleton.mpr rfl) hnew _ hst') hown (fun p hp => N' p ((List.mem_append.mp hp).elim (List.mem_append_right _) (List.mem_append_left _)))
    refine wpAny_mono (step s.heap.objs.size oI i t m₁ news₁ h tk G hi htk hBG hJ hoff F' N'' h tk G) (fun f s₂ h₂ => ?_) fun _ _ e => e
    have fin : (∃ h' tk' G' m' news', s₂ = { s with heap := h', toks := tk', gens := G' } ∧ B G' ∧ Fr h₀ env.locals h' m' ∧ News h₀ env.locals h' ([(s.heap.objs.size, oI)] ++ news') ∧ (∀ p ∈ news', p.1 ∉ [s.heap.objs.size]) ∧ J (i + 1) m' news') →
        ∃ h' tk' G' m' news', s₂ = { s with heap := h', toks := tk', gens := G' } ∧ (True ∧ B G') ∧ Fr h₀ env.locals h' m' ∧ News h₀ env.locals h' (own ++ news') ∧ (∀ p ∈ news', p.1 ∉ [s.heap.objs.size]) ∧ J (i + 1) m' news' := by
      rintro ⟨h', tk', G', m', news', e, hG', F5, N5, off5, J5⟩
      refine ⟨h', tk', G', m', news', e, ⟨trivial, hG'⟩, F5, fun p hp => ?_, off5, J5⟩
      rcases List.mem_append.mp hp with hp | hp
      · rw [hI p hp]; exact N5 _ (List.mem_append_left _ List.mem_cons_self)
      · exact N5 p (List.mem_append_right _ hp)
    cases f with
    | ret v => exact h₂
    | brk => exact h₂
    | next => exact fin h₂
    | cont => exact fin h₂
end
end
-- C9
section
section
variable {prog : Program} {w : World} {A : Around} {E : Value → Shared → Prop} {s : Shared} {h₀ : Heap} {L : Addr} {m : Str → Option Value} {env : Env}
theorem asg_orderC {scope : Scope} {cl : List (Str × Addr)} {C : Addr} (hkind : scope.kind = .function) : ∀ (ys : List (Str × Pos)) (vals : List Value) (s : Shared) (m : Str → Option Value) (Q : Unit → Shared → Prop), (∀ y ∈ ys, scope.names.lookup y.1 = some .local) → s.heap.Ns C m → vals.length = ys.length →
    (∀ h' tk, s.toks ≤ tk → h'.Ns C (bindNames (ys.map (·.1)) vals m) → (∀ b o, b ≠ C → s.heap.get? b = some o → h'.get? b = some o) → Q () { s with heap := h', toks := tk }) →
    wpAny (model prog w) A (assignInOrder ((assignEach (ys.map fun y => PySem.Expr.Name y.1 y.2) (compEnvC scope cl C env)).map (·.2)) vals) Q E s
  | [], vals, s, m, Q, _, F, _, h => assignInOrder_nil (h s.heap s.toks (Nat.le_refl _) F fun _ _ _ e => e)
  | y :: ys, [], s, m, Q, _, F, hl, h => by cases hl
  | y :: ys, v :: vals, s, m, Q, hy, hn, hl, h => by
    refine assignInOrder_cons ?_
    refine wpAny_assign_Name (wpAny_storeName_local (lookup_relabel_local (hy y List.mem_cons_self)) hn (fun h₂ hn₂ hs₂ => ?_) (by simp [compEnvC, relabel, hkind]))
    exact asg_orderC hkind ys vals _ _ Q (fun z hz => hy z (List.mem_cons_of_mem _ hz)) hn₂ (Nat.succ.inj hl) fun h' tk htk F' hk => h h' tk (Nat.le_trans (Nat.le_succ _) htk) F' fun b o hb e => hk b o hb (hs₂.extBut b o hb e)
theorem blockAt_tup {elt : PySem.Expr} {ifs : List PySem.Expr} {scope : Scope} {cl : List (Str × Addr)} {ys : List (Str × Pos)} {k : Nat} {pos : Pos} {I : Addr} {fp wr : List Addr} {n : Nat} {Pt : Nat → Array Value → Nat → Prop} {Md : Nat → Value → Heap → Nat → Prop} {St : Nat → Heap → Prop} {news : Led} {Fin : Shared → List Value → Led → Prop}
    (hh : A.handled = none) (W : TTurns prog w A (.Tuple (ys.map fun y => PySem.Expr.Name y.1 y.2) k pos) I fp wr n s.toks (fun i v h tk => ∃ T vals, v = .ref T ∧ Pt i vals tk ∧ h.IsTuple T vals) Md St)
    (hself : ∀ s (Q : Value → Shared → Prop) (E : Value → Shared → Prop), St 0 s.heap → Q (.ref I) s → wpAny (model prog w) A (pyIter (.ref I)) Q E s) (hmono : ∀ i v tk tk', tk ≤ tk' → Pt i v tk → Pt i v tk') (hsize : ∀ i v tk, Pt i v tk → v.size = ys.length) (hsz : n ≤ sizeLine)
    (hst : St 0 s.heap) (hfp : ∀ b ∈ fp, b < s.heap.objs.size) (F : Fr h₀ L s.heap m) (N : News h₀ L s.heap news) (hLf : L ∉ fp) (hwr : ∀ b ∈ wr, h₀.get? b = none) (hnw : ∀ p ∈ news, p.1 ∉ wr) (hkind : scope.kind = .function) (hy : ∀ y ∈ ys, scope.names.lookup y.1 = some .local)
    (J : Nat → List Value → Led → Prop) (h0 : J 0 [] news)
    (step : ∀ i (vals : Array Value) oC C D m' zs news₁ h tk own (E' : Value → Shared → Prop), i < n → Pt i vals tk → s.toks ≤ tk → J i zs news₁ → (∀ p ∈ own, p.1 ∈ fp) → (∀ b ∈ fp, h₀.get? b = none → ∀ o, h.get? b = some o → (b, o) ∈ own) → St (i + 1) h → NsObj oC (bindNames (ys.map (·.1)) vals.toList m') → Fr h₀ L h m → News h₀ L h ((C, oC) :: (D, lst zs) :: (own ++ news₁)) → C ≠ D → OffT C D wr news₁ →
      ∀ g t, TestsAt prog w A ifs (compEnvC scope cl C env) (fun ok s₃ => if ok = true then wpAny (model prog w) A (eval elt (compEnvC scope cl C env)) (fun y s₄ => TEnd h₀ L m { s with heap := g, toks := t } C oC D (lst zs) wr own (J (i + 1) (zs ++ [y])) s₄) E' s₃
        else TEnd h₀ L m { s with heap := g, toks := t } C oC D (lst zs) wr own (J (i + 1) zs) s₃) E' { s with heap := h, toks := tk })
    (hlen : ∀ i zs nw, J i zs nw → zs.length ≤ i) (fin : ∀ g zs nw, J n zs nw → Fin { s with heap := g } zs nw) :
    BlockAt prog w A h₀ L m env elt (.Tuple (ys.map fun y => PySem.Expr.Name y.1 y.2) k pos) ifs scope cl Fin (.ref I) s := by
  refine ⟨I, fp, wr, n, _, _, _, news, fun i v m₃ tk => ∃ (vals : Array Value) (m' : Str → Option Value), Pt i vals tk ∧ m₃ = bindNames (ys.map (·.1)) vals.toList m', J, rfl, W, hself, hsz, hst, hfp, F, N, hLf, hwr, hnw, h0, ?_, ?_, hlen, fun zs nw hJ => fin s.heap zs nw hJ⟩
  · rintro i v s' C m₂ Q E hi ⟨T, vals, rfl, hPt, hT⟩ hn h
    refine assign_Tuple_tuple hh hT (by rw [asgEach_len]; exact (hsize _ _ _ hPt).symm) (asgEach_star ys) fun h₁ he => ?_
    have hClt : C < s'.heap.objs.size := hn.lt
    refine asg_orderC hkind ys vals.toList { s' with heap := h₁ } m₂ Q hy (hn.at' fun o e => he C o (Nat.ne_of_lt hClt) e) (by rw [Array.length_toList]; exact hsize _ _ _ hPt) fun h₂ tk htk hn₂ hk => ?_
    exact h h₂ tk _ ⟨vals, m₂, hmono _ _ _ _ htk hPt, rfl⟩ hn₂ fun b o hb e => hk b o hb (he b o (fun q => by rw [q, Heap.get?_none_of_le (Nat.le_refl _)] at e; cases e) e)
  · rintro i v oC C D m₂ zs news₁ h tk own E' hi ⟨vals, m', hPt, rfl⟩ htk hJ hown hmem hst hoC F' N' hCD hoff
    exact step i vals oC C D m' zs news₁ h tk own E' hi hPt htk hJ hown hmem hst hoC F' N' hCD hoff h tk
end
end
-- C10
section
section
variable {prog : Program} {w : World} {A₀ A : Around} {s : Shared} {base h₀ : Heap} {outer : List Env} {L : Addr} {m : Str → Option Value} {env : Env} {news : Led} {R : Result → Shared → Prop} {name qual : Str} {params : Arguments} {body : List Stmt} {scope : Scope} {dV kV doc pm cdv ct : Value} {an : Option Addr} {fo : Obj} {f : Addr} {args : Args} {binds : List (Str × Value)}
theorem enterT (B : Below A₀ base outer h₀) (F : Fr h₀ L s.heap m) (N : News h₀ L s.heap news) (hlim : h₀.NoLimit) (hA : A.frames = some (env :: outer)) (hf : env.frame = some L) (hke : env.scope.kind = .function)
    (ho : s.heap.get? f = some fo) (hd : fo.data = .func (fnX name qual params body scope [] dV kV doc pm an cdv ct)) (hcd : s.heap.CodeRec cdv qual) (hroom : A.depth < recursionLimit)
    (hbind : BindsTo s (fnX name qual params body scope [] dV kV doc pm an cdv ct) args binds)
    (hkind : ∀ n, ∀ x ∈ binds, scope.names.lookup x.1 = some .local ∨ (scope.names.lookup x.1 = some .cell ∧ ((cellsFrom n scope.names []).lookup x.1).isSome = true))
    (hnd : ((cellsFrom 0 scope.names []).map (·.1)).Nodup)
    (h : ∀ g L' h₁ tk cells, Fr h₀ L g m → Fr g L' h₁ (bindL (envOfC qual scope L' f cdv).kindOf binds fun _ => none) → News g L' h₁ (cells ++ news) →
      CellsAre (bindC (envOfC qual scope L' f cdv).kindOf binds fun _ => none) (cellsFrom (L' + 1) scope.names []) cells → Below A base (env :: outer) g → h₀.StaysIn g → (∀ p ∈ news, p.1 < L') → s.toks ≤ tk →
      wpAny (model prog w) (A.deeper (envOfC qual scope L' f cdv)) (execs body (envOfC qual scope L' f cdv))
        (fun fl s' => LeaveK h₀ L m g R (match fl with | .ret v => v | _ => .none) s')
        (fun e s' => wpAny (model prog w) (A.deeper (envOfC qual scope L' f cdv)) (leaving (envOfC qual scope L' f cdv) e) (fun _ s'' => R (.error e) s'') (fun e' s'' => R (.error e') s'') s')
        { s with heap := h₁, toks := tk })
    (hco : scope.isCoroutine = false := by rfl) (hgen : scope.isGenerator = false := by rfl) (hk : scope.kind = .function := by rfl) : codeAny (model prog w) A (.call (.ref f) args) R s := by
  obtain ⟨FG, BG, st, lv⟩ := groundX (R := R) B F N hA hf hke
  refine codeAny_call_function hroom ho hd hco hgen rfl hcd (hbind _ _ _ _ ?_)
  refine wpAny_with_toks (n := s.toks) (Nat.le_refl _) (wpAny_newFunctionEnv_cells hk (hkind _) fun env' he s' x htk => ?_)
  subst he
  refine ⟨(hlim.keeps F.keep).keeps x.toInCall.keep, codeAny_func ?_⟩
  obtain ⟨h₁, tk, rfl, _⟩ := x.done
  have hk₁ := x.toInCall.keep
  obtain ⟨cells, NC, Y⟩ := Cl.news (h₀ := s.heap) (Nat.le_refl _) fun n c hm => ⟨x.cell n c (lookup_of_mem_nodup (cellsFrom_names scope.names 0 (s.heap.objs.size + 1) [] [] rfl ▸ hnd) hm), x.above n c hm⟩
  refine wpAny_mono (h _ s.heap.objs.size h₁ tk cells FG ⟨x.toInCall.ns, fun b o e => hk₁ b o (of_hideAll _ e), Nat.le_of_eq (hideAll_size _ _)⟩ (fun p hp => ?_) Y BG st (fun p hp => Heap.lt_size (N p hp).1) htk) (fun fl s' hl => lv _ _ hl) fun _ _ y => y
  rcases List.mem_append.mp hp with hp | hp
  · refine ⟨(NC p hp).1, (NC p hp).2.1, ?_⟩
    cases q : (hideAll s.heap (news.map (·.1))).get? p.1 with
    | none => rfl
    | some o => have := of_hideAll _ q; rw [(NC p hp).2.2] at this; cases this
  · exact ⟨hk₁ _ _ (N p hp).1, Nat.ne_of_lt (Heap.lt_size (N p hp).1), hideAll_none _ (List.mem_map_of_mem hp)⟩
theorem code_defCT {K : Frag} {p : Program} {loose : List Str} {mean : ExcName → Option Value} {mg mb : Str → Option Value} {oc : Value} {od : Option Addr} {osl : Array (Option Value)} (B : Below A₀ base outer h₀) (F : Fr h₀ L s.heap m) (X₀ : K.In h₀) (N : News h₀ L s.heap news) (T : Top p loose mean mg mb h₀) (hA : A.frames = some (env :: outer)) (hf : env.frame = some L) (hke : env.scope.kind = .function)
    (ho : K.lookup f = some ⟨oc, od, .func (fnOf name qual params body scope dV kV doc pm an cdv ct), osl⟩) (hcd : codeIn K cdv qual = true) (hroom : A.depth < recursionLimit)
    (hbind : BindsTo s (fnOf name qual params body scope dV kV doc pm an cdv ct) args binds) (hkind : (binds.all fun y => scope.names.lookup y.1 == some .local || scope.names.lookup y.1 == some .cell) = true)
    (hnd : ((cellsFrom 0 scope.names []).map (·.1)).Nodup)
    (h : ∀ g L' h₁ tk cells, Fr h₀ L g m → Fr g L' h₁ (bindL (envOfC qual scope L' f cdv).kindOf binds fun _ => none) → News g L' h₁ (cells ++ news) →
      CellsAre (bindC (envOfC qual scope L' f cdv).kindOf binds fun _ => none) (cellsFrom (L' + 1) scope.names []) cells → Below A base (env :: outer) g → K.In g → Top p loose mean mg mb g → (∀ p ∈ news, p.1 < L') → s.toks ≤ tk →
      wpAny (model prog w) (A.deeper (envOfC qual scope L' f cdv)) (execs body (envOfC qual scope L' f cdv))
        (fun fl s' => LeaveK h₀ L m g R (match fl with | .ret v => v | _ => .none) s')
        (fun e s' => wpAny (model prog w) (A.deeper (envOfC qual scope L' f cdv)) (leaving (envOfC qual scope L' f cdv) e) (fun _ s'' => R (.error e) s'') (fun e' s'' => R (.error e') s'') s')
        { s with heap := h₁, toks := tk })
    (hco : scope.isCoroutine = false) (hgen : scope.isGenerator = false) (hk : scope.kind = .function) : codeAny (model prog w) A (.call (.ref f) args) R s :=
  enterT B F N T.nolimit hA hf hke ((X₀.keeps F.keep) _ _ ho) rfl (codeRec_of (X₀.keeps F.keep) hcd) hroom hbind (kindsX hkind) hnd (fun g L' h₁ tk cells FG F' N' Y B' st l ht => h g L' h₁ tk cells FG F' N' Y B' (X₀.keeps st) (T.keeps st) l ht) hco hgen hk
end
end
-- C11
section
section
variable {prog : Program} {w : World} {A : Around} {E : Value → Shared → Prop} {s : Shared}
inductive SliceK (g : Heap) (L : Addr) (Q : Value → Shared → Prop) (o vl vu : Value) (s₃ : Shared) : Prop
  | mk (l : Addr) (items : Array Value) (k : Nat) (lo hi : Option Int) (m : Str → Option Value) (news : Led)
    (q1 : o = .ref l) (q2 : Fr g L s₃.heap m) (q3 : News g L s₃.heap news) (q4 : (l, W.listOf items k) ∈ news) (q5 : items.size ≤ 1000) (q6 : IsPart vl lo) (q7 : IsPart vu hi) (q8 : ∀ D h', Fr g L h' m → News g L h' ((D, W.listOf (slicePick items lo hi none) 0) :: news) → (∀ p ∈ news, p.1 < D) → Q (.ref D) { s₃ with heap := h' }) : SliceK g L Q o vl vu s₃
/-- a slice of a list of the ledger -/
theorem slice_led {env : Env} {value : PySem.Expr} {lower upper : Option PySem.Expr} {p pos : Pos} {Q : Value → Shared → Prop} (g : Heap) (L : Addr)
    (h : wpAny (model prog w) A (eval value env) (fun o s₁ => wpAny (model prog w) A (evalPart lower env) (fun vl s₂ => wpAny (model prog w) A (evalPart upper env) (fun vu s₃ => SliceK g L Q o vl vu s₃) E s₂) E s₁) E s)
    (ht : ∀ o r, letTemporaryGo value o r = pure () := by intro _ _; rfl) : wpAny (model prog w) A (eval (.Subscript value (.Slice lower upper none p) pos) env) Q E s := by
  refine wpAny_Subscript_list_slice (wpAny_mono h (fun o s₁ h₁ => wpAny_mono h₁ (fun vl s₂ h₂ => wpAny_mono h₂ (fun vu s₃ h₃ => ?_) fun _ _ e => e) fun _ _ e => e) fun _ _ e => e) ht
  obtain ⟨l, items, k, lo, hi, m, news, rfl, F, N, hm, hz, pl, pu, hQ⟩ := h₃
  refine ⟨l, items, lo, hi, rfl, ⟨_, (N _ hm).1, rfl, _, rfl⟩, by rw [sizeLine_eq]; lia, pl, pu, ?_⟩
  have F1 := F.push { cls := .type "slice", data := .fields #[vl, vu, .none] }
  have N1 : News g L (s₃.heap.push { cls := .type "slice", data := .fields #[vl, vu, .none] }) news := fun p hp => ⟨Heap.get?_push_of_some _ (N p hp).1, (N p hp).2⟩
  have q := hQ _ _ (F1.push _) (N1.push F1 _) fun p hp => Heap.lt_size (N1 p hp).1
  rw [Heap.size_push] at q
  exact q
end
end
-- T1
section
theorem spec_add (w : World) (x y : Int) (tx ty : Tok) (news : Led) : Spec w 101 [.int x tx, .int y ty] news (fun r nw => nw = [] ∧ ∃ t, r = .int (x + y) t) := by
  w_on
  unfold Spec
  k_fill
  intros; rename_i hret
  refine wpAny_call ?_
  k_dflt cell_enter
  k_steps
  all_goals (refine hret _ [] _ _ ⟨rfl, _, rfl⟩ ?_ ?_ <;> k_asm)
end
-- T2
section
theorem spec_mul (w : World) (k : Int) (x : Str) (tx ty : Tok) (news : Led) (hk : k = 0 ∨ k = 1 ∨ k = 2) : Spec w 108 [.str ⟨#[32]⟩ tx, .int k ty] news (fun r nw => nw = [] ∧ ∃ t, r = .str ⟨Array.replicate k.toNat 32⟩ t) := by
  w_on
  unfold Spec
  k_fill
  rcases hk with rfl | rfl | rfl
  all_goals (
    intros; rename_i hret
    refine wpAny_call ?_
    k_dflt cell_enter
    k_steps)
  all_goals trace_state
  all_goals (refine hret _ [] _ _ ⟨rfl, _, rfl⟩ ?_ ?_ <;> k_asm)
end
-- T5
section
noncomputable def setKeys (es : List (Int × Value)) : List Int := es.map fun e => match e.2 with | .int k _ => k | _ => 0
noncomputable def setFine (es : List (Int × Value)) : Bool := es.all fun e => (match e.2 with | .int k _ => e.1 == hashInt k | _ => false) && e.2.scannable
theorem intset_obj (prog : Program) (w : World) {o : Obj} {es : Array (Int × Value)} {ep : Nat} {t : SetTable} {n : Nat} (hx : o.ExactSet) (hd : o.data = .set es ep t) (hf : setFine es.toList = true) (hn : es.size = n) (ht : t.fits es.size = true) :
    o.SetObjOf (intKind prog w) (fun k => (setKeys es.toList).contains k) n := by
  have H := List.all_eq_true.mp hf
  refine ⟨hx, es, ep, t, hd, fun e he => ?_, fun k => ?_, hn, ht⟩
  · have h := H e he
    rw [Bool.and_eq_true] at h
    refine ⟨?_, h.2⟩
    obtain ⟨a, v⟩ := e
    have h1 := h.1
    cases v with
    | int i tt => exact ⟨i, by simp [intKind, Value.isInt], by simpa [intKind] using h1⟩
    | _ => simp at h1
  · rw [List.contains_iff_mem]
    unfold setKeys
    rw [List.mem_map]
    refine exists_congr fun e => ⟨fun ⟨he, q⟩ => ⟨he, ?_⟩, fun ⟨he, q⟩ => ⟨he, ?_⟩⟩
    · have h := H e he
      rw [Bool.and_eq_true] at h
      obtain ⟨a, v⟩ := e
      have h1 := h.1
      cases v with
      | int i tt => simpa [intKind, Value.isInt] using q
      | _ => simp at h1
    · have h := H e he
      rw [Bool.and_eq_true] at h
      obtain ⟨a, v⟩ := e
      have h1 := h.1
      cases v with
      | int i tt => simpa [intKind, Value.isInt] using q
      | _ => simp at h1
theorem b1_set (prog : Program) (w : World) (P : Params) : ∃ S : Int → Bool, (o123 P).SetObjOf (intKind prog w) S 27 ∧ S 173 = true ∧ S 65024 = true ∧
    (∀ c ∈ [102, 105, 108, 70, 73, 76, 8497, 8464, 8466, 64257, 64258, 64259], S c = false) := by
  have H := intset_obj prog w (o := o123 P) (n := 27) ⟨rfl, rfl, rfl⟩ rfl (by rfl) (by rfl) (by rfl)
  exact ⟨_, H, by decide +kernel⟩
/-- what b3_exceptions holds -/
noncomputable def b3es (P : Params) : Array DictEntry := match (o134 P).data with | .dict es _ => es | _ => #[]
noncomputable def keysFine (es : List DictEntry) : Bool := es.all fun e => match e.key with | .int k _ => e.hash == hashInt k | _ => false
theorem keysOf_fine (prog : Program) (w : World) {es : Array DictEntry} (h : keysFine es.toList = true) : KeysOf (intKind prog w) es := by
  intro e he
  have h1 := List.all_eq_true.mp h e (Array.mem_toList_iff.mpr he)
  obtain ⟨a, v, x⟩ := e
  cases v with
  | int i tt => exact ⟨i, by simp [intKind, Value.isInt], by simpa [intKind] using h1⟩
  | _ => simp at h1
end
-- T3
section
noncomputable def drop (c : Nat) : Bool := c == 173 || c == 65024
noncomputable def Sign (c : Nat) : Prop := c ∈ [173, 65024, 102, 105, 108, 70, 73, 76, 8497, 8464, 8466, 64257, 64258, 64259]
theorem b1_set' (prog : Program) (w : World) (P : Params) : ∃ S : Int → Bool, (o123 P).SetObjOf (intKind prog w) S 27 ∧ ∀ c, Sign c → S c = drop c := by
  obtain ⟨S, h, h1, h2, h3⟩ := b1_set prog w P
  refine ⟨S, h, fun c hc => ?_⟩
  have h4 : ∀ c ∈ [173, 65024, 102, 105, 108, 70, 73, 76, 8497, 8464, 8466, 64257, 64258, 64259], S (c : Nat) = drop c := by
    intro c hc
    simp only [List.mem_cons, List.not_mem_nil, or_false] at hc h3
    rcases hc with rfl | rfl | rfl | rfl | rfl | rfl | rfl | rfl | rfl | rfl | rfl | rfl | rfl | rfl <;> first | exact h1 | exact h2 | exact h3 _ (by simp)
  exact h4 c hc
theorem spec_in (w : World) (c : Nat) (tx : Tok) (news : Led) (hc : Sign c) : Spec w 133 [.str ⟨#[c]⟩ tx] news (fun r nw => nw = [] ∧ r = .bool (drop c)) := by
  w_on
  unfold Spec
  k_fill
  intros; rename_i KX _ _ _ _ _ hret
  refine wpAny_call ?_
  k_dflt cell_enter
  k_steps
  · obtain ⟨S, hS, hv⟩ := b1_set' rr.prog w w.params
    refine in_argsetI (o := o123 w.params) (S := S) (n := 27) (by assumption) hS (KX.keeps (Fr.keep (by assumption)) 123 _ rfl) (by lia) ?_
    rw [hv c hc]
    k_steps
    refine hret _ [] _ _ ⟨rfl, rfl⟩ ?_ ?_ <;> k_asm
end
-- T6a
section
theorem es13_fine : keysFine es13.toArray.toList = true := by kernel_rfl
theorem map134 {prog : Program} {w : World} {h₀ h : Heap} {L : Addr} {m : Str → Option Value} (KX : (KK w.params).In h₀) (F : Fr h₀ L h m) : h.MapOf (intKind prog w) 134 (fun k => findBy Value.isInt es13.toArray k) :=
  ⟨o134 w.params, es13.toArray, 650, KX.keeps F.keep 134 _ rfl, ⟨rfl, rfl, rfl⟩, rfl, keysOf_fine prog w es13_fine, fun _ => rfl⟩
noncomputable def b3 (c : Nat) : Str := ⟨if c = 8497 then #[102] else if c = 8464 then #[105] else if c = 8466 then #[108] else if c = 64257 then #[102, 105] else if c = 64258 then #[102, 108] else if c = 64259 then #[102, 102, 105] else if c < 97 then #[c + 32] else #[c]⟩
noncomputable def isStr (v : Option Value) (x : Str) : Bool := match v with | some (.str y _) => y == x | _ => false
theorem isStr_out {v : Option Value} {x : Str} (h : isStr v x = true) : ∃ t, v = some (.str x t) := by
  unfold isStr at h
  split at h
  · exact ⟨_, by rw [eq_of_beq h]⟩
  · cases h
theorem findBy_list (l : List DictEntry) (k : Int) : findBy Value.isInt l.toArray k = (l.find? fun e => Value.isInt k e.key).map (·.val) := by
  unfold findBy; rw [List.find?_toArray]
theorem b3_there : ∀ c ∈ [8497, 8464, 8466, 64257, 64258, 64259], ∃ t, findBy Value.isInt es13.toArray ((c : Nat) : Int) = some (.str (b3 c) t) := by
  intro c hc
  rw [findBy_list]
  simp only [List.mem_cons, List.not_mem_nil, or_false] at hc
  rcases hc with rfl | rfl | rfl | rfl | rfl | rfl <;> exact isStr_out (by kernel_rfl)
/-- the key is no sign below 128 -/
noncomputable def highKey (v : Value) : Bool := match v with | .int (.ofNat n) _ => Nat.ble 128 n | _ => false
theorem es13_high : (es13.all fun e => highKey e.key) = true := by kernel_rfl
theorem b3_not : ∀ c ∈ [102, 105, 108, 70, 73, 76], findBy Value.isInt es13.toArray ((c : Nat) : Int) = none := by
  intro c hc
  have hlt : c < 128 := by
    simp only [List.mem_cons, List.not_mem_nil, or_false] at hc
    omega
  rw [findBy_list, Option.map_eq_none_iff, List.find?_eq_none]
  intro e he
  have := List.all_eq_true.mp es13_high e he
  revert this
  generalize e.key = v
  intro hv hk
  unfold highKey at hv
  split at hv
  · rename_i n u
    have h1 : 128 ≤ n := Nat.le_of_ble_eq_true hv
    have h2 : (Int.ofNat n) = (c : Int) := eq_of_beq hk
    have h3 : n = c := Int.ofNat.inj h2
    omega
  · cases hv
end
-- T6
section
theorem spec_b3a (w : World) (c : Nat) (tx : Tok) (news : Led) (hc : c ∈ [8497, 8464, 8466, 64257, 64258, 64259]) : Spec w 179 [.str ⟨#[c]⟩ tx] news (fun r nw => nw = [] ∧ ∃ t, r = .str (b3 c) t) := by
  w_on
  unfold Spec
  k_fill
  intros; rename_i KX _ _ _ _ _ hret
  refine wpAny_call ?_
  k_dflt cell_enter
  k_steps
  · rename Fr _ _ _ _ => F1
    rename Frag.In _ _ => X1
    have M := map134 (prog := rr.prog) X1 F1
    refine getMethod_builtin M.typeIs PySem.F.plainAttrs_dict PySem.F.slot_dict_get PySem.F.type_dict_get M.noDict ?_
    k_steps
    clear M
    rename Fr _ _ _ _ => F2
    have M := map134 (prog := rr.prog) X1 F2
    obtain ⟨tb, hb⟩ := b3_there c hc
    dsimp only [List.cons_append, List.nil_append]
    refine call_meetsIn PySem.F.slot_dict_get M.typeIs PySem.F.entry_dict_get (PySem.F.args_dict_get_2 _ _) (meets_dict_get (intKind rr.prog w) 134 (k := (c : Int)) ?hk rfl) ⟨_, M, ?_⟩
    case hk => simp [intKind, Value.isInt]
    rw [hb, Option.getD_some]
    k_steps
    refine hret _ [] _ _ ⟨rfl, _, rfl⟩ ?_ ?_ <;> k_asm
end
-- T7
section
theorem lower_b3 : ∀ c ∈ [102, 105, 108, 70, 73, 76], Txt.lower ⟨#[c]⟩ = b3 c ∧ Builtin.Str.tooLong (Txt.lower ⟨#[c]⟩).length = false := by
  intro c hc
  simp only [List.mem_cons, List.not_mem_nil, or_false] at hc
  rcases hc with rfl | rfl | rfl | rfl | rfl | rfl <;> exact ⟨by kernel_rfl, by kernel_rfl⟩
theorem spec_b3b (w : World) (c : Nat) (tx : Tok) (news : Led) (hc : c ∈ [102, 105, 108, 70, 73, 76]) : Spec w 179 [.str ⟨#[c]⟩ tx] news (fun r nw => nw = [] ∧ ∃ t, r = .str (b3 c) t) := by
  w_on
  unfold Spec
  k_fill
  intros; rename_i KX _ _ _ _ _ hret
  refine wpAny_call ?_
  k_dflt cell_enter
  k_steps
  · rename Fr _ _ _ _ => F1
    rename Frag.In _ _ => X1
    have M := map134 (prog := rr.prog) X1 F1
    refine getMethod_builtin M.typeIs PySem.F.plainAttrs_dict PySem.F.slot_dict_get PySem.F.type_dict_get M.noDict ?_
    k_steps
    clear M
    rename Fr _ _ _ _ => F2
    have M := map134 (prog := rr.prog) X1 F2
    have hb := b3_not c hc
    dsimp only [List.cons_append, List.nil_append]
    refine call_meetsIn PySem.F.slot_dict_get M.typeIs PySem.F.entry_dict_get (PySem.F.args_dict_get_2 _ _) (meets_dict_get (intKind rr.prog w) 134 (k := (c : Int)) ?hk rfl) ⟨_, M, ?_⟩
    case hk => simp [intKind, Value.isInt]
    rw [hb, Option.getD_none]
    k_steps
    refine KXw.lower (lower_b3 c hc).1 (lower_b3 c hc).2 fun _ _ => ?_
    k_steps
    refine hret _ [] _ _ ⟨rfl, _, rfl⟩ ?_ ?_ <;> k_asm
end
-- T4
section
noncomputable def aheadS (q : Int) : Str := ⟨if q = 0 then #[] else if q = 1 then #[173] else #[65024]⟩
theorem tup_item {prog : Program} {w : World} {A : Around} {E : Value → Shared → Prop} {s : Shared} {value slice : PySem.Expr} {l : Addr} {vs : Array Value} {i : Int} {u : Tok} {Q : Value → Shared → Prop} {x : Value} (ht : IsTup s.heap l vs) (h0 : 0 ≤ i) (h1 : i < 1000000) (hx : vs[i.toNat]? = some x)
    (h : Q x s) (hs : subscripted slice false (.ref l) (.int i u) = operate [.ref l, .int i u] (getItem (.ref l) (.int i u)) := by with_unfolding_all rfl) : wpAny (model prog w) A (subscriptTail value slice (.ref l) (.int i u)) Q E s := by
  have hn : i < ((vs.size : Nat) : Int) := by
    have := (Array.getElem?_eq_some_iff.mp hx).1
    lia
  exact tail_any ht.typeIs slot_tuple_getitem.lookup (getItem_tuple ht (by lia) (by lia) (seqIndex_of h0 hn) hx h) hs
theorem tup_item3 {prog : Program} {w : World} {A : Around} {E : Value → Shared → Prop} {s : Shared} {value slice : PySem.Expr} {l : Addr} {i : Int} {u t1 t2 t3 : Tok} {Q : Value → Shared → Prop} {a b c : Str} (ht : IsTup s.heap l #[.str a t1, .str b t2, .str c t3]) (h0 : 0 ≤ i) (h1 : i < 3)
    (h : ∀ t, Q (.str (if i = 0 then a else if i = 1 then b else c) t) s) (hs : subscripted slice false (.ref l) (.int i u) = operate [.ref l, .int i u] (getItem (.ref l) (.int i u)) := by with_unfolding_all rfl) : wpAny (model prog w) A (subscriptTail value slice (.ref l) (.int i u)) Q E s := by
  have hx : ∃ t, (#[.str a t1, .str b t2, .str c t3] : Array Value)[i.toNat]? = some (.str (if i = 0 then a else if i = 1 then b else c) t) := by
    have h3 : i = 0 ∨ i = 1 ∨ i = 2 := by lia
    rcases h3 with rfl | rfl | rfl <;> exact ⟨_, rfl⟩
  obtain ⟨t, hx⟩ := hx
  exact tup_item ht h0 (by lia) hx (h t) hs
noncomputable def letterC (r : Int) : Nat := [102, 105, 108, 70, 73, 76, 8497, 8464, 8466, 64257, 64258, 64259].getD r.toNat 0
noncomputable def typedS (n : Int) : Str := aheadS ((n.fdiv 12).fmod 3) ++ ⟨#[letterC (n.fmod 12)]⟩
theorem letter_lo {r : Int} (h0 : 0 ≤ r) (h1 : r < 6) : Txt.item (Str.ofString "filFIL") r = ⟨#[letterC r]⟩ := by
  obtain ⟨k, rfl⟩ := Int.eq_ofNat_of_zero_le h0
  have h2 : k < 6 := Int.ofNat_lt.mp h1
  match k, h2 with
  | 0, _ | 1, _ | 2, _ | 3, _ | 4, _ | 5, _ => rfl
theorem letter_hi {r : Int} (h0 : ¬ r < 6) (h1 : r < 12) : [8497, 8464, 8466, 64257, 64258, 64259].getD (r - 6).toNat (0 : Int) = (letterC r : Int) := by
  obtain ⟨k, rfl⟩ := Int.eq_ofNat_of_zero_le (Int.le_trans (by decide) (Int.not_lt.mp h0))
  have h2 : k < 12 := Int.ofNat_lt.mp h1
  have h3 : 6 ≤ k := Int.ofNat_le.mp (Int.not_lt.mp h0)
  obtain ⟨k, rfl⟩ := Nat.exists_eq_add_of_le h3
  match k, Nat.lt_of_add_lt_add_left (show 6 + k < 6 + 6 from h2) with
  | 0, _ | 1, _ | 2, _ | 3, _ | 4, _ | 5, _ => rfl
theorem letter_bd {r : Int} : letterC r ≤ 64259 := by
  unfold letterC
  by_cases h : r.toNat < 12
  · have key : ∀ k < 12, [102, 105, 108, 70, 73, 76, 8497, 8464, 8466, 64257, 64258, 64259].getD k 0 ≤ 64259 := by decide
    exact key _ h
  · rw [List.getD_eq_getElem?_getD, List.getElem?_eq_none (Nat.le_of_not_lt h)]; decide
theorem aheadS_len (q : Int) : (aheadS q).length ≤ 1 := by
  unfold aheadS
  split
  · decide
  · split <;> decide
theorem line_small {a b : Nat} (ha : a ≤ 1000000) (hb : b ≤ 1000000) : a + b ≤ sizeLine := by rw [sizeLine_eq]; lia
theorem aheadS_of (i : Int) : (if i = 0 then (Str.ofString "") else if i = 1 then (Str.ofString "\u00ad") else ⟨#[Int.toNat 65024]⟩) = aheadS i := by
  unfold aheadS
  split
  · rfl
  · split <;> rfl
theorem spec_typed (w : World) (n : Int) (tx : Tok) (news : Led) (hn : 0 ≤ n ∧ n < 1000000) : Spec w 186 [.int n tx] news (fun r nw => nw = [] ∧ ∃ t, r = .str (typedS n) t) := by
  w_on
  unfold Spec
  k_fill
  intros; rename_i hret
  refine wpAny_call ?_
  k_dflt cell_enter
  walk_at "steps to subscriptTail"
  · rename News _ _ _ _ => N1
    have h0 : 0 ≤ (n.fdiv 12).fmod 3 := Int.fmod_nonneg_of_pos _ (by decide)
    have h1 : (n.fdiv 12).fmod 3 < 3 := Int.fmod_lt_of_pos _ (by decide)
    refine tup_item3 ⟨_, (N1 _ List.mem_cons_self).1, rfl, _, rfl⟩ h0 h1 fun t => ?_
    rw [aheadS_of]
    walk_at "steps to subscriptTail"
    · walk_at "steps"
      rw [letter_lo (Int.fmod_nonneg_of_pos _ (by decide)) (by assumption)]
      refine SB.add (fun _ _ => ?_) (line_small (Nat.le_trans (aheadS_len _) (by decide)) (by show 1 ≤ _; decide))
      walk_at "steps"
      refine hret _ [] _ _ ⟨rfl, _, rfl⟩ ?_ ?_
      · k_asm
      · refine' cb_drop ?cbN ?cbS; (case cbN => assumption); (case cbS => (intro p hp; repeat (first | exact hp | apply List.mem_cons_of_mem | apply List.mem_append_right)))
    · walk_at "steps"
      rw [letter_hi (by lia) (Int.fmod_lt_of_pos _ (by decide))]
      refine chr_of_range (Int.natCast_nonneg _) (Int.le_trans (Int.ofNat_le.mpr letter_bd) (by decide)) ?_
      refine SB.add (fun _ _ => ?_) (line_small (Nat.le_trans (aheadS_len _) (by decide)) (by show 1 ≤ _; decide))
      try dsimp only
      walk_at "steps"
      refine hret _ [] _ _ ⟨rfl, _, rfl⟩ ?_ ?_
      · k_asm
      · refine' cb_drop ?cbN ?cbS; (case cbN => assumption); (case cbS => (intro p hp; repeat (first | exact hp | apply List.mem_cons_of_mem | apply List.mem_append_right)))
end
-- T8
section
theorem tup_itemS {prog : Program} {w : World} {A : Around} {E : Value → Shared → Prop} {s : Shared} {value slice : PySem.Expr} {l : Addr} {vs : Array Value} {i : Int} {u : Tok} {Q : Value → Shared → Prop} {x : Str} (ht : IsTup s.heap l vs) (h0 : 0 ≤ i) (h1 : i < 1000000) (hx : ∃ t, vs[i.toNat]? = some (.str x t))
    (h : ∀ t, Q (.str x t) s) (hs : subscripted slice false (.ref l) (.int i u) = operate [.ref l, .int i u] (getItem (.ref l) (.int i u)) := by with_unfolding_all rfl) : wpAny (model prog w) A (subscriptTail value slice (.ref l) (.int i u)) Q E s := by
  obtain ⟨t, hx⟩ := hx
  exact tup_item ht h0 h1 hx (h t) hs
noncomputable def meantS (r : Int) : Str := ⟨[#[102], #[105], #[108], #[102], #[105], #[108], #[102], #[105], #[108], #[102, 105], #[102, 108], #[102, 102, 105]].getD r.toNat #[]⟩
theorem spec_meant (w : World) (n : Int) (tx : Tok) (news : Led) (hn : 0 ≤ n ∧ n < 1000000) : Spec w 193 [.int n tx] news (fun r nw => nw = [] ∧ ∃ t, r = .str (meantS (n.fmod 12)) t) := by
  w_on
  unfold Spec
  k_fill
  intros; rename_i hret
  refine wpAny_call ?_
  k_dflt cell_enter
  walk_at "steps to subscriptTail"
  rename News _ _ _ _ => N1
  have h0 : 0 ≤ n.fmod 12 := Int.fmod_nonneg_of_pos _ (by decide)
  have h1 : n.fmod 12 < 12 := Int.fmod_lt_of_pos _ (by decide)
  refine tup_itemS (x := meantS (n.fmod 12)) ⟨_, (N1 _ List.mem_cons_self).1, rfl, _, rfl⟩ h0 (by lia) ?_ fun t => ?_
  · obtain ⟨k, hk⟩ := Int.eq_ofNat_of_zero_le h0
    rw [hk] at h1 ⊢
    have h2 : k < 12 := Int.ofNat_lt.mp h1
    clear hk h0 h1
    match k, h2 with
    | 0, _ | 1, _ | 2, _ | 3, _ | 4, _ | 5, _ | 6, _ | 7, _ | 8, _ | 9, _ | 10, _ | 11, _ => exact ⟨_, rfl⟩
  walk_at "steps"
  refine hret _ [] _ _ ⟨rfl, _, rfl⟩ ?_ ?_
  · k_asm
  · refine' cb_drop ?cbN ?cbS; (case cbN => assumption); (case cbS => (intro p hp; repeat (first | exact hp | apply List.mem_cons_of_mem | apply List.mem_append_right)))
end
-- T9
section
noncomputable def prepL (l : List Nat) : List Str := (l.filter fun c => !drop c).map b3
theorem take_snoc {l : Array Nat} {i c : Nat} (h : l[i]? = some c) : l.toList.take (i + 1) = l.toList.take i ++ [c] := by
  rw [List.take_add_one, Array.getElem?_toList, h]; rfl
theorem prepL_yes {l : List Nat} {c : Nat} (h : drop c = true) : prepL (l ++ [c]) = prepL l := by simp [prepL, h]
theorem prepL_no {l : List Nat} {c : Nat} (h : drop c = false) : prepL (l ++ [c]) = prepL l ++ [b3 c] := by simp [prepL, h]
theorem strs_snoc {x : Str} {t : Tok} : ∀ {vs : List Value} {ys : List Str}, StrsAre vs ys → StrsAre (vs ++ [.str x t]) (ys ++ [x])
  | _, _, .nil => .cons x t .nil
  | _, _, .cons y u h => .cons y u (strs_snoc h)
theorem strs_len : ∀ {vs : List Value} {ys : List Str}, StrsAre vs ys → vs.length = ys.length
  | _, _, .nil => rfl
  | _, _, .cons _ _ h => by rw [List.length_cons, List.length_cons, strs_len h]
theorem prepL_len (l : List Nat) : (prepL l).length ≤ l.length := by
  unfold prepL
  rw [List.length_map]
  exact List.length_filter_le _ _
theorem spec_b3 (w : World) (c : Nat) (tx : Tok) (news : Led) (hc : Sign c) (hd : drop c = false) : Spec w 179 [.str ⟨#[c]⟩ tx] news (fun r nw => nw = [] ∧ ∃ t, r = .str (b3 c) t) := by
  by_cases h : c ∈ [8497, 8464, 8466, 64257, 64258, 64259]
  · exact spec_b3a w c tx news h
  · refine spec_b3b w c tx news ?_
    have key : ∀ c ∈ [173, 65024, 102, 105, 108, 70, 73, 76, 8497, 8464, 8466, 64257, 64258, 64259], drop c = false → c ∈ [8497, 8464, 8466, 64257, 64258, 64259] ∨ c ∈ [102, 105, 108, 70, 73, 76] := by decide
    exact (key c hc hd).resolve_left h
noncomputable def cat (ys : List Str) : Str := ⟨(ys.flatMap (·.cps.toList)).toArray⟩
theorem join_cat' : ∀ ys : List Str, Str.join (Str.ofString "") ys = cat ys
  | [] => rfl
  | [x] => by
    show x = _
    unfold cat
    simp
  | x :: y :: r => by
    have ih := join_cat' (y :: r)
    show x ++ (Str.ofString "") ++ Str.join (Str.ofString "") (y :: r) = _
    rw [ih]
    unfold cat
    have e : (Str.ofString "") = ⟨#[]⟩ := rfl
    rw [e]
    show (⟨x.cps ++ #[] ++ _⟩ : Str) = _
    simp
theorem join_cat (ys : List Str) : Txt.join (Str.ofString "") ys = cat ys := (eq_of_beq (join_plain_closes _ _)).trans (join_cat' ys)
theorem b3_len (c : Nat) : (b3 c).length ≤ 3 := by
  unfold b3 Str.length
  repeat' split
  all_goals first | (show 1 ≤ 3; decide) | (show 2 ≤ 3; decide) | (show 3 ≤ 3; decide)
theorem prepL_wt (l : List Nat) : ((prepL l).map (·.length)).sum ≤ 3 * l.length := by
  induction l with
  | nil => exact Nat.le_refl _
  | cons c r ih =>
    have h := b3_len c
    by_cases hd : drop c = true
    · have e : prepL (c :: r) = prepL r := by simp [prepL, hd]
      rw [e, List.length_cons]; lia
    · have e : prepL (c :: r) = b3 c :: prepL r := by simp [prepL, hd]
      rw [e, List.map_cons, List.sum_cons, List.length_cons]; lia
theorem spec_prep (w : World) (x : Str) (tx : Tok) (news : Led) (hx : ∀ c ∈ x.cps.toList, Sign c) (hl : x.cps.size ≤ 100) : Spec w 198 [.str x tx] news (fun r nw => nw = [] ∧ ∃ t, r = .str (cat (prepL x.cps.toList)) t) 60 512 := by
  w_on
  unfold Spec
  k_fill
  intros; rename_i hret
  refine wpAny_call ?_
  k_dflt cell_enter
  walk_at "steps to block"
  rename Fr _ _ _ _ => F1
  rename News _ _ _ _ => N1
  refine ListComp_T F1 (by with_unfolding_all rfl) (by decide) (by with_unfolding_all rfl) (by decide) ?_
  walk_at "steps"
  refine block_str (by rfl) (by rfl) (by with_unfolding_all rfl) F1 N1 (Nat.le_trans hl (by decide)) (fun i ys nw => nw = news ∧ StrsAre ys (prepL (x.cps.toList.take i))) ⟨rfl, ?_⟩ ?_ ?_ ?_
  · exact .nil
  · intro i c u oC C D I m₂ ys news₁ h tk own E' hc hm _ _ hJ hown hoC F2 N2 hCD hoff g
    refine wpAny_tests_one ?_
    walk_at "steps to call"
    have hs : Sign c := hx c (Array.mem_toList_iff.mpr (Array.mem_of_getElem? hc))
    refine (spec_in w c u _ hs).use (by k_asm) F2 (by k_asm) N2 (by k_asm) rfl (by ktr_room) (by ktr_units) ?_
    rintro r nw h1 tk1 ⟨rfl, rfl⟩ F3 N3
    dsimp only [List.nil_append] at N3
    walk_at "steps"
    · refine ⟨_, _, _, rfl, F3, N3, hoff, hJ.1, ?_⟩
      rw [take_snoc hc, prepL_yes (by assumption)]
      exact hJ.2
    · have hd : drop c = false := by simp_all
      refine (spec_b3 w c u _ hs hd).use (by k_asm) F3 (by k_asm) N3 (by k_asm) rfl (by ktr_room) (by ktr_units) ?_
      rintro r nw h2 tk2 ⟨rfl, t2, rfl⟩ F4 N4
      refine ⟨_, _, _, rfl, F4, N4, hoff, hJ.1, ?_⟩
      rw [take_snoc hc, prepL_no hd]
      exact strs_snoc hJ.2
  · rintro i ys nw ⟨_, h⟩
    rw [strs_len h]
    exact Nat.le_trans (prepL_len _) (List.length_take_le _ _)
  · rintro g ys nw ⟨rfl, h⟩
    intro D h3 tk3 F5 N5 hD
    rw [← Array.length_toList, List.take_length] at h
    walk_at "steps"
    refine join_list (D := D) ⟨_, (N5 _ List.mem_cons_self).1, rfl, _, rfl⟩ h ?_ fun t4 k4 => ?_
    · have h1 := prepL_wt x.cps.toList
      have h2 := prepL_len x.cps.toList
      rw [Array.length_toList] at h1 h2
      have h3 : (Str.ofString "").length = 0 := rfl
      rw [h3]
      lia
    dsimp only
    walk_at "steps"
    refine hret _ [] _ _ ⟨rfl, t4, ?_⟩ ?_ ?_
    · exact congrArg (fun z => Value.str z t4) (join_cat _)
    · k_asm
    · refine' cb_drop ?cbN ?cbS; (case cbN => assumption); (case cbS => (intro p hp; repeat (first | exact hp | apply List.mem_cons_of_mem | apply List.mem_append_right)))
end
-- T10
section
local macro_rules | `(tactic| k_all) => `(tactic| assumption)
/-- the frame of __init__ in its loop -/
noncomputable def wsM (x' : Addr) (ws : Str) (tx : Tok) (uch : Option Value) (vnt vn vb vc : Value) : Str → Option Value := fun y =>
  if y = Str.ofString "ch" then uch else if y = Str.ofString "nt" then some vnt else if y = Str.ofString "n" then some vn else if y = Str.ofString "b" then some vb else if y = Str.ofString "count" then some vc
  else if y = Str.ofString "S" then some (.str (Str.ofString " ") 209) else if y = Str.ofString "T" then some (.str (Str.ofString "\t") 210) else if y = Str.ofString "self" then some (.ref x') else if y = Str.ofString "ws" then some (.str ws tx) else none
noncomputable def bump : Nat → List Int → List Int
  | 0, [] => [1]
  | 0, c :: r => (c + 1) :: r
  | b + 1, [] => 0 :: bump b []
  | b + 1, c :: r => c :: bump b r
structure WSt where
  n : Nat
  b : Nat
  nt : Nat
  cnt : List Int
noncomputable def scan1 (σ : WSt) (c : Nat) : WSt := if c = 32 then ⟨σ.n + 1, σ.b + 1, σ.nt, σ.cnt⟩ else ⟨σ.n + 1, 0, σ.nt + 1, bump σ.b σ.cnt⟩
noncomputable def scan (l : List Nat) : WSt := l.foldl scan1 ⟨0, 0, 0, []⟩
inductive WsS (x' d' : Addr) (ws : Str) (tx tr : Tok) (P : Params) (news : Led) (σ : WSt) (m : Str → Option Value) (nw : Led) : Prop
  | mk (uch : Option Value) (t1 t2 t3 : Tok) (a : Addr) (vs : List Value) (k : Nat)
    (q1 : (∀ p ∈ (x', instObj 83 d') :: (d', dictOf [{ hash := PyData.keyHash P (Str.ofString "raw"), key := .str (Str.ofString "raw") tr, val := .str ws tx }] 1) :: news, p.1 ≠ a)) (q2 : IntsAre vs σ.cnt) (q3 : m = wsM x' ws tx uch (.int σ.nt t1) (.int σ.n t2) (.int σ.b t3) (.ref a)) (q4 : nw = (a, W.listOf vs.toArray k) :: (x', instObj 83 d') :: (d', dictOf [{ hash := PyData.keyHash P (Str.ofString "raw"), key := .str (Str.ofString "raw") tr, val := .str ws tx }] 1) :: news) : WsS x' d' ws tx tr P news σ m nw
noncomputable def WsJ (x' d' : Addr) (ws : Str) (tx tr : Tok) (P : Params) (news : Led) (l : List Nat) (i : Nat) (m : Str → Option Value) (nw : Led) : Prop := WsS x' d' ws tx tr P news (scan (l.take i)) m nw
theorem ws_start {x' : Addr} {ws : Str} {tx tk : Tok} {a : Addr} {R : Str → Option Value} (h0 : R (Str.ofString "ch") = none)
    (hR : ∀ y, y ≠ Str.ofString "ch" → R y = if y = Str.ofString "S" then some (.str (Str.ofString " ") 209) else if y = Str.ofString "T" then some (.str (Str.ofString "\t") 210) else if y = Str.ofString "self" then some (.ref x') else if y = Str.ofString "ws" then some (.str ws tx) else none) :
    (fun y => if y = Str.ofString "nt" then some (Value.int 0 tk) else if y = Str.ofString "n" then some (Value.int 0 tk) else if y = Str.ofString "b" then some (Value.int 0 tk) else if y = Str.ofString "count" then some (Value.ref a) else R y) = wsM x' ws tx none (.int 0 tk) (.int 0 tk) (.int 0 tk) (.ref a) := by
  funext y
  unfold wsM
  by_cases h1 : y = Str.ofString "ch"
  · subst h1; exact h0
  · simp only [if_neg h1, hR y h1]
theorem ws_blank {x' : Addr} {ws : Str} {tx : Tok} {uch : Option Value} {v vnt vn vb vc vn' vb' : Value} :
    (fun y => if y = Str.ofString "b" then some vb' else if y = Str.ofString "n" then some vn' else if y = Str.ofString "ch" then some v else wsM x' ws tx uch vnt vn vb vc y) = wsM x' ws tx (some v) vnt vn' vb' vc := by
  funext y
  unfold wsM
  by_cases h1 : y = Str.ofString "ch"
  · subst h1; rfl
  by_cases h2 : y = Str.ofString "nt"
  · subst h2; rfl
  by_cases h3 : y = Str.ofString "n"
  · subst h3; rfl
  by_cases h4 : y = Str.ofString "b"
  · subst h4; rfl
  simp only [if_neg h1, if_neg h2, if_neg h3, if_neg h4]
theorem scan_snoc (l : List Nat) (c : Nat) : scan (l ++ [c]) = scan1 (scan l) c := by
  unfold scan
  rw [List.foldl_append]; rfl
theorem news_swap {h₀ h : Heap} {L : Addr} {l₁ l₂ : Led} (N : News h₀ L h (l₁ ++ l₂)) : News h₀ L h (l₂ ++ l₁) := fun p hp => N p (List.mem_append.mpr ((List.mem_append.mp hp).symm))
theorem drop2 {h₀ h : Heap} {L : Addr} {a b : Addr × Obj} {r : Led} (N : News h₀ L h (a :: b :: r)) : News h₀ L h (a :: r) := fun p hp => N p (by rcases List.mem_cons.mp hp with rfl | hp; exact List.mem_cons_self; exact List.mem_cons_of_mem _ (List.mem_cons_of_mem _ hp))
theorem ws_tab1 {x' : Addr} {ws : Str} {tx : Tok} {uch : Option Value} {v vnt vn vb vc vnt' vn' vb' vc' : Value} :
    (fun y => if y = Str.ofString "b" then some vb' else if y = Str.ofString "count" then some vc' else if y = Str.ofString "nt" then some vnt' else if y = Str.ofString "n" then some vn' else if y = Str.ofString "ch" then some v else wsM x' ws tx uch vnt vn vb vc y) = wsM x' ws tx (some v) vnt' vn' vb' vc' := by
  funext y
  unfold wsM
  by_cases h1 : y = Str.ofString "ch"
  · subst h1; rfl
  by_cases h2 : y = Str.ofString "nt"
  · subst h2; rfl
  by_cases h3 : y = Str.ofString "n"
  · subst h3; rfl
  by_cases h4 : y = Str.ofString "b"
  · subst h4; rfl
  by_cases h5 : y = Str.ofString "count"
  · subst h5; rfl
  simp only [if_neg h1, if_neg h2, if_neg h3, if_neg h4, if_neg h5]
theorem ws_tab0 {x' : Addr} {ws : Str} {tx : Tok} {uch : Option Value} {v vnt vn vb vc vnt' vn' vb' : Value} :
    (fun y => if y = Str.ofString "b" then some vb' else if y = Str.ofString "nt" then some vnt' else if y = Str.ofString "n" then some vn' else if y = Str.ofString "ch" then some v else wsM x' ws tx uch vnt vn vb vc y) = wsM x' ws tx (some v) vnt' vn' vb' vc := by
  funext y
  unfold wsM
  by_cases h1 : y = Str.ofString "ch"
  · subst h1; rfl
  by_cases h2 : y = Str.ofString "nt"
  · subst h2; rfl
  by_cases h3 : y = Str.ofString "n"
  · subst h3; rfl
  by_cases h4 : y = Str.ofString "b"
  · subst h4; rfl
  simp only [if_neg h1, if_neg h2, if_neg h3, if_neg h4]
theorem allLt_mem {d : Addr} : ∀ (l : Led), AllLt d l → ∀ p ∈ l, p.1 < d
  | [], _, _, hp => nomatch hp
  | _ :: l, h, p, hp => (List.mem_cons.mp hp).elim (fun e => e ▸ h.1) fun hp => allLt_mem l h.2 p hp
theorem allLt_ne {d I : Addr} {oI : Obj} {news : Led} (h : AllLt d (news ++ [(I, oI)])) : d ≠ I := by
  have q : I < d := allLt_mem _ h (I, oI) (List.mem_append_right _ List.mem_cons_self)
  intro e
  rw [e] at q
  exact Nat.lt_irrefl _ q
theorem allLt2 {x1 x2 D : Addr} {o1 o2 : Obj} {l : Led} (h : x1 < D ∧ x2 < D ∧ AllLt D l) : ∀ p ∈ (x1, o1) :: (x2, o2) :: l, p.1 ≠ D := fun p hp => by
  have q : AllLt D ((x1, o1) :: (x2, o2) :: l) := h
  exact Nat.ne_of_lt (allLt_mem _ q p hp)
section
local macro_rules | `(tactic| walk_at "eval Name") => `(tactic| (k_here; k_dflt (refine' nameX_L ?F ?v ?_ ?a ?b; (case F => k_asm); (case a => rfl); (case b => rfl); (case v => assumption); k_whole)))
noncomputable def tabM (m : Str → Option Value) (vnt vn vb vc : Value) : Str → Option Value := fun y =>
  if y = Str.ofString "b" then some vb else if y = Str.ofString "count" then some vc else if y = Str.ofString "nt" then some vnt else if y = Str.ofString "n" then some vn else m y
noncomputable def forB : Stmt → Option (List Stmt)
  | .For _ _ b _ _ => some b
  | _ => none
noncomputable def wsB : List Stmt := ((B2m1.findSome? forB)).getD []
theorem bump_set : ∀ (b : Nat) (cnt : List Int), b < cnt.length → bump b cnt = cnt.set b (cnt.getD b 0 + 1)
  | 0, c :: r, _ => rfl
  | b + 1, c :: r, h => by
    show c :: bump b r = c :: r.set b (r.getD b 0 + 1)
    rw [bump_set b r (Nat.lt_of_succ_lt_succ h)]
theorem bump_ext : ∀ (b : Nat) (cnt : List Int), cnt.length ≤ b → bump b (cnt ++ List.replicate (b - cnt.length + 1) 0) = bump b cnt
  | 0, [], _ => rfl
  | b + 1, [], _ => by
    show bump (b + 1) (List.replicate (b + 1 + 1) 0) = 0 :: bump b []
    rw [List.replicate_succ]
    show 0 :: bump b (List.replicate (b + 1) 0) = 0 :: bump b []
    have := bump_ext b [] (Nat.zero_le _)
    rw [List.nil_append, List.length_nil, Nat.sub_zero] at this
    rw [this]
  | b + 1, c :: r, h => by
    have h' := Nat.le_of_succ_le_succ h
    have := bump_ext b r h'
    show c :: bump b (r ++ List.replicate (b + 1 - (r.length + 1) + 1) 0) = c :: bump b r
    rw [Nat.add_sub_add_right, this]
theorem flat_rep : ∀ k : Nat, (List.replicate k [(0 : Int)]).flatten = List.replicate k 0
  | 0 => rfl
  | k + 1 => by rw [List.replicate_succ, List.flatten_cons, flat_rep k]; rfl
theorem tabM_same {m : Str → Option Value} {vnt vn vb vc : Value} (hc : m (Str.ofString "count") = some vc) :
    (fun y => if y = Str.ofString "b" then some vb else if y = Str.ofString "nt" then some vnt else if y = Str.ofString "n" then some vn else m y) = tabM m vnt vn vb vc := by
  funext y
  unfold tabM
  by_cases h1 : y = Str.ofString "count"
  · subst h1; exact hc
  · simp only [if_neg h1]
theorem ws_tab (w : World) (a : Addr) (vs : List Value) (cnt : List Int) (kc b n nt : Nat) (u t1 t2 t3 uS uT : Tok) (rest : Led) (hvs : IntsAre vs cnt) (hlen : cnt.length ≤ 3) (hb2 : b ≤ 2) (hna : ∀ p ∈ rest, p.1 ≠ a) (ah : Args)
    (mean : ExcName → Option Value) (mg mb : Str → Option Value) (dp un : Nat) (gd : Option (List Code)) (cn : Str) (cs : Scope) (a' : Addr) (ccd : Value) (cl : List (Str × Addr)) (outer : List Env) (base g : Heap) (L L' : Addr)
    (m : Str → Option Value) (s : Shared) (Q : Flow → Shared → Prop) (E : Value → Shared → Prop)
    (hch : m (Str.ofString "ch") = some (.str ⟨#[9]⟩ u)) (hS : m (Str.ofString "S") = some (.str (Str.ofString " ") uS)) (hT : m (Str.ofString "T") = some (.str (Str.ofString "\t") uT)) (hn : m (Str.ofString "n") = some (.int n t2)) (hnt : m (Str.ofString "nt") = some (.int nt t1)) (hbb : m (Str.ofString "b") = some (.int b t3)) (hc : m (Str.ofString "count") = some (.ref a)) :
    Below ((ktrTop dp un gd cn cs L a' ccd cl outer).under (Code.builtin "type.__call__" ah)) base (envX cn cs L a' ccd cl :: outer) g → Fr g L' s.heap m → (KK w.params).In g → News g L' s.heap ((a, W.listOf vs.toArray kc) :: rest) → Top qv (looseW qv loose) mean mg mb g → cs.kind = .function →
    dp + 50 < recursionLimit → un + 400 < cLine →
    (∀ h' tk a2 vs' k' t1' t2' t3', IntsAre vs' (bump b cnt) → (∀ p ∈ rest, p.1 ≠ a2) → Fr g L' h' (tabM m (.int ((nt : Int) + 1) t1') (.int ((n : Int) + 1) t2') (.int 0 t3') (.ref a2)) → News g L' h' ((a2, W.listOf vs'.toArray k') :: rest) → Q .next { s with heap := h', toks := tk }) →
      wpAny (model rr.prog w) (((ktrTop dp un gd cn cs L a' ccd cl outer).under (Code.builtin "type.__call__" ah)).deeper (envOf (Str.ofString "Whitespace.__init__") C2m1 L' 38 (.ref 37))) (execs wsB (envOf (Str.ofString "Whitespace.__init__") C2m1 L' 38 (.ref 37))) Q E s := by
  w_on
  k_fill
  intro B' F X' N T' hk hd hu hQ
  walk_at "steps"
  · rename IntsAre (List.set _ _ _) _ => hi'
    rename Fr _ _ _ _ => F8
    rename News _ _ _ _ => N8
    rename _ ∧ _ ∧ _ ∧ AllLt _ rest => ll
    rename _ ≤ (b : Int) => hle
    have hle' : cnt.length ≤ b := Int.ofNat_le.mp hle
    have e1 : ((b : Int) - (cnt.length : Int) + 1).toNat = b - cnt.length + 1 := by lia
    rw [e1, flat_rep, Int.toNat_natCast, ← bump_set _ _ (by rw [List.length_append, List.length_replicate]; lia), bump_ext _ _ hle'] at hi'
    simp only [e1, flat_rep, Int.toNat_natCast] at N8
    refine hQ _ _ _ _ 0 _ _ _ hi' (fun p hp => Nat.ne_of_lt (allLt_mem rest ll.2.2.2 p hp)) F8 ?_
    intro e he
    rcases List.mem_cons.mp he with rfl | he
    · exact N8 _ List.mem_cons_self
    · exact N8 e (List.mem_cons_of_mem _ (List.mem_cons_of_mem _ (List.mem_cons_of_mem _ (List.mem_cons_of_mem _ he))))
  · rename IntsAre (List.set _ _ _) _ => hi'
    rename Fr _ _ _ _ => F8
    rename News _ _ _ _ => N8
    rename ¬ _ ≤ (b : Int) => hle
    have hlt : b < cnt.length := Int.ofNat_lt.mp (Int.not_le.mp hle)
    rw [Int.toNat_natCast, ← bump_set _ _ hlt] at hi'
    rw [tabM_same hc] at F8
    exact hQ _ _ _ _ _ _ _ _ hi' hna F8 N8
end
theorem ws_tab_end {g h8 : Heap} {L : Addr} {s₁ : Shared} {tk8 : Nat} {I : Addr} {oI : Obj} {news rest : Led} {Q : Flow → Shared → Prop} {x' d' D : Addr} {ws : Str} {tx tr : Tok} {P : Params} {l : List Nat} {i : Nat} {map : Str → Option Value} {uch : Option Value} {t1 t2 t3 : Tok} {vs : List Value} {k n b nt : Nat} {cnt : List Int} {f : Flow}
    (F8 : Fr g L h8 map) (N8 : News g L h8 ((D, W.listOf vs.toArray k) :: rest)) (hm : map = wsM x' ws tx uch (.int ((nt : Int) + 1) t1) (.int ((n : Int) + 1) t2) (.int 0 t3) (.ref D))
    (hD : ∀ p ∈ (x', instObj 83 d') :: (d', dictOf [{ hash := PyData.keyHash P (Str.ofString "raw"), key := .str (Str.ofString "raw") tr, val := .str ws tx }] 1) :: (news ++ [(I, oI)]), p.1 ≠ D) (hoff : ∀ p ∈ (x', instObj 83 d') :: (d', dictOf [{ hash := PyData.keyHash P (Str.ofString "raw"), key := .str (Str.ofString "raw") tr, val := .str ws tx }] 1) :: news, p.1 ≠ I)
    (hsub : ∀ p ∈ (x', instObj 83 d') :: (d', dictOf [{ hash := PyData.keyHash P (Str.ofString "raw"), key := .str (Str.ofString "raw") tr, val := .str ws tx }] 1) :: (news ++ [(I, oI)]), p ∈ rest)
    (hv : IntsAre vs (bump b cnt)) (hs : scan (l.take (i + 1)) = scan1 ⟨n, b, nt, cnt⟩ 9) (hf : f = .next ∨ f = .cont := by exact .inl rfl) :
    FEnd g L s₁ [I] [(I, oI)] (WsJ x' d' ws tx tr P news l (i + 1)) Q f { s₁ with heap := h8, toks := tk8 } := by
  have e : FEnd g L s₁ [I] [(I, oI)] (WsJ x' d' ws tx tr P news l (i + 1)) Q .next { s₁ with heap := h8, toks := tk8 } := by
    refine ⟨h8, tk8, map, (D, W.listOf vs.toArray k) :: (x', instObj 83 d') :: (d', dictOf [{ hash := PyData.keyHash P (Str.ofString "raw"), key := .str (Str.ofString "raw") tr, val := .str ws tx }] 1) :: news, rfl, F8, fun p hp => N8 p ?_, fun p hp hI => ?_, ?_⟩
    · rcases List.mem_append.mp hp with hp | hp
      · exact List.mem_cons_of_mem _ (hsub p (List.mem_cons_of_mem _ (List.mem_cons_of_mem _ (List.mem_append_right _ hp))))
      · rcases List.mem_cons.mp hp with rfl | hp
        · exact List.mem_cons_self
        · exact List.mem_cons_of_mem _ (hsub p (List.mem_append_left (bs := [(I, oI)]) (as := _ :: _ :: news) hp))
    · rcases List.mem_cons.mp hp with rfl | hp
      · exact hD (I, oI) (List.mem_cons_of_mem _ (List.mem_cons_of_mem _ (List.mem_append_right _ List.mem_cons_self))) (List.mem_singleton.mp hI).symm
      · exact hoff p hp (List.mem_singleton.mp hI)
    unfold WsJ
    rw [hs]
    exact ⟨uch, t1, t2, t3, D, vs, k, fun p hp => hD p (List.mem_append_left (bs := [(I, oI)]) (as := _ :: _ :: news) hp), hv, hm, rfl⟩
  rcases hf with rfl | rfl <;> exact e
/-- what stands on the heap of a Whitespace -/
noncomputable def wsL (P : Params) (x d D C : Addr) (ws : Str) (tx : Tok) (n nt b : Int) (vs : List Value) (q : Bool) (t0 t1 t2 t3 t4 t5 t6 t7 t8 : Tok) : Led :=
  [(D, { cls := .type "tuple", data := .seq #[.ref C, .int b t0] }), (C, { cls := .type "tuple", data := .seq vs.toArray }), (x, instObj 83 d),
    (d, dictOf [{ hash := PyData.keyHash P (Str.ofString "raw"), key := .str (Str.ofString "raw") t1, val := .str ws tx }, { hash := PyData.keyHash P (Str.ofString "n"), key := .str (Str.ofString "n") t2, val := .int n t3 },
      { hash := PyData.keyHash P (Str.ofString "nt"), key := .str (Str.ofString "nt") t4, val := .int nt t5 }, { hash := PyData.keyHash P (Str.ofString "norm"), key := .str (Str.ofString "norm") t6, val := .ref D },
      { hash := PyData.keyHash P (Str.ofString "is_simple"), key := .str (Str.ofString "is_simple") t7, val := .bool q }] 5)]
/-- the object x stands in the ledger l, as Whitespace of the text ws builds it -/
inductive WsIn (P : Params) (l : Led) (x : Addr) (ws : Str) (nt b : Int) (ns : List Int) : Prop
  | mk (d D C : Addr) (vs : List Value) (q : Bool) (tx : Tok) (n : Int) (t0 t1 t2 t3 t4 t5 t6 t7 t8 : Tok) (hv : IntsAre vs ns) (hm : ∀ e ∈ wsL P x d D C ws tx n nt b vs q t0 t1 t2 t3 t4 t5 t6 t7 t8, e ∈ l) : WsIn P l x ws nt b ns
noncomputable def WsR (P : Params) (ws : Str) (σ : WSt) (r : Value) (nw : Led) : Prop := ∃ x : Addr, r = .ref x ∧ WsIn P nw x ws σ.nt σ.b σ.cnt
theorem ints_len : ∀ {vs : List Value} {ns : List Int}, IntsAre vs ns → vs.length = ns.length
  | _, _, .nil => rfl
  | _, _, .cons _ _ h => congrArg (· + 1) (ints_len h)
theorem mem_skip2 {p a b c d e : Addr × Obj} {r : Led} (hp : p ∈ [a, b, d, e] ++ r) : p ∈ a :: b :: c :: d :: e :: r := by
  rcases List.mem_append.mp hp with hp | hp
  · simp only [List.mem_cons, List.not_mem_nil, or_false] at hp ⊢
    rcases hp with h | h | h | h <;> simp [h]
  · exact List.mem_cons_of_mem _ (List.mem_cons_of_mem _ (List.mem_cons_of_mem _ (List.mem_cons_of_mem _ (List.mem_cons_of_mem _ hp))))
theorem ws_back {g h : Heap} {L : Addr} {P : Params} {x d D C a : Addr} {oa : Obj} {ws : Str} {tx : Tok} {n nt b : Int} {vs : List Value} {q : Bool} {t0 t1 t2 t3 t4 t5 t6 t7 : Tok} {news : Led}
    (N : News g L h ((D, { cls := .type "tuple", data := .seq #[.ref C, .int b t0] }) :: (C, { cls := .type "tuple", data := .seq vs.toArray }) :: (a, oa) :: (x, instObj 83 d) ::
    (d, dictOf [{ hash := PyData.keyHash P (Str.ofString "raw"), key := .str (Str.ofString "raw") t1, val := .str ws tx }, { hash := PyData.keyHash P (Str.ofString "n"), key := .str (Str.ofString "n") t2, val := .int n t3 },
      { hash := PyData.keyHash P (Str.ofString "nt"), key := .str (Str.ofString "nt") t4, val := .int nt t5 }, { hash := PyData.keyHash P (Str.ofString "norm"), key := .str (Str.ofString "norm") t6, val := .ref D },
      { hash := PyData.keyHash P (Str.ofString "is_simple"), key := .str (Str.ofString "is_simple") t7, val := .bool q }] 5) :: news)) : News g L h (wsL P x d D C ws tx n nt b vs q t0 t1 t2 t3 t4 t5 t6 t7 0 ++ news) := fun p hp => N p (mem_skip2 hp)
noncomputable def Fresh (nw news : Led) : Prop := ∀ p ∈ nw, ∀ q ∈ news, @LT.lt Nat _ q.1 p.1
theorem ws_fresh {P : Params} {x d D C : Addr} {a : Addr} {ws : Str} {tx : Tok} {n nt b : Int} {vs : List Value} {q : Bool} {t0 t1 t2 t3 t4 t5 t6 t7 t8 : Tok} {news : Led} (l1 : ∀ p ∈ news, p.1 < d) (l2 : @LT.lt Nat _ d x) (l3 : @LT.lt Nat _ x C) (_l4 : @LT.lt Nat _ d C) (l5 : @LT.lt Nat _ C D ∧ @LT.lt Nat _ a D ∧ @LT.lt Nat _ x D ∧ @LT.lt Nat _ d D ∧ AllLt D news) : Fresh (wsL P x d D C ws tx n nt b vs q t0 t1 t2 t3 t4 t5 t6 t7 t8) news := fun p hp r hr => by
  have h : @LT.lt Nat _ r.1 d := l1 r hr
  unfold wsL at hp
  simp only [List.mem_cons, List.not_mem_nil, or_false] at hp
  rcases hp with rfl | rfl | rfl | rfl
  · exact Nat.lt_trans h l5.2.2.2.1
  · exact Nat.lt_trans h (Nat.lt_trans l2 l3)
  · exact Nat.lt_trans h l2
  · exact h
theorem spec_ws (w : World) (ws : Str) (tx : Tok) (news : Led) (hx : ∀ c ∈ ws.cps.toList, c = 32 ∨ c = 9) (hl : ws.cps.size ≤ 20) (hbd : ∀ i, (scan (ws.cps.toList.take i)).b ≤ 2 ∧ (scan (ws.cps.toList.take i)).cnt.length ≤ 3) : Spec w 83 [.str ws tx] news (fun r nw => WsR w.params ws (scan ws.cps.toList) r nw ∧ Fresh nw news) 60 512 := by
  w_on
  unfold Spec
  k_fill
  intros; rename_i hret
  have e1 : makesIn (KK w.params) 83 = true := by k_is
  have e2 : findIn (KK w.params) (.ref 83) "__init__" = some (some (.ref 38)) := by k_is
  clear e1 e2
  k_dflt (refine' call_cls ?k1 ?k2 ?k3 ?k4 ?k5 ?k6 ?_; (case k1 => k_asm); (case k2 => k_asm); (case k3 => k_asm); (case k4 => k_is); (case k5 => k_is); (case k6 => k_is))
  intro x' d' h' F' N' l1 l2
  try k_lt l1
  try k_lt2 l2
  k_dflt cell_enter
  walk_at "steps to for"
  rename Fr _ _ _ _ => F1
  rename News _ _ _ _ => N1
  refine For_T F1 ?_
  walk_at "steps"
  obtain ⟨tr, N2⟩ : ∃ tr, News _ _ _ ((_, W.listOf #[] 0) :: (x', instObj 83 d') :: (d', dictOf [{ hash := PyData.keyHash w.params (Str.ofString "raw"), key := .str (Str.ofString "raw") tr, val := .str ws tx }] 1) :: news) := ⟨_, drop2 N1⟩
  clear N1
  refine' loop_str (by rfl) (by rfl) (by rfl) F1 N2 (WsJ x' d' ws tx tr w.params news ws.cps.toList) ?h0 ?st ?dn
  case h0 =>
    refine ⟨none, _, _, _, _, [], _, allLt2 (‹_ < _ ∧ x' < _ ∧ d' < _ ∧ AllLt _ news›).2, .nil, ws_start ?_ ?_, rfl⟩
    · rfl
    · intro y h1
      by_cases h6 : y = Str.ofString "S"
      · subst h6; rfl
      by_cases h7 : y = Str.ofString "T"
      · subst h7; rfl
      by_cases h8 : y = Str.ofString "self"
      · subst h8; rfl
      by_cases h9 : y = Str.ofString "ws"
      · subst h9; rfl
      simp only [if_neg h6, if_neg h7, if_neg h8, if_neg h9]
      show List.lookup y [(Str.ofString "ws", Value.str ws tx), (Str.ofString "self", Value.ref x')] = none
      simp only [List.lookup, beq_eq_false_iff_ne.mpr h8, beq_eq_false_iff_ne.mpr h9]
  case st =>
    rintro i c u m₁ news₁ h tk I oI hc hu1 hu2 ⟨uch, t1, t2, t3, a, vs, kc, hne, hvs, rfl, rfl⟩ hoff F3 N3 g
    dsimp only [List.cons_append] at N3
    clear F1 N2
    have hxa : @Ne Nat x' a := hne (x', instObj 83 d') List.mem_cons_self
    have hda : @Ne Nat d' a := hne (d', _) (List.mem_cons_of_mem _ List.mem_cons_self)
    have hnI : ∀ p ∈ news ++ [(I, oI)], p.1 ≠ a := fun p hp => by
      rcases List.mem_append.mp hp with hp | hp
      · exact hne p (List.mem_cons_of_mem _ (List.mem_cons_of_mem _ hp))
      · rw [List.mem_singleton.mp hp]; exact fun e => hoff (a, _) List.mem_cons_self e.symm
    have hc2 := hx c (Array.mem_toList_iff.mpr (Array.mem_of_getElem? hc))
    rcases hc2 with rfl | rfl
    · unfold wsM at F3
      walk_at "steps"
      rename Fr _ _ _ _ => F5
      rename News _ _ _ _ => N5
      have hs : scan (ws.cps.toList.take (i + 1)) = ⟨(scan (ws.cps.toList.take i)).n + 1, (scan (ws.cps.toList.take i)).b + 1, (scan (ws.cps.toList.take i)).nt, (scan (ws.cps.toList.take i)).cnt⟩ := by
        rw [take_snoc hc, scan_snoc]; rfl
      refine ⟨_, _, _, _, rfl, F5, news_swap (l₁ := _ :: _ :: _ :: news) (l₂ := [(I, oI)]) N5, fun p hp hm => hoff p hp (List.mem_singleton.mp hm), ?_⟩
      unfold WsJ
      rw [hs]
      exact ⟨some (.str ⟨#[32]⟩ u), t1, _, _, a, vs, _, hne, hvs, ws_blank, rfl⟩
    · have hb := hbd i
      have hs : scan (ws.cps.toList.take (i + 1)) = scan1 (scan (ws.cps.toList.take i)) 9 := by rw [take_snoc hc, scan_snoc]
      generalize scan (ws.cps.toList.take i) = σ at *
      obtain ⟨n, b, nt, cnt⟩ := σ
      dsimp only at hb hvs F3 N3 ⊢
      obtain ⟨hb1, hb2⟩ := hb
      refine ws_tab w a vs cnt kc b n nt u t1 t2 t3 _ _ ((x', instObj 83 d') :: (d', dictOf [{ hash := PyData.keyHash w.params (Str.ofString "raw"), key := .str (Str.ofString "raw") tr, val := .str ws tx }] 1) :: (news ++ [(I, oI)])) hvs hb2 hb1 (List.forall_mem_cons.mpr ⟨hxa, List.forall_mem_cons.mpr ⟨hda, hnI⟩⟩) _ _ _ _ _ _ _ _ _ _ _ _ _ _ _ _ _ _ _ _ _ rfl rfl rfl rfl rfl rfl rfl (by k_asm) F3 (by k_asm) N3 (by k_asm) (by k_asm) (by lia) (by lia) ?_
      rintro h8 tk8 a2 vs8 k8 s1 s2 s3 hv8 hna8 F8 N8
      exact ws_tab_end (cnt := cnt) (b := b) (vs := vs8) F8 N8 ws_tab1 hna8 (fun p hp => hoff p (List.mem_cons_of_mem _ hp)) (fun p hp => hp) hv8 hs
  case dn =>
    rintro h1 tk1 m1 news1 htk F3 N3 ⟨uch, t1, t2, t3, a, vs, kc, hne, hvs, rfl, rfl⟩
    have hxa : @Ne Nat x' a := hne (x', instObj 83 d') List.mem_cons_self
    have hda : @Ne Nat d' a := hne (d', _) (List.mem_cons_of_mem _ List.mem_cons_self)
    clear F1 N2
    unfold wsM at F3
    have hvl : vs.length ≤ 3 := by rw [ints_len hvs]; exact (hbd _).2
    walk_at "steps to tuple"
    k_dflt (refine' kde_tupleOf (items := vs.toArray) (zs := vs) ?k1 ?k2 ?k3 ?k4 ?k5 ?_)
    case k1 => k_asm
    case k2 => k_asm
    case k3 => exact News.isList (by k_asm) (by k_mem)
    case k4 => rw [List.size_toArray]; lia
    case k5 => rfl
    intro D1 h2 F4 N4 l3
    try k_lt l3
    dsimp only
    walk_at "steps"
    refine PySem.Calls.call_len_list (items := vs.toArray) (News.isList (by k_asm) (by k_dflt k_mem)) (by rw [List.size_toArray]; lia) ?_
    walk_at "steps"
    rename Fr _ _ _ _ => F9
    rename News _ _ _ _ => N9
    have et : ws.cps.toList.take ws.cps.size = ws.cps.toList := by rw [← Array.length_toList]; exact List.take_length
    rw [et] at hvs
    simp only [et] at N9
    exact hret _ _ _ _ ⟨⟨x', rfl, ⟨d', _, D1, vs, _, _, _, _, _, _, _, _, _, _, _, 0, hvs, fun _ h => h⟩⟩, ws_fresh l1 l2 l3.2.1 l3.2.2.1 (‹D1 < _ ∧ a < _ ∧ x' < _ ∧ d' < _ ∧ AllLt _ news›)⟩ F9 (ws_back N9)
end
-- W1
section
noncomputable def SpecC (w : World) (f : Addr) (vs : List Value) (news : Led) (R : Value → Led → Prop) (d : Nat := 20) (u : Nat := 128) : Prop :=
  ∀ (mean : ExcName → Option Value) (mg mb : Str → Option Value) (dp un : Nat) (gd : Option (List Code)) (cn : Str) (cs : Scope) (a : Addr) (ccd : Value) (cl : List (Str × Addr)) (outer : List Env) (A₀ : Around) (base h₀ : Heap) (L : Addr)
    (m : Str → Option Value) (s : Shared) (Q E : Value → Shared → Prop),
    Below A₀ base outer h₀ → Fr h₀ L s.heap m → (KK w.params).In h₀ → News h₀ L s.heap news → Top qv (looseW qv loose) mean mg mb h₀ → cs.kind = .function →
    dp + d < recursionLimit → un + u < cLine →
    (∀ (r : Value) (nw : Led) (h' : Heap) (tk' : Nat), R r nw → Fr h₀ L h' m → News h₀ L h' (nw ++ news) → Q r { s with heap := h', toks := tk' }) →
      codeAny (model rr.prog w) (ktrTop dp un gd cn cs L a ccd cl outer) (.call (.ref f) ⟨vs, []⟩) (fun r s' => match r with | .ok (.ret v) => Q v s' | .ok _ => False | .error e => E e s') s
theorem SpecC.use {w : World} {f : Addr} {vs : List Value} {news : Led} {R : Value → Led → Prop} {d u : Nat} (S : SpecC w f vs news R d u) {mean : ExcName → Option Value} {mg mb : Str → Option Value} {dp un : Nat} {gd : Option (List Code)} {cn : Str} {cs : Scope} {a : Addr} {ccd : Value} {cl : List (Str × Addr)} {outer : List Env} {A₀ : Around} {base h₀ : Heap} {L : Addr}
    {m : Str → Option Value} {s : Shared} {Q E : Value → Shared → Prop}
    (B : Below A₀ base outer h₀) (F : Fr h₀ L s.heap m) (X : (KK w.params).In h₀) (N : News h₀ L s.heap news) (T : Top qv (looseW qv loose) mean mg mb h₀) (hk : cs.kind = .function) (hd : dp + d < recursionLimit) (hu : un + u < cLine)
    (h : ∀ (r : Value) (nw : Led) (h' : Heap) (tk' : Nat), R r nw → Fr h₀ L h' m → News h₀ L h' (nw ++ news) → Q r { s with heap := h', toks := tk' }) :
    codeAny (model rr.prog w) (ktrTop dp un gd cn cs L a ccd cl outer) (.call (.ref f) ⟨vs, []⟩) (fun r s' => match r with | .ok (.ret v) => Q v s' | .ok _ => False | .error e => E e s') s :=
  S mean mg mb dp un gd cn cs a ccd cl outer A₀ base h₀ L m s Q E B F X N T hk hd hu h
end
-- T11
section
local macro_rules | `(tactic| k_mem) => `(tactic| assumption)
local macro_rules | `(tactic| walk_at "call builtin:len") => `(tactic| (k_here; (with_reducible show wpAny _ _ (call (Value.builtin "len") [Value.ref _]) _ _ _); refine' kun_lenT ?k1 ?k2 ?k3 ?_; (case k1 => exact News.isTup (by k_asm) (by k_dflt k_mem)); (case k2 => assumption); (case k3 => assumption)))
theorem WsIn.mono {P : Params} {l l' : Led} {x : Addr} {ws : Str} {nt b : Int} {ns : List Int} (h : WsIn P l x ws nt b ns) (k : ∀ e ∈ l, e ∈ l') : WsIn P l' x ws nt b ns := by
  obtain ⟨d, D, C, vs, q, tx, n, t0, t1, t2, t3, t4, t5, t6, t7, t8, hv, hm⟩ := h
  exact ⟨d, D, C, vs, q, tx, n, t0, t1, t2, t3, t4, t5, t6, t7, t8, hv, fun e he => k e (hm e he)⟩
theorem ws_mem {P : Params} {x d D C : Addr} {ws : Str} {tx : Tok} {n nt b : Int} {vs : List Value} {q : Bool} {t0 t1 t2 t3 t4 t5 t6 t7 t8 : Tok} {l : Led} (h : ∀ e ∈ wsL P x d D C ws tx n nt b vs q t0 t1 t2 t3 t4 t5 t6 t7 t8, e ∈ l) :
    (D, ({ cls := .type "tuple", data := .seq #[.ref C, .int b t0] } : Obj)) ∈ l ∧ (C, ({ cls := .type "tuple", data := .seq vs.toArray } : Obj)) ∈ l ∧ (x, instObj 83 d) ∈ l ∧ (d, dictOf [{ hash := PyData.keyHash P (Str.ofString "raw"), key := .str (Str.ofString "raw") t1, val := .str ws tx }, { hash := PyData.keyHash P (Str.ofString "n"), key := .str (Str.ofString "n") t2, val := .int n t3 },
      { hash := PyData.keyHash P (Str.ofString "nt"), key := .str (Str.ofString "nt") t4, val := .int nt t5 }, { hash := PyData.keyHash P (Str.ofString "norm"), key := .str (Str.ofString "norm") t6, val := .ref D },
      { hash := PyData.keyHash P (Str.ofString "is_simple"), key := .str (Str.ofString "is_simple") t7, val := .bool q }] 5) ∈ l :=
  ⟨h _ (.head _), h _ (.tail _ (.head _)), h _ (.tail _ (.tail _ (.head _))), h _ (.tail _ (.tail _ (.tail _ (.head _))))⟩
theorem run_eq3 {ns : List Int} (hn : ns.length = 1 ∨ ns.length = 2 ∨ ns.length = 3) : (if (1 : Int) > (ns.length : Int) - 1 then (1 : Int) else (ns.length : Int) - 1) = if ns.length = 3 then 2 else 1 := by
  rcases hn with h | h | h <;> rw [h] <;> decide
theorem spec_run (w : World) (x : Addr) (ws : Str) (nt : Int) (ns : List Int) (news : Led) (hw : WsIn w.params news x ws nt 1 ns) (hn : ns.length = 1 ∨ ns.length = 2 ∨ ns.length = 3) :
    SpecC w 45 [.ref x] news (fun r nw => nw = [] ∧ ∃ t, r = .int (if ns.length = 3 then 2 else 1) t) := by
  w_on
  obtain ⟨d, D, C, vs, q, tx, n, t0, t1, t2, t3, t4, t5, t6, t7, t8, hv, hm⟩ := hw
  obtain ⟨hmD, hmC, hmx, hmd⟩ := ws_mem hm
  clear hm
  have hlenI : ((vs.toArray.size : Nat) : Int) = (ns.length : Int) := by rw [List.size_toArray, IntsAre.length hv]
  have hlz : (ns.length : Int) ≤ 16384 := by rcases hn with e | e | e <;> rw [e] <;> decide
  have he := run_eq3 hn
  clear hn hv
  unfold SpecC
  k_fill
  intros; rename_i hret
  k_dflt cell_enter
  walk_at "steps"
  refine hret _ [] _ _ ⟨rfl, _, congrArg (Value.int · _) he⟩ ?_ ?_ <;> k_asm
end
-- T12
section
local macro_rules | `(tactic| walk_at "UnrEnd") => `(tactic| (refine UnrEnd.intro (by assumption) (by assumption) _ (fun p hp => hp) (fun p hp => Nat.ne_of_lt (allLt_mem _ ?h p hp)) ?_; (case h => assumption)))
noncomputable def ilS (ts : Int) : List Int → Int
  | [_, c1] => if ts = 1 then c1 else 0
  | [_, c1, c2] => if ts = 1 then c1 + 2 * c2 else if ts = 2 then c2 else 0
  | _ => 0
noncomputable def levelS (nt : Int) (ts : Int) (ns : List Int) : Int := 1 + ts * (ilS ts ns + nt)
local macro_rules | `(tactic| k_mem) => `(tactic| assumption)
local macro_rules | `(tactic| k_all) => `(tactic| assumption)
local macro_rules | `(tactic| walk_at "eval Name") => `(tactic| (k_here; k_dflt (refine' nameX_L ?F ?v ?_ ?a ?b; (case F => k_asm); (case a => rfl); (case b => rfl); (case v => assumption); k_whole)))
local macro_rules | `(tactic| walk_at "call builtin:len") => `(tactic| (k_here; (with_reducible show wpAny _ _ (call (Value.builtin "len") [Value.ref _]) _ _ _); refine' kun_lenT ?k1 ?k2 ?k3 ?_; (case k1 => exact News.isTup (by k_asm) (by k_dflt k_mem)); (case k2 => assumption); (case k3 => assumption)))
noncomputable def ilP (ts : Int) (ns : List Int) : Nat → Int
  | 0 => 0
  | i + 1 => ilP ts ns i + Int.fdiv (ts + (i : Int)) ts * ns.getD (ts.toNat + i) 0
theorem seq_at {k n : Nat} (h : k < n) : seqIndex? (k : Int) n = some k := by
  have e : ¬ (k : Int) < 0 := by omega
  simp [seqIndex?, e, h]
theorem level_eq {nt ts : Int} {ns : List Int} (hn : ns.length = 1 ∨ ns.length = 2 ∨ ns.length = 3) (hts : ts = 1 ∨ ts = 2 ∨ ts = 3) : 1 + ts * (ilP ts ns (ns.length - ts.toNat) + nt) = levelS nt ts ns := by
  have e : ilP ts ns (ns.length - ts.toNat) = ilS ts ns := by
    have f1 : Int.fdiv (2 + ((0 : Nat) : Int)) 2 = 1 := by decide
    have f2 : Int.fdiv (1 + ((0 : Nat) : Int)) 1 = 1 := by decide
    have f3 : Int.fdiv (1 + ((1 : Nat) : Int)) 1 = 2 := by decide
    match ns, hn with
    | [], h => rcases h with h | h | h <;> cases h
    | [a], _ => rcases hts with rfl | rfl | rfl <;> rfl
    | [a, b], _ =>
      rcases hts with rfl | rfl | rfl
      · show 0 + Int.fdiv (1 + ((0 : Nat) : Int)) 1 * b = b
        rw [f2]; lia
      · rfl
      · rfl
    | [a, b, c], _ =>
      rcases hts with rfl | rfl | rfl
      · show 0 + Int.fdiv (1 + ((0 : Nat) : Int)) 1 * b + Int.fdiv (1 + ((1 : Nat) : Int)) 1 * c = b + 2 * c
        rw [f2, f3]; lia
      · show 0 + Int.fdiv (2 + ((0 : Nat) : Int)) 2 * c = c
        rw [f1]; lia
      · rfl
    | _ :: _ :: _ :: _ :: _, h => rcases h with h | h | h <;> cases h
  rw [e]; rfl
theorem fd_bits {ts : Int} {i : Nat} (hts : ts = 1 ∨ ts = 2 ∨ ts = 3) (hi : i < 3) : Builtin.Int.intBits ((ts + (i : Int)).fdiv ts) ≤ 64 := by
  match i, hi with
  | 0, _ => rcases hts with rfl | rfl | rfl <;> decide
  | 1, _ => rcases hts with rfl | rfl | rfl <;> decide
  | 2, _ => rcases hts with rfl | rfl | rfl <;> decide
theorem lvl_ix {ts : Int} {i n : Nat} (hts : ts = 1 ∨ ts = 2 ∨ ts = 3) (hn : n = 1 ∨ n = 2 ∨ n = 3) (hi : i < n - ts.toNat) : ts.toNat + i < n ∧ -(2 ^ 63) ≤ ts + (i : Int) ∧ ts + (i : Int) < 2 ^ 63 ∧ seqIndex? (ts + (i : Int)) n = some (ts.toNat + i) ∧ ts ≠ 0 ∧ i < 3 := by
  have h1 : ts.toNat + i < n := by lia
  have h2 : ts + (i : Int) = ((ts.toNat + i : Nat) : Int) := by lia
  exact ⟨h1, by lia, by lia, h2 ▸ seq_at h1, by lia, by lia⟩
theorem int_item {vs : List Value} {ns : List Int} (h : IntsAre vs ns) {k : Nat} (hk : k < ns.length) : ∃ t, vs[k]? = some (.int (ns.getD k 0) t) := by
  induction h generalizing k with
  | nil => exact absurd hk (Nat.not_lt_zero _)
  | cons a u h ih =>
    cases k with
    | zero => exact ⟨u, rfl⟩
    | succ k =>
      obtain ⟨t, e⟩ := ih (Nat.lt_of_succ_lt_succ hk)
      exact ⟨t, by simpa using e⟩
theorem spec_level (ts : Int) (tt : Tok) (w : World) (x : Addr) (ws : Str) (nt : Int) (ns : List Int) (news : Led) (hw : WsIn w.params news x ws nt 1 ns) (hn : ns.length = 1 ∨ ns.length = 2 ∨ ns.length = 3) (hts : ts = 1 ∨ ts = 2 ∨ ts = 3) :
    SpecC w 52 [.ref x, .int ts tt] news (fun r nw => nw = [] ∧ ∃ t, r = .int (levelS nt ts ns) t) := by
  w_on
  obtain ⟨d, D, C, vs, q, tx, n, t0, t1, t2, t3, t4, t5, t6, t7, t8, hv, hm⟩ := hw
  obtain ⟨hmD, hmC, hmx, hmd⟩ := ws_mem hm
  clear hm
  have hvl : vs.length = ns.length := IntsAre.length hv
  have hit0 := @int_item vs ns hv
  have hlen : vs.toArray.size = ns.length := by rw [List.size_toArray, IntsAre.length hv]
  have hlenI : ((vs.toArray.size : Nat) : Int) = (ns.length : Int) := by rw [hlen]
  have hlz : (ns.length : Int) ≤ 16384 := by rcases hn with e | e | e <;> rw [e] <;> decide
  unfold SpecC
  k_fill
  intros; rename_i hret
  k_dflt cell_enter
  walk_at "steps to for"
  rename Fr _ _ _ _ => F3
  refine For_T F3 ?_
  walk_at "steps"
  rename IsRange _ _ _ _ _ _ _ _ => hr
  rename Fr _ _ _ _ => F4
  rename News _ _ _ _ => N4
  have hle := @level_eq nt ts ns hn hts
  have hme : IntMulOk ts (ilP ts ns (ns.length - ts.toNat) + nt) := .of_left (by rcases hts with rfl | rfl | rfl <;> decide)
  have hsz : Builtin.Range.small ts (ns.length : Int) 1 = true ∧ Builtin.Range.rangeSize ts (ns.length : Int) 1 = ((ns.length - ts.toNat : Nat) : Int) := by
    rcases hn with e | e | e <;> rcases hts with rfl | rfl | rfl <;> rw [e] <;> decide
  refine loop_range (n := ns.length - ts.toNat) (by rfl) hr hsz.1 hsz.2 (by rfl) (by rfl) F4 N4 (fun i m nw => m (Str.ofString "self") = some (.ref x) ∧ m (Str.ofString "tabsize") = some (.int ts tt) ∧ m (Str.ofString "count") = some (.ref C) ∧ m (Str.ofString "trailing") = some (.int 1 t0) ∧ (∃ u, m (Str.ofString "il") = some (.int (ilP ts ns i) u)) ∧ nw = _) ⟨rfl, rfl, rfl, rfl, ⟨_, rfl⟩, rfl⟩ ?st ?dn
  case st =>
    clear F4 N4 hr
    rintro I oI i u m₁ news₁ h tk hi htk ⟨hs, ht, hc, htr, ⟨ui, hil⟩, rfl⟩ hoff F5 N5 gg tg
    refine fend_gen fun Q9 J9 hJ9 => ?_
    obtain ⟨hit, hk1, hk2, hk3, hts0, hi3⟩ := lvl_ix hts hn hi
    rw [← hvl] at hk3
    obtain ⟨tv, hk4⟩ := hit0 hit
    have hfd := IntMulOk.of_left (b := ns.getD (ts.toNat + i) 0) (fd_bits hts hi3)
    have hdp : Builtin.divisionGoesByPylong (ts + (i : Int)) ts = false := PyProof.noPylong_of_log2 (by rcases hts with rfl | rfl | rfl <;> decide)
    clear hn hts hi hsz hi3 hit0 hit hlenI hlz hlen hvl hle hme
    have hb1 : (fun z => if z = Str.ofString "i" then some (Value.int (ts + (i : Int)) u) else m₁ z) (Str.ofString "i") = some (.int (ts + (i : Int)) u) := rfl
    replace hs : (fun z => if z = Str.ofString "i" then some (Value.int (ts + (i : Int)) u) else m₁ z) (Str.ofString "self") = some (.ref x) := hs
    replace ht : (fun z => if z = Str.ofString "i" then some (Value.int (ts + (i : Int)) u) else m₁ z) (Str.ofString "tabsize") = some (.int ts tt) := ht
    replace hc : (fun z => if z = Str.ofString "i" then some (Value.int (ts + (i : Int)) u) else m₁ z) (Str.ofString "count") = some (.ref C) := hc
    replace htr : (fun z => if z = Str.ofString "i" then some (Value.int (ts + (i : Int)) u) else m₁ z) (Str.ofString "trailing") = some (.int 1 t0) := htr
    replace hil : (fun z => if z = Str.ofString "i" then some (Value.int (ts + (i : Int)) u) else m₁ z) (Str.ofString "il") = some (.int (ilP ts ns i) ui) := hil
    generalize (fun z => if z = Str.ofString "i" then some (Value.int (ts + (i : Int)) u) else m₁ z) = m₂ at F5 hb1 hs ht hc htr hil
    walk_at "steps to tail"
    refine floordiv_int hts0 ?_ (hp := .inl hdp)
    walk_at "steps to tail"
    rename News _ _ _ _ => N5
    have hT : IsTup _ C vs.toArray := News.isTup N5 (List.mem_append_left _ hmC)
    refine item_tupleT ?T hk1 hk2 hk3 hk4 ?_
    case T => exact hT
    walk_at "steps"
    rename Fr _ _ _ _ => G3
    rename News _ _ _ _ => M3
    refine FEnd.of G3 M3 _ (fun p hp => (List.mem_append.mp hp).elim (List.mem_append_right _) (List.mem_append_left _)) hoff (hJ9 _ _ ⟨hs, ht, hc, htr, ⟨_, rfl⟩, rfl⟩)
  case dn =>
    clear F4 N4 hr hn hts hsz hit0 hlenI hlz hlen hvl
    rintro h1 tk1 m1 news1 htk1 F6 N6 ⟨hs, ht, hc, htr, ⟨ui, hil⟩, rfl⟩
    walk_at "steps"
    refine hret _ [] _ _ ⟨rfl, _, congrArg (Value.int · _) hle⟩ ?F ?N
    case F => k_asm
    case N => k_asm
end
-- T13
section
local macro_rules | `(tactic| walk_at "steps to compare") => `(tactic| repeat' ((fail_if_success (with_reducible show wpAny _ _ (compareOp _ (Value.ref _) (Value.ref _)) _ _ _)); first | (k_unfold; (try dsimp only)) | (k_end; wrow_close) | (walk1; all_goals (try dsimp only)) | (dsimp only; walk1) | (leave1; walk_say "STEP leave1"; try dsimp only)))
theorem ints_reads {h : Heap} : ∀ {vs : List Value} {ns : List Int}, IntsAre vs ns → ReadsAll h vs (ns.map PyData.int) []
  | _, _, .nil => .nil
  | _, _, .cons n t r => .cons (.int n t) (ints_reads r)
theorem norm_shaped (ns : List Int) (b : Int) : SeqAt.shaped (.tuple [.tuple (ns.map PyData.int), .int b]) = true := by
  simp [SeqAt.shaped, PyData.canLay0, PyData.canLayAll0, PyData.depth, PyData.depthAll, ke_canLayAll0, ke_depthAll]
theorem norm_eqv (ns ms : List Int) (b c : Int) : PyData.eqv (.tuple [.tuple (ns.map PyData.int), .int b]) (.tuple [.tuple (ms.map PyData.int), .int c]) = (decide (ns = ms) && decide (b = c)) := by
  simp [PyData.eqv, PyData.eqvAll, ked_eqvAll]
  by_cases h : b = c <;> simp [h]
theorem norm_reads {g h : Heap} {L : Addr} {news : Led} {D C : Addr} {vs : List Value} {ns : List Int} {b : Int} {t : Tok} (N : News g L h news) (hD : (D, ({ cls := .type "tuple", data := .seq #[.ref C, .int b t] } : Obj)) ∈ news)
    (hC : (C, ({ cls := .type "tuple", data := .seq vs.toArray } : Obj)) ∈ news) (hv : IntsAre vs ns) : Reads h (.ref D) (.tuple [.tuple (ns.map PyData.int), .int b]) [] :=
  reads_tuple_at (N _ hD).1 rfl rfl (.cons (reads_tuple_at (N _ hC).1 rfl rfl (ints_reads hv)) (.cons (.int b t) .nil))
local macro_rules | `(tactic| k_mem) => `(tactic| assumption)
theorem spec_equal (w : World) (x x' : Addr) (ws ws' : Str) (nt b nt' b' : Int) (ns ns' : List Int) (news : Led) (hw : WsIn w.params news x ws nt b ns) (hw' : WsIn w.params news x' ws' nt' b' ns') :
    SpecC w 59 [.ref x, .ref x'] news (fun r nw => nw = [] ∧ r = .bool (decide (ns = ns') && decide (b = b'))) 60 512 := by
  w_on
  obtain ⟨d, D, C, vs, q, tx, n, t0, t1, t2, t3, t4, t5, t6, t7, t8, hv, hm⟩ := hw
  obtain ⟨hmD, hmC, hmx, hmd⟩ := ws_mem hm
  clear hm
  obtain ⟨d', D', C', vs', q', tx', n', u0, u1, u2, u3, u4, u5, u6, u7, u8, hv', hm⟩ := hw'
  obtain ⟨hmD', hmC', hmx', hmd'⟩ := ws_mem hm
  clear hm
  unfold SpecC
  k_fill
  intros; rename_i hret
  k_dflt cell_enter
  walk_at "steps to compare"
  rename News _ _ _ _ => N0
  refine PyProof.Rows.eq_dataH (norm_reads N0 hmD hmC hv) (norm_reads N0 hmD' hmC' hv') (norm_shaped _ _) (norm_shaped _ _) (by ke_room) ?_
  rw [norm_eqv]
  walk_at "steps"
  refine hret _ [] _ _ ⟨rfl, rfl⟩ ?_ ?_ <;> k_asm
end
-- T14
section
local macro_rules | `(tactic| walk_at "pad0") => `(tactic| fail)
noncomputable def witM (x x' : Addr) (uts : Option Value) (a : Addr) (vn : Value) : Str → Option Value := fun y =>
  if y = Str.ofString "ts" then uts else if y = Str.ofString "a" then some (.ref a) else if y = Str.ofString "n" then some vn else if y = Str.ofString "self" then some (.ref x) else if y = Str.ofString "other" then some (.ref x') else none
noncomputable def rowD (nt nt' : Int) (ns ns' : List Int) (ts : Int) : List PyData := if levelS nt ts ns = levelS nt' ts ns' then [] else [.tuple [.int ts, .int (levelS nt ts ns), .int (levelS nt' ts ns')]]
noncomputable def witD (nt nt' : Int) (ns ns' : List Int) : Nat → List PyData
  | 0 => []
  | k + 1 => witD nt nt' ns ns' k ++ rowD nt nt' ns ns' ((k : Int) + 1)
noncomputable def witN (ns ns' : List Int) : Nat := if ns.length = 3 ∨ ns'.length = 3 then 3 else 2
theorem wit_bound (ns ns' : List Int) : ((if (if ns'.length = 3 then (2 : Int) else 1) > (if ns.length = 3 then 2 else 1) then (if ns'.length = 3 then 2 else 1) else (if ns.length = 3 then 2 else 1)) + 1 + 1) = (witN ns ns' : Int) + 1 := by
  unfold witN
  by_cases h : ns.length = 3 <;> by_cases h' : ns'.length = 3 <;> simp [h, h']
theorem wit_small (ns ns' : List Int) : Builtin.Range.small 1 ((witN ns ns' : Int) + 1) 1 = true := by
  unfold witN
  split <;> decide
theorem wit_size (ns ns' : List Int) : Builtin.Range.rangeSize 1 ((witN ns ns' : Int) + 1) 1 = (witN ns ns' : Int) := by
  unfold witN
  split <;> decide
theorem wit_start {x x' a : Addr} {vn : Value} {R : Str → Option Value} (h0 : R (Str.ofString "ts") = none) (hR : ∀ y, y ≠ Str.ofString "ts" → R y = if y = Str.ofString "self" then some (.ref x) else if y = Str.ofString "other" then some (.ref x') else none) :
    (fun y => if y = Str.ofString "a" then some (Value.ref a) else if y = Str.ofString "n" then some vn else R y) = witM x x' none a vn := by
  funext y
  unfold witM
  by_cases h1 : y = Str.ofString "ts"
  · subst h1; exact h0
  · simp only [if_neg h1, hR y h1]
theorem wit_ts {i : Nat} {ns ns' : List Int} (hi : i < witN ns ns') : (1 : Int) + (i : Int) = 1 ∨ (1 : Int) + (i : Int) = 2 ∨ (1 : Int) + (i : Int) = 3 := by
  have hi' : i < 3 := Nat.lt_of_lt_of_le hi (by unfold witN; split <;> decide)
  lia
theorem wit_lt {i : Nat} {ns ns' : List Int} (hi : i < witN ns ns') : i ≤ 1000 := by
  have hi' : i < 3 := Nat.lt_of_lt_of_le hi (by unfold witN; split <;> decide)
  lia
theorem wit_turn {x x' a : Addr} {vn v : Value} {uts : Option Value} : (fun z => if z = Str.ofString "ts" then some v else witM x x' uts a vn z) = witM x x' (some v) a vn := by
  funext z
  unfold witM
  by_cases h1 : z = Str.ofString "ts"
  · subst h1; rfl
  · simp only [if_neg h1]
theorem witD_next (nt nt' : Int) (ns ns' : List Int) (i : Nat) : witD nt nt' ns ns' (i + 1) = witD nt nt' ns ns' i ++ (if levelS nt (1 + (i : Int)) ns = levelS nt' (1 + (i : Int)) ns' then [] else [.tuple [.int (1 + (i : Int)), .int (levelS nt (1 + (i : Int)) ns), .int (levelS nt' (1 + (i : Int)) ns')]]) := by
  rw [Int.add_comm 1 (i : Int)]; rfl
theorem witD_len (nt nt' : Int) (ns ns' : List Int) : ∀ k, (witD nt nt' ns ns' k).length ≤ k
  | 0 => Nat.le_refl _
  | k + 1 => by
    have := witD_len nt nt' ns ns' k
    unfold witD rowD
    split <;> simp <;> lia
local macro_rules | `(tactic| k_mem) => `(tactic| first | assumption | exact List.Mem.head _ | (refine' List.Mem.tail _ ?_; k_mem) | (refine List.mem_append_left _ ?_; k_mem) | (refine List.mem_append_right _ ?_; k_mem))
local macro_rules | `(tactic| walk_at "newList") => `(tactic| (k_here; k_dflt (refine' newList_K ?k1 ?k2 ?_; (case k1 => k_asm); (case k2 => k_asm); k_whole); intro l' h' F' N' l1))
theorem wit_in {g h : Heap} {L : Addr} {pa pI : Addr × Obj} {own news : Led} (N : News g L h ((pa :: (own ++ news)) ++ [pI])) : News g L h (pa :: (own ++ (news ++ [pI]))) := fun p hp => N p (by simp only [List.mem_append, List.mem_cons] at hp ⊢; grind)
theorem wit_out {p pT pa : Addr × Obj} {own news o2 : Led} (hp : p ∈ o2 ++ (pa :: ((pT :: own) ++ news))) : p ∈ pT :: pa :: (own ++ (news ++ o2)) := by simp only [List.mem_append, List.mem_cons] at hp ⊢; grind
theorem wit_out2 {p pa : Addr × Obj} {own news o2 : Led} (hp : p ∈ o2 ++ (pa :: (own ++ news))) : p ∈ pa :: (own ++ (news ++ o2)) := by simp only [List.mem_append, List.mem_cons] at hp ⊢; grind
theorem wit_old {p : Addr × Obj} {own news o2 : Led} (hp : p ∈ own ++ (news ++ o2)) : p ∈ own ++ news ∨ p ∈ o2 := by simp only [List.mem_append] at hp ⊢; grind
theorem spec_wit (w : World) (x x' : Addr) (ws ws' : Str) (nt nt' : Int) (ns ns' : List Int) (news : Led) (hw : WsIn w.params news x ws nt 1 ns) (hw' : WsIn w.params news x' ws' nt' 1 ns')
    (hn : ns.length = 1 ∨ ns.length = 2 ∨ ns.length = 3) (hn' : ns'.length = 1 ∨ ns'.length = 2 ∨ ns'.length = 3) :
    SpecC w 66 [.ref x, .ref x'] news (fun r nw => ∃ a, r = .ref a ∧ AccJ a (witD nt nt' ns ns' (witN ns ns')) [] nw ∧ Fresh nw news) 120 1024 := by
  w_on
  have ⟨d, D, C, vs, q, tx, n, t0, t1, t2, t3, t4, t5, t6, t7, t8, hv, hm⟩ := hw
  obtain ⟨_, _, hmx, hmd⟩ := ws_mem hm
  clear hm hv
  have ⟨d', D', C', vs', q', tx', n', u0, u1, u2, u3, u4, u5, u6, u7, u8, hv', hm⟩ := hw'
  obtain ⟨_, _, hmx', hmd'⟩ := ws_mem hm
  clear hm hv'
  unfold SpecC
  k_fill
  intros; rename_i hret
  k_dflt cell_enter
  rename Fr _ _ _ _ => F0
  rename News _ _ _ _ => N0
  walk_at "steps to call"
  refine wpAny_call ?_
  refine (spec_run w x ws nt ns _ hw hn).use (by k_asm) F0 (by k_asm) N0 (by k_asm) rfl (by ktr_room) (by ktr_units) ?_
  rintro r nw h1 tk1 ⟨rfl, tr, rfl⟩ F1 N1
  dsimp only [List.nil_append] at N1 ⊢
  clear F0 N0
  walk_at "steps to call"
  refine wpAny_call ?_
  refine (spec_run w x' ws' nt' ns' _ hw' hn').use (by k_asm) F1 (by k_asm) N1 (by k_asm) rfl (by ktr_room) (by ktr_units) ?_
  rintro r nw h2 tk2 ⟨rfl, tr', rfl⟩ F2 N2
  dsimp only [List.nil_append] at N2 ⊢
  clear F1 N1
  walk_at "steps to for"
  rename Fr _ _ _ _ => F3
  refine For_T F3 ?_
  walk_at "steps"
  rename IsRange _ _ _ _ _ _ _ _ => hr
  rename Fr _ _ _ _ => F4
  rename News _ _ _ _ => N4
  rw [wit_bound] at hr
  rename ∀ p ∈ news, p.1 < _ => hna
  refine loop_range (n := witN ns ns') (by rfl) hr (wit_small ns ns') (wit_size ns ns') (by rfl) (by rfl) F4 N4 (fun i m nw => ∃ uts a v, m = witM x x' uts a v ∧ AccJ a (witD nt nt' ns ns' i) news nw) ?h0 ?st ?dn
  case h0 =>
    refine ⟨none, _, _, wit_start ?_ ?_, [], 0, [], rfl, RVA.nil, rfl, fun p hp => Nat.ne_of_lt (hna p hp), hna, fun p hp => nomatch hp⟩
    · rfl
    · intro y h1
      by_cases h4 : y = Str.ofString "self"
      · subst h4; rfl
      by_cases h5 : y = Str.ofString "other"
      · subst h5; rfl
      simp only [if_neg h4, if_neg h5]
      show List.lookup y [(Str.ofString "other", Value.ref x'), (Str.ofString "self", Value.ref x)] = none
      simp only [List.lookup, beq_eq_false_iff_ne.mpr h4, beq_eq_false_iff_ne.mpr h5]
  case st =>
    clear F4 N4 hr
    rintro I oI i u m₁ news₁ h tk hi htk ⟨uts, a, va, rfl, vs3, k3, own2, rfl, hR, hlen, hne, hba, hbo⟩ hoff F5 N5 gg tt
    refine fend_gen fun Q9 J9 hJ9 => ?_
    have hts := wit_ts hi
    replace N5 := wit_in N5
    have hwl : WsIn w.params ((a, W.listOf vs3.toArray k3) :: (own2 ++ (news ++ [(I, oI)]))) x ws nt 1 ns := hw.mono fun e he => List.mem_cons_of_mem _ (List.mem_append_right _ (List.mem_append_left _ he))
    have hwl' : WsIn w.params ((a, W.listOf vs3.toArray k3) :: (own2 ++ (news ++ [(I, oI)]))) x' ws' nt' 1 ns' := hw'.mono fun e he => List.mem_cons_of_mem _ (List.mem_append_right _ (List.mem_append_left _ he))
    unfold witM at F5
    walk_at "steps to call"
    refine wpAny_call ?_
    refine (spec_level (1 + (i : Int)) _ w x ws nt ns _ hwl hn hts).use (by k_asm) F5 (by k_asm) N5 (by k_asm) rfl (by ktr_room) (by ktr_units) ?_
    rintro r nw h7 tk7 ⟨rfl, tr7, rfl⟩ F7 N7
    dsimp only [List.nil_append] at N7 ⊢
    clear F5 N5
    walk_at "steps to call"
    refine wpAny_call ?_
    refine (spec_level (1 + (i : Int)) _ w x' ws' nt' ns' _ hwl' hn' hts).use (by k_asm) F7 (by k_asm) N7 (by k_asm) rfl (by ktr_room) (by ktr_units) ?_
    rintro r nw h8 tk8 ⟨rfl, tr8, rfl⟩ F8 N8
    dsimp only [List.nil_append] at N8 ⊢
    clear F7 N7
    walk_at "steps to call"
    · rename _ ≠ _ => hq
      refine wpAny_call ?_
      refine (spec_level (1 + (i : Int)) _ w x ws nt ns _ hwl hn hts).use (by k_asm) F8 (by k_asm) N8 (by k_asm) rfl (by ktr_room) (by ktr_units) ?_
      rintro r nw h9 tk9 ⟨rfl, tr9, rfl⟩ F9 N9
      dsimp only [List.nil_append] at N9 ⊢
      clear F8 N8
      walk_at "steps to call"
      refine wpAny_call ?_
      refine (spec_level (1 + (i : Int)) _ w x' ws' nt' ns' _ hwl' hn' hts).use (by k_asm) F9 (by k_asm) N9 (by k_asm) rfl (by ktr_room) (by ktr_units) ?_
      rintro r nw h10 tk10 ⟨rfl, tr10, rfl⟩ G2 M2
      dsimp only [List.nil_append] at M2 ⊢
      clear F9 N9
      walk_at "steps"
      rename Fr _ _ _ _ => G3
      rename News _ _ _ _ => M3
      have hT := ‹a < _ ∧ AllLt _ (own2 ++ (news ++ [(I, oI)]))›
      have hTa := hT.1
      have hTT := allLt_mem _ hT.2
      clear hT hwl hwl'
      have hkn : ∀ p ∈ own2 ++ (news ++ [(I, oI)]), p.1 ≠ a := fun p hp => by
        rcases wit_old hp with hp | hp
        · exact hne p hp
        · rw [List.mem_singleton.mp hp]; exact fun e => hoff (a, _) List.mem_cons_self (List.mem_singleton.mpr e.symm)
      refine acc_append G3 M3 hTa hkn (by rw [hlen]; exact Nat.le_trans (witD_len _ _ _ _ _) (wit_lt hi)) fun h' G4 M4 => ?_
      walk_at "steps"
      refine FEnd.of G4 M4 ((a, _) :: ((_ :: own2) ++ news)) (fun p hp => wit_out hp) ?_ (hJ9 _ _ ⟨some _, a, va, wit_turn, _, _, _ :: own2, rfl, ?_, ?_, ?_, hba, ?_⟩)
      · rintro p hp
        rcases List.mem_cons.mp hp with rfl | hp
        · exact (hoff (a, W.listOf vs3.toArray k3) List.mem_cons_self : a ∉ [I])
        · rcases List.mem_cons.mp hp with rfl | hp
          · exact fun e => Nat.ne_of_lt (hTT (I, oI) (List.mem_append_right _ (List.mem_append_right _ List.mem_cons_self))) (List.mem_singleton.mp e).symm
          · exact hoff p (List.mem_cons_of_mem _ hp)
      · rw [witD_next, if_neg hq]
        exact (hR.mono fun p hp => List.mem_cons_of_mem _ hp).snoc (RV.tup List.mem_cons_self (.cons (.int _ _) (.cons (.int _ _) (.cons (.int _ _) .nil))))
      · rw [witD_next, if_neg hq]; simp [hlen]
      · rintro p hp
        rcases List.mem_cons.mp hp with rfl | hp
        · exact fun e => Nat.ne_of_lt hTa e.symm
        · exact hne p hp
      · rintro p hp q hq
        rcases List.mem_cons.mp hp with rfl | hp
        · exact hTT q (List.mem_append_right _ (List.mem_append_left _ hq))
        · exact hbo p hp q hq
    · rename _ = _ => hq
      rename Fr _ _ _ _ => G3
      rename News _ _ _ _ => M3
      refine FEnd.of G3 M3 ((a, _) :: (own2 ++ news)) (fun p hp => wit_out2 hp) hoff (hJ9 _ _ ⟨some _, a, va, wit_turn, _, _, own2, rfl, ?_, ?_, hne, hba, hbo⟩)
      · rw [witD_next, if_pos hq, List.append_nil]; exact hR
      · rw [witD_next, if_pos hq, List.append_nil]; exact hlen
  case dn =>
    rintro h1' tk1' m1 news1 htk F5 N5 ⟨uts, a, va, rfl, vs3, k3, own2, rfl, hR, hlen, hne, hba, hbo⟩
    clear F4 N4 hr
    unfold witM at F5
    walk_at "steps"
    rename Fr _ _ _ _ => G3
    rename News _ _ _ _ => M3
    refine hret _ ((a, W.listOf vs3.toArray k3) :: (own2 ++ [])) _ _ ⟨a, rfl, ⟨_, _, own2, rfl, hR, hlen, fun p hp => hne p ?_, (fun q hq => nomatch hq), fun p hp q hq => nomatch hq⟩, fun p hp q hq => ?_⟩ G3 (fun p hp => M3 p ?_)
    · rw [List.append_nil] at hp; exact List.mem_append_left _ hp
    · rcases List.mem_cons.mp hp with rfl | hp
      · exact hba q hq
      · rw [List.append_nil] at hp; exact hbo p hp q hq
    · rw [List.append_nil] at hp; exact hp
end
-- T15
section
noncomputable def SpecT (w : World) (f : Addr) (vs : List Value) (news : Led) (pre : Nat → Prop) (R : Value → Led → Prop) (d : Nat := 20) (u : Nat := 128) : Prop :=
  ∀ (mean : ExcName → Option Value) (mg mb : Str → Option Value) (dp un : Nat) (gd : Option (List Code)) (cn : Str) (cs : Scope) (a : Addr) (ccd : Value) (cl : List (Str × Addr)) (outer : List Env) (A₀ : Around) (base h₀ : Heap) (L : Addr)
    (m : Str → Option Value) (s : Shared) (Q E : Value → Shared → Prop),
    Below A₀ base outer h₀ → Fr h₀ L s.heap m → (KK w.params).In h₀ → News h₀ L s.heap news → Top qv (looseW qv loose) mean mg mb h₀ → cs.kind = .function →
    dp + d < recursionLimit → un + u < cLine → pre s.toks →
    (∀ (r : Value) (nw : Led) (h' : Heap) (tk' : Nat), R r nw → Fr h₀ L h' m → News h₀ L h' (nw ++ news) → Q r { s with heap := h', toks := tk' }) →
      wpAny (model rr.prog w) (ktrTop dp un gd cn cs L a ccd cl outer) (call (.ref f) vs) Q E s
theorem SpecT.use {w : World} {f : Addr} {vs : List Value} {news : Led} {pre : Nat → Prop} {R : Value → Led → Prop} {d u : Nat} (S : SpecT w f vs news pre R d u) {mean : ExcName → Option Value} {mg mb : Str → Option Value} {dp un : Nat} {gd : Option (List Code)} {cn : Str} {cs : Scope} {a : Addr} {ccd : Value} {cl : List (Str × Addr)} {outer : List Env} {A₀ : Around} {base h₀ : Heap} {L : Addr}
    {m : Str → Option Value} {s : Shared} {Q E : Value → Shared → Prop}
    (B : Below A₀ base outer h₀) (F : Fr h₀ L s.heap m) (X : (KK w.params).In h₀) (N : News h₀ L s.heap news) (T : Top qv (looseW qv loose) mean mg mb h₀) (hk : cs.kind = .function) (hd : dp + d < recursionLimit) (hu : un + u < cLine) (hp : pre s.toks)
    (h : ∀ (r : Value) (nw : Led) (h' : Heap) (tk' : Nat), R r nw → Fr h₀ L h' m → News h₀ L h' (nw ++ news) → Q r { s with heap := h', toks := tk' }) :
    wpAny (model rr.prog w) (ktrTop dp un gd cn cs L a ccd cl outer) (call (.ref f) vs) Q E s :=
  S mean mg mb dp un gd cn cs a ccd cl outer A₀ base h₀ L m s Q E B F X N T hk hd hu hp h
theorem tok_up {M : Model} {A : Around} {α : Type} {t : Sem α} {Q : α → Shared → Prop} {E : Value → Shared → Prop} {s0 s1 : Shared} {h1 : Heap} {n : Nat} (h : ∀ tk, s0.toks ≤ tk → wpAny M A t Q E { s1 with heap := h1, toks := tk }) :
    wpAny M A t Q E { s1 with heap := h1, toks := s0.toks + n } := h _ (Nat.le_add_right _ _)
theorem booked0 (P : Params) : (boot_heap P).isNs 2 = true := by kernel_rfl
theorem booked1 (P : Params) : (boot_heap P).nsMap 2 sharingNotToldKey = none := by kernel_rfl
theorem booked2 (P : Params) : (boot_heap P).get? 2 = some (boot_o_2 P) := by kernel_rfl
theorem booked {P : Params} {h : Heap} (X : (KK P).In h) : NoneBooked h := by
  obtain ⟨o, es, ep, ho, r⟩ := Heap.Ns.of_isNs (booked0 P)
  rw [booked2 P] at ho
  cases ho
  exact ⟨_, ⟨boot_o_2 P, es, ep, X 2 _ rfl, r⟩, booked1 P⟩
theorem is_str {M : Model} {A : Around} {E : Value → Shared → Prop} {s : Shared} {y z : Str} {u v : Tok} {Q : Value → Shared → Prop} (hu : u ≠ 0) (hv : v ≠ 0) (huv : u ≠ v) (hb : NoneBooked s.heap) (hq : ∀ b, (y ≠ z → b = false) → Q (.bool b) s) :
    wpAny M A (compareOp .Is (.str y u) (.str z v)) Q E s := by
  show wpAny M A (do return .bool (← isSame (.str y u) (.str z v))) Q E s
  have h0 : (u == 0 || v == 0) = false := by simp [hu, hv]
  by_cases h : y = z
  · exact wpAny_bind (wpAny_isSame_str h0 hb fun b => wpAny_pure (hq b fun hn => absurd h hn))
  · exact wpAny_bind (wpAny_of_eq (isSame_str_other y z u v h0 (beq_eq_false_iff_ne.mpr huv) (beq_eq_false_iff_ne.mpr h)) (wpAny_pure (hq false fun _ => rfl)))
noncomputable def ixS (c : Nat) : Int := if c = 102 then 0 else if c = 105 then 1 else 2
noncomputable def ixM (ui uj : Option Value) (va vb : Value) : Str → Option Value := fun y =>
  if y = Str.ofString "j" then uj else if y = Str.ofString "i" then ui else if y = Str.ofString "b" then some vb else if y = Str.ofString "a" then some va else none
theorem ix_turn {ui uj : Option Value} {va vb vi vj : Value} : bindNames [Str.ofString "i", Str.ofString "j"] [vi, vj] (ixM ui uj va vb) = ixM (some vi) (some vj) va vb := by
  funext y
  show (if y = Str.ofString "j" then some vj else if y = Str.ofString "i" then some vi else ixM ui uj va vb y) = _
  unfold ixM
  by_cases h1 : y = Str.ofString "j"
  · subst h1; rfl
  by_cases h2 : y = Str.ofString "i"
  · subst h2; rfl
  simp only [if_neg h1, if_neg h2]
theorem fil_ix {i c : Nat} (h : (Str.ofString "fil").cps[i]? = some c) : ((i : Nat) : Int) = ixS c := by
  match i, h with
  | 0, h => cases h; rfl
  | 1, h => cases h; rfl
  | 2, h => cases h; rfl
  | n + 3, h =>
    rw [Array.getElem?_eq_none (by show 3 ≤ n + 3; lia)] at h
    cases h
theorem spec_ix (w : World) (c : Nat) (tx u : Tok) (news : Led) (hc : c = 102 ∨ c = 105 ∨ c = 108) : SpecT w 115 [.str (Str.ofString "fil") tx, .str ⟨#[c]⟩ u] news (fun n => 0 < u ∧ u < n) (fun r nw => nw = [] ∧ ∃ t, r = .int (ixS c) t) 60 512 := by
  w_on
  unfold SpecT
  k_fill
  intros; rename_i hpre hret
  obtain ⟨hp0, hp1⟩ := hpre
  refine wpAny_call ?_
  k_dflt cell_enter
  refine tok_up fun tk0 htk0 => ?_
  walk_at "steps to for"
  rename Fr _ _ _ _ => F1
  rename News _ _ _ _ => N1
  refine For_T F1 ?_
  walk_at "steps to tuple"
  refine loop_enum (by rfl) (by rfl) (by rfl) (by rfl) F1 N1 (fun i m nw => nw = news ∧ (∃ ui uj, m = ixM ui uj (.str (Str.ofString "fil") tx) (.str ⟨#[c]⟩ u)) ∧ ∀ k < i, (Str.ofString "fil").cps[k]? ≠ some c) ?h0 ?st ?dn
  case h0 =>
    refine ⟨rfl, ⟨none, none, ?_⟩, fun k hk => absurd hk (Nat.not_lt_zero _)⟩
    funext y
    show List.lookup y [(Str.ofString "b", Value.str ⟨#[c]⟩ u), (Str.ofString "a", Value.str (Str.ofString "fil") tx)] = _
    unfold ixM
    by_cases h1 : y = Str.ofString "j"
    · subst h1; rfl
    by_cases h2 : y = Str.ofString "i"
    · subst h2; rfl
    by_cases h3 : y = Str.ofString "b"
    · subst h3; rfl
    by_cases h4 : y = Str.ofString "a"
    · subst h4; rfl
    simp only [if_neg h1, if_neg h2, if_neg h3, if_neg h4, List.lookup, beq_eq_false_iff_ne.mpr h3, beq_eq_false_iff_ne.mpr h4]
  case st =>
    rintro e it i cj ti uj m₁ news₁ h tk own hcj hu1 hu2 ⟨rfl, ⟨ui, uj', rfl⟩, hno⟩ hoff F5 N5 g5 t5
    rw [ix_turn] at F5
    unfold ixM at F5
    clear F1 N1
    dsimp only at hu1 hu2 ⊢
    walk_at "steps"
    have hlt : @LT.lt Nat _ u uj := Nat.lt_of_lt_of_le hp1 (Nat.le_trans htk0 hu1)
    have hu0 : u ≠ 0 := Nat.pos_iff_ne_zero.mp hp0
    have huj : uj ≠ 0 := Nat.pos_iff_ne_zero.mp (Nat.lt_trans hp0 hlt)
    have hne : uj ≠ u := Nat.ne_of_gt hlt
    refine is_str huj hu0 hne (booked (Frag.In.keeps ‹_› F5.keep)) fun b hb => ?_
    by_cases hcc : cj = c
    · subst hcc
      have hix := fil_ix hcj
      cases b
      · walk_at "steps"
        · dsimp only [FEnd]
          walk_at "steps"
          refine hret _ [] _ _ ⟨rfl, ti, by rw [hix]⟩ (by k_asm) (fun p hp => (‹News _ _ _ (news₁ ++ own)› : News _ _ h (news₁ ++ own)) p (List.mem_append_left own hp))
        · rename _ = false => hf
          simp at hf
      · walk_at "steps"
        dsimp only [FEnd]
        walk_at "steps"
        refine hret _ [] _ _ ⟨rfl, ti, by rw [hix]⟩ (by k_asm) (fun p hp => (‹News _ _ _ (news₁ ++ own)› : News _ _ h (news₁ ++ own)) p (List.mem_append_left own hp))
    · have hbf := hb (fun e => hcc (by injection e with e; simpa using e))
      subst hbf
      walk_at "steps"
      · rename _ = true => hf
        simp [hcc] at hf
      · refine FEnd.of F5 N5 news₁ (fun p hp => ?_) hoff ⟨rfl, ⟨_, _, rfl⟩, fun k hk => ?_⟩
        · rcases List.mem_append.mp hp with hp | hp
          · exact List.mem_append_right _ hp
          · exact List.mem_append_left _ hp
        · rcases Nat.lt_succ_iff_lt_or_eq.mp hk with hk | rfl
          · exact hno k hk
          · rw [hcj]; exact fun e => hcc (Option.some.inj e)
  case dn =>
    rintro h1 tk1 m1 news1 htk F5 N5 ⟨rfl, ⟨ui, uj, rfl⟩, hno⟩
    exfalso
    rcases hc with rfl | rfl | rfl
    · exact hno 0 (by decide) rfl
    · exact hno 1 (by decide) rfl
    · exact hno 2 (by decide) rfl
end
-- C12
section
section
variable {prog : Program} {w : World} {A : Around} {E : Value → Shared → Prop} {s : Shared} {h₀ : Heap} {L : Addr} {m : Str → Option Value} {env : Env}
/-- a block over two lists drawn together -/
theorem zip2_block {elt : PySem.Expr} {ifs : List PySem.Expr} {scope : Scope} {cl : List (Str × Addr)} {ys : List (Str × Pos)} {k : Nat} {pos : Pos} {l1 l2 : Addr} {xs us : Array Value} {k1 k2 : Nat} {news : Led} {Fin : Shared → List Value → Led → Prop}
    (hh : A.handled = none) (F : Fr h₀ L s.heap m) (N : News h₀ L s.heap news) (hl1 : (l1, W.listOf xs k1) ∈ news) (hl2 : (l2, W.listOf us k2) ∈ news) (hsz : xs.size ≤ 1000) (hys : ys.length = 2) (hkind : scope.kind = .function) (hy : ∀ y ∈ ys, scope.names.lookup y.1 = some .local)
    (J : Nat → List Value → Led → Prop) (h0 : J 0 [] news)
    (step : ∀ (wr : List Addr) i (xv uv : Value) oC C D m' zs news₁ h tk own (E' : Value → Shared → Prop), xs[i]? = some xv → us[i]? = some uv → s.toks ≤ tk → J i zs news₁ → (∀ b ∈ wr, ∃ o, (b, o) ∈ own) → NsObj oC (bindNames (ys.map (·.1)) [xv, uv] m') → Fr h₀ L h m → News h₀ L h ((C, oC) :: (D, lst zs) :: (own ++ news₁)) → C ≠ D → OffT C D wr news₁ →
      ∀ g t, TestsAt prog w A ifs (compEnvC scope cl C env) (fun ok s₃ => if ok = true then wpAny (model prog w) A (eval elt (compEnvC scope cl C env)) (fun y s₄ => TEnd h₀ L m { s with heap := g, toks := t } C oC D (lst zs) wr own (J (i + 1) (zs ++ [y])) s₄) E' s₃
        else TEnd h₀ L m { s with heap := g, toks := t } C oC D (lst zs) wr own (J (i + 1) zs) s₃) E' { s with heap := h, toks := tk })
    (hlen : ∀ i zs nw, J i zs nw → zs.length ≤ i) (fin : ∀ g zs nw, J (min xs.size us.size) zs nw → Fin { s with heap := g } zs nw) :
    wpAny (model prog w) A (call (.type "zip") [.ref l1, .ref l2]) (fun xv s₁ => wpAny (model prog w) A (pyIter xv) (BlockAt prog w A h₀ L m env elt (.Tuple (ys.map fun y => PySem.Expr.Name y.1 y.2) k pos) ifs scope cl Fin) E s₁) E s := by
  have e1 := N _ hl1
  have e2 := N _ hl2
  have lt1 : l1 < s.heap.objs.size := Heap.lt_size e1.1
  have lt2 : l2 < s.heap.objs.size := Heap.lt_size e2.1
  refine call_zip_2 (xs := xs) (ys := us) ⟨_, e1.1, rfl, _, rfl⟩ ⟨_, e2.1, rfl, _, rfl⟩ fun h' hz hTI hTO it1 it2 hsz' hk => ?_
  have hLlt : L < s.heap.objs.size := F.ns.lt
  have D : ZipApart (s.heap.objs.size + 4) (s.heap.objs.size + 2) (s.heap.objs.size + 3) s.heap.objs.size (s.heap.objs.size + 1) l1 l2 := by
    have lt1' : @LT.lt Nat _ l1 s.heap.objs.size := lt1
    have lt2' : @LT.lt Nat _ l2 s.heap.objs.size := lt2
    constructor <;> (show @Ne Nat _ _; lia)
  refine wpAny_pyIter_zip hz ?_
  have fr : ∀ c, @LE.le Nat _ s.heap.objs.size c → h₀.get? c = none := fun c hc => fresh_none F hc
  have W := WalksT.zip2 (prog := prog) (w := w) hh _ _ _ _ _ l1 l2 D xs us
  refine blockAt_tup (s := { s with heap := h' }) (Pt := fun i vals _ => ∃ xv uv, xs[i]? = some xv ∧ us[i]? = some uv ∧ vals = #[xv, uv]) hh (TTurns.ofK (KTurns.ofWalksU W.toU) _) ?self (fun _ _ _ _ _ h => h) ?size ?n ?st ?fp (F.keeps hk) (fun p hp => ⟨hk _ _ (N p hp).1, (N p hp).2⟩) ?lf ?wr ?nw hkind hy J h0 ?step hlen (fun g zs nw hJ => fin g zs nw hJ)
  case self => exact fun s' Q E hst hq => W.self 0 s' Q E hst hq
  case size =>
    rintro i v tk ⟨xv, uv, _, _, rfl⟩
    exact hys.symm
  case n => rw [sizeLine_eq]; lia
  case st => exact ⟨hz, hTI, ⟨_, _, hTO⟩, it1, it2, ⟨_, hk _ _ e1.1, rfl, _, rfl⟩, ⟨_, hk _ _ e2.1, rfl, _, rfl⟩⟩
  case fp =>
    intro b hb
    simp only [List.mem_cons, List.not_mem_nil, or_false] at hb
    show b < h'.objs.size
    rw [hsz']
    simp only [Addr] at *
    rcases hb with rfl | rfl | rfl | rfl | rfl | rfl | rfl <;> lia
  case lf =>
    intro hm
    simp only [List.mem_cons, List.not_mem_nil, or_false] at hm
    have n1 := e1.2.1
    have n2 := e2.2.1
    simp only [Addr] at *
    lia
  case wr =>
    intro b hb
    simp only [List.mem_cons, List.not_mem_nil, or_false] at hb
    rcases hb with rfl | rfl | rfl | rfl
    · exact fr _ (by lia)
    · exact fr _ (by lia)
    · exact fr _ (by lia)
    · exact fr _ (by lia)
  case nw =>
    intro p hp hm
    have hlt : p.1 < s.heap.objs.size := Heap.lt_size (N p hp).1
    simp only [List.mem_cons, List.not_mem_nil, or_false] at hm
    simp only [Addr] at *
    lia
  case step =>
    rintro i vals oC C D m' zs news₁ h tk own E' hi ⟨xv, uv, h1, h2, rfl⟩ htk hJ hown hmem hst hoC F' N' hCD hoff g t
    refine step [s.heap.objs.size + 4, s.heap.objs.size + 3, s.heap.objs.size, s.heap.objs.size + 1] i xv uv oC C D m' zs news₁ h tk own E' h1 h2 htk hJ ?_ hoC F' N' hCD hoff g t
    obtain ⟨gz, gTI, ⟨a, b, gTO⟩, gi1, gi2, _⟩ := hst
    intro c hc
    have hf : h₀.get? c = none := by
      simp only [List.mem_cons, List.not_mem_nil, or_false] at hc
      rcases hc with rfl | rfl | rfl | rfl <;> exact fr _ (by lia)
    simp only [List.mem_cons, List.not_mem_nil, or_false] at hc
    rcases hc with rfl | rfl | rfl | rfl
    · exact ⟨_, hmem _ (by simp) hf _ gz⟩
    · exact ⟨_, hmem _ (by simp) hf _ gTO⟩
    · obtain ⟨o, ho, _⟩ := gi1; exact ⟨_, hmem _ (by simp) hf _ ho⟩
    · obtain ⟨o, ho, _⟩ := gi2; exact ⟨_, hmem _ (by simp) hf _ ho⟩
end
end
-- Z1
section
section
variable {prog : Program} {w : World} {A : Around} {E : Value → Shared → Prop} {s : Shared}
noncomputable abbrev IsTupL (h : Heap) (T : Addr) (vs : Array Value) : Prop := h.get? T = some { cls := .type "tuple", data := .seq vs }
theorem upd_tup {T : Addr} {vs : Array Value} {x : Value} {k : Nat} {Q : Unit → Shared → Prop} (hv : vs.size ≤ 8) (hT : IsTupL s.heap T vs)
    (h : ∀ h', IsTupL h' T (vs.setIfInBounds k x) → Heap.SameBut T s.heap h' → Q () { s with heap := h' }) : wpAny (model prog w) A (updateSeq T (·.setIfInBounds k x)) Q E s := by
  refine wpAny_updateSeq hT rfl (h _ ?_ (Heap.SameBut.update ..)) (by rw [sizeLine_eq]; lia) (by rw [Array.size_setIfInBounds, sizeLine_eq]; lia)
  show Heap.get? _ T = _
  rw [Heap.get?_update_self _ hT rfl]
  simp [Obj.mapSeq]
noncomputable def ZipE (z TI TO : Addr) (E : Value → Shared → Prop) (e : Value) (s' : Shared) : Prop := IsZip s'.heap z TI TO .ellipsis ∧ ∀ h', IsZip h' z TI TO .none → Heap.SameBut z s'.heap h' → E e { s' with heap := h' }
/-- what stands once the tuple is handed out -/
noncomputable def ZipQ (z TI TO : Addr) (vs : Array Value) (Q : Value → Shared → Prop) (s₄ : Shared) : Prop :=
  IsZip s₄.heap z TI TO .ellipsis ∧ ∀ h₅, IsZip h₅ z TI TO (rawInt s₄.heap.objs.size) → IsTupL h₅ TO vs → IsTupL h₅ s₄.heap.objs.size vs → (∀ c o, c ≠ z → c ≠ TO → s₄.heap.get? c = some o → h₅.get? c = some o) → Q (.ref s₄.heap.objs.size) { s₄ with heap := h₅ }
theorem zip_out {z TI TO : Addr} {vs : Array Value} {Q : Value → Shared → Prop} (hv : vs.size ≤ 8) (hTz : TO ≠ z) (hTO : IsTupL s.heap TO vs) (hz : IsZip s.heap z TI TO .ellipsis)
    (h : ∀ h₅, IsZip h₅ z TI TO (rawInt s.heap.objs.size) → IsTupL h₅ TO vs → IsTupL h₅ s.heap.objs.size vs → (∀ c o, c ≠ z → s.heap.get? c = some o → h₅.get? c = some o) → Q (.ref s.heap.objs.size) { s with heap := h₅ }) :
    wpAny (model prog w) A (do
      let result ← newTuple vs.toList
      Builtin.SmallTypes.ownedTupleHandOut (.ref z) result
      return ← ret result) (fun fin s' => ∃ v, fin = Fin.done (.ret v) ∧ Q v s') E s := by
  refine wpAny_bind (wpAny_newTuple ?_ (by rw [Array.length_toList, sizeLine_eq]; lia))
  have hlt : z < s.heap.objs.size := Heap.lt_size hz
  show wpAny _ _ (Builtin.SmallTypes.ownedTupleHandOut (.ref z) (.ref s.heap.objs.size) >>= _) _ _ _
  refine wpAny_bind ?_
  unfold Builtin.SmallTypes.ownedTupleHandOut
  have hT : IsTupL (s.heap.push { cls := .type "tuple", data := .seq vs.toList.toArray }) s.heap.objs.size vs := by
    exact Heap.get?_push_size _ rfl
  have hz₆ : IsZip (s.heap.push { cls := .type "tuple", data := .seq vs.toList.toArray }) z TI TO .ellipsis := Heap.get?_push_of_some _ hz
  refine wpAny_bind (wpAny_setField_rec hz₆ (by simp) fun h₇ hz₇ hs₇ => ?_)
  replace hz₇ : IsZip h₇ z TI TO (rawInt s.heap.objs.size) := hz₇
  refine wpAny_setField_rec hz₇ (by simp) fun h₈ hz₈ hs₈ => ?_
  replace hz₈ : IsZip h₈ z TI TO (rawInt s.heap.objs.size) := hz₈
  have k : Stays z (s.heap.push { cls := .type "tuple", data := .seq vs.toList.toArray }) h₈ := (Stays.of hs₇).trans (Stays.of hs₈)
  refine wpAny_pure ⟨_, rfl, h h₈ hz₈ (k _ _ hTz (Heap.get?_push_of_some _ hTO)) (k _ _ (Nat.ne_of_gt hlt) hT) fun c o hc e => k c o hc (Heap.get?_push_of_some _ e)⟩
theorem zip2_step {z TI TO i1 i2 : Addr} {a b : Value} {Q : Value → Shared → Prop} (hTOz : TO ≠ z)
    (hz : IsZip s.heap z TI TO .none) (hTI : IsTupL s.heap TI #[.ref i1, .ref i2]) (hTO : IsTupL s.heap TO #[a, b])
    (h : ∀ h₁, Heap.SameBut z s.heap h₁ → IsZip h₁ z TI TO .ellipsis → wpAny (model prog w) A (Builtin.SmallTypes.nextOf (.ref i1)) (fun x s₂ => IsTupL s₂.heap TO #[a, b] ∧ ∀ h₃, IsTupL h₃ TO #[x, b] → Heap.SameBut TO s₂.heap h₃ →
      wpAny (model prog w) A (Builtin.SmallTypes.nextOf (.ref i2)) (fun y s₄ => IsTupL s₄.heap TO #[x, b] ∧ ZipQ z TI TO #[x, y] Q s₄) (ZipE z TI TO E) { s₂ with heap := h₃ }) (ZipE z TI TO E) { s with heap := h₁ }) :
    wpAny (model prog w) A (Builtin.«zip.__next__» ⟨[.ref z], []⟩) (fun fin s' => ∃ v, fin = .done (.ret v) ∧ Q v s') E s := by
  show wpAny _ _ (field (.ref z) 2 >>= _) _ _ _
  refine wpAny_bind (wpAny_field hz rfl (x := .bool false) rfl ?_)
  show wpAny _ _ (field (.ref z) 3 >>= _) _ _ _
  refine wpAny_bind (wpAny_field hz rfl (x := .ref TI) rfl ?_)
  refine wpAny_bind (wpAny_seqItems hTI rfl ?_)
  show wpAny _ _ (Builtin.SmallTypes.ownedTupleIsFree (.ref z) >>= _) _ _ _
  refine wpAny_bind ?_
  unfold Builtin.SmallTypes.ownedTupleIsFree
  refine wpAny_bind (wpAny_field hz rfl (x := .none) rfl (wpAny_pure ?_))
  simp only [if_true]
  refine wpAny_bind (wpAny_rule ?_)
  refine wpAny_bind (wpAny_field hz rfl (x := .ref TO) rfl ?_)
  refine wpAny_bind (wpAny_setField_rec hz (by simp) fun h₁ hz₁ hs₁ => ?_)
  replace hz₁ : IsZip h₁ z TI TO .ellipsis := hz₁
  refine wpAny_bind ?_
  simp only [List.zipIdx_cons, List.zipIdx_nil, List.forIn_cons, List.forIn_nil]
  have fails : ∀ e s', ZipE z TI TO E e s' → wpAny (model prog w) A (setField (.ref z) 0 .none) (fun _ s'' => E e s'') E s' := fun e s' he =>
    wpAny_setField_rec he.1 (by simp) fun h' hz' hs' => he.2 h' hz' hs'
  refine wpAny_bind (wpAny_bind (wpAny_onRaise ?_))
  show wpAny _ _ (Builtin.SmallTypes.nextOf (.ref i1) >>= _) _ _ _
  refine wpAny_bind (wpAny_mono (h h₁ hs₁ hz₁) (fun x s₂ hx => wpAny_pure ?_) fails)
  obtain ⟨hTO₂, hx⟩ := hx
  refine wpAny_bind (wpAny_seqItems hTO₂ rfl ?_)
  refine wpAny_bind (upd_tup (by simp) hTO₂ fun h₃ hTO₃ hs₃ => ?_)
  refine wpAny_bind (wpAny_letGo (wpAny_pure ?_))
  refine wpAny_bind (wpAny_bind (wpAny_onRaise ?_))
  show wpAny _ _ (Builtin.SmallTypes.nextOf (.ref i2) >>= _) _ _ _
  refine wpAny_bind (wpAny_mono (hx h₃ hTO₃ hs₃) (fun y s₄ hy => wpAny_pure ?_) fails)
  obtain ⟨hTO₄, hz₄, hq⟩ := hy
  refine wpAny_bind (wpAny_seqItems hTO₄ rfl ?_)
  refine wpAny_bind (upd_tup (by simp) hTO₄ fun h₅ hTO₅ hs₅ => ?_)
  refine wpAny_bind (wpAny_letGo (wpAny_pure (wpAny_pure ?_)))
  refine wpAny_bind (wpAny_seqItems hTO₅ rfl ?_)
  refine zip_out (by simp) hTOz hTO₅ (hs₅.extBut _ _ hTOz.symm hz₄) fun h₆ hz₆ hTO₆ hT₆ hk₆ => ?_
  have hsz : h₅.objs.size = s₄.heap.objs.size := hs₅.1
  rw [show ({ s₄ with heap := h₅ } : Shared).heap.objs.size = s₄.heap.objs.size from hsz] at hz₆ hT₆ ⊢
  exact hq h₆ hz₆ hTO₆ hT₆ fun c o c1 c2 e => hk₆ c o c1 (hs₅.extBut c o c2 e)
end
end
-- Z2
section
section
variable {prog : Program} {w : World}
noncomputable abbrev zipObj (TI TO : Addr) : Obj := { cls := .type "zip", data := .fields #[.none, .bool false, .bool false, .ref TI, .ref TO] }
theorem newClass_zip (rest : List Value) : Builtin.SmallTypes.newClass "zip" ⟨.type "zip" :: rest, []⟩ = pure (.type "zip", rest) := by
  unfold Builtin.SmallTypes.newClass
  show (isType (.type "zip") >>= fun b => _) = _
  show (isSubtype (.type "zip") (.type "zip") >>= fun b => _) = _
  rw [sub_zip]
  rfl
theorem zip_made {A : Around} {R : Result → Shared → Prop} {s : Shared} (its : List Value) (hl : its.length ≤ 8) (h : R (.ok (.ret (.ref ((s.heap.push { cls := .type "tuple", data := .seq its.toArray }).push { cls := .type "tuple", data := .seq (its.map fun _ => Value.none).toArray }).objs.size)))
        { s with heap := ((s.heap.push { cls := .type "tuple", data := .seq its.toArray }).push { cls := .type "tuple", data := .seq (its.map fun _ => Value.none).toArray }).push (zipObj s.heap.objs.size (s.heap.push { cls := .type "tuple", data := .seq its.toArray }).objs.size) }) :
    wpAny (model prog w) A (do ret (← Builtin.SmallTypes.newRecord (.type "zip") (Builtin.SmallTypes.ownedTupleFields ++ [.bool false, ← newTuple its, ← newTuple (its.map fun _ => .none)]))) (fun fin s' => ∃ v, fin = Fin.done (.ret v) ∧ R (.ok (.ret v)) s') (fun e s' => R (.error e) s') s := by
  refine wpAny_bind (wpAny_newTuple ?_ (by rw [sizeLine_eq]; lia))
  refine wpAny_bind (wpAny_newTuple ?_ (by rw [sizeLine_eq, List.length_map]; lia))
  unfold Builtin.SmallTypes.newRecord
  dsimp only
  exact wpAny_bind (wpAny_newObj_type (wpAny_pure ⟨_, rfl, h⟩) (by simp [sizeOk, Builtin.SmallTypes.ownedTupleFields, sizeLine_eq]))
theorem zip_iters2 {A : Around} {E : Value → Shared → Prop} {s : Shared} {v1 v2 : Value} {Q : List Value → Shared → Prop} (h : wpAny (model prog w) A (pyIter v1) (fun i1 s₁ => wpAny (model prog w) A (pyIter v2) (fun i2 s₂ => Q [i1, i2] s₂) E s₁) E s) :
    wpAny (model prog w) A (Builtin.SmallTypes.iterAll [v1, v2]) Q E s := by
  unfold Builtin.SmallTypes.iterAll
  simp only [List.forIn_cons, List.forIn_nil]
  refine wpAny_bind (wpAny_bind (wpAny_bind (wpAny_holding (wpAny_mono h (fun i1 s₁ h₁ => wpAny_pure ?_) fun _ _ e => e))))
  refine wpAny_bind (wpAny_bind (wpAny_holding (wpAny_mono h₁ (fun i2 s₂ h₂ => wpAny_pure ?_) fun _ _ e => e)))
  exact wpAny_pure (wpAny_pure h₂)
theorem zip_new2 (v1 v2 : Value) : MeetsIn prog w (Builtin.«zip.__new__» ⟨[.type "zip", v1, v2], []⟩) (fun A R s => wpAny (model prog w) A.in1 (pyIter v1) (fun i1 s₁ => wpAny (model prog w) A.in1 (pyIter v2) (fun i2 s₂ =>
      R (.ok (.ret (.ref ((s₂.heap.push { cls := .type "tuple", data := .seq #[i1, i2] }).push { cls := .type "tuple", data := .seq #[.none, .none] }).objs.size)))
        { s₂ with heap := ((s₂.heap.push { cls := .type "tuple", data := .seq #[i1, i2] }).push { cls := .type "tuple", data := .seq #[.none, .none] }).push (zipObj s₂.heap.objs.size (s₂.heap.push { cls := .type "tuple", data := .seq #[i1, i2] }).objs.size) })
      (fun e s' => R (.error e) s') s₁) (fun e s' => R (.error e) s') s) :=
  .of_wp fun A R s h => by
    unfold Builtin.«zip.__new__»
    rw [newClass_zip]
    refine wpAny_bind (wpAny_pure ?_)
    dsimp only [List.length_nil]
    rw [if_neg (by decide)]
    refine wpAny_bind ?_
    refine zip_iters2 ?_
    exact wpAny_mono h (fun i1 s₁ h₁ => wpAny_mono h₁ (fun i2 s₂ h₂ => zip_made [i1, i2] (by simp) h₂) fun _ _ e => e) fun _ _ e => e
theorem zip_iters3 {A : Around} {E : Value → Shared → Prop} {s : Shared} {v1 v2 v3 : Value} {Q : List Value → Shared → Prop} (h : wpAny (model prog w) A (pyIter v1) (fun i1 s₁ => wpAny (model prog w) A (pyIter v2) (fun i2 s₂ => wpAny (model prog w) A (pyIter v3) (fun i3 s₃ => Q [i1, i2, i3] s₃) E s₂) E s₁) E s) :
    wpAny (model prog w) A (Builtin.SmallTypes.iterAll [v1, v2, v3]) Q E s := by
  unfold Builtin.SmallTypes.iterAll
  simp only [List.forIn_cons, List.forIn_nil]
  refine wpAny_bind (wpAny_bind (wpAny_bind (wpAny_holding (wpAny_mono h (fun i1 s₁ h₁ => wpAny_pure ?_) fun _ _ e => e))))
  refine wpAny_bind (wpAny_bind (wpAny_holding (wpAny_mono h₁ (fun i2 s₂ h₂ => wpAny_pure ?_) fun _ _ e => e)))
  refine wpAny_bind (wpAny_bind (wpAny_holding (wpAny_mono h₂ (fun i3 s₃ h₃ => wpAny_pure ?_) fun _ _ e => e)))
  exact wpAny_pure (wpAny_pure h₃)
theorem typeCall_zip_3 (a b c : Value) : checkTypeCall "zip" ⟨[a, b, c], []⟩ = pure () := by kernel_rfl
theorem newCall_zip_3 (a b c : Value) : checkBuiltinCall "zip.__new__" ⟨[.type "zip", a, b, c], []⟩ = pure () := by kernel_rfl
theorem args_object_init_4 (a b c d : Value) : argsOk "object.__init__" ⟨[a, b, c, d], []⟩ := by
  unfold argsOk; kernel_rfl
theorem zip_new3 (v1 v2 v3 : Value) : MeetsIn prog w (Builtin.«zip.__new__» ⟨[.type "zip", v1, v2, v3], []⟩) (fun A R s => wpAny (model prog w) A.in1 (pyIter v1) (fun i1 s₁ => wpAny (model prog w) A.in1 (pyIter v2) (fun i2 s₂ => wpAny (model prog w) A.in1 (pyIter v3) (fun i3 s₃ =>
      R (.ok (.ret (.ref ((s₃.heap.push { cls := .type "tuple", data := .seq #[i1, i2, i3] }).push { cls := .type "tuple", data := .seq #[.none, .none, .none] }).objs.size)))
        { s₃ with heap := ((s₃.heap.push { cls := .type "tuple", data := .seq #[i1, i2, i3] }).push { cls := .type "tuple", data := .seq #[.none, .none, .none] }).push (zipObj s₃.heap.objs.size (s₃.heap.push { cls := .type "tuple", data := .seq #[i1, i2, i3] }).objs.size) })
      (fun e s' => R (.error e) s') s₂) (fun e s' => R (.error e) s') s₁) (fun e s' => R (.error e) s') s) :=
  .of_wp fun A R s h => by
    unfold Builtin.«zip.__new__»
    rw [newClass_zip]
    refine wpAny_bind (wpAny_pure ?_)
    dsimp only [List.length_nil]
    rw [if_neg (by decide)]
    refine wpAny_bind ?_
    refine zip_iters3 ?_
    exact wpAny_mono h (fun i1 s₁ h₁ => wpAny_mono h₁ (fun i2 s₂ h₂ => wpAny_mono h₂ (fun i3 s₃ h₃ => zip_made [i1, i2, i3] (by simp) h₃) fun _ _ e => e) fun _ _ e => e) fun _ _ e => e
theorem args_object_init_3 (a b c : Value) : argsOk "object.__init__" ⟨[a, b, c], []⟩ := F.args_object_init_3 a b c
theorem call_zip2 {A : Around} {E : Value → Shared → Prop} {s : Shared} {v1 v2 : Value} {Q : Value → Shared → Prop}
    (h : wpAny (model prog w) A.in1.in1 (pyIter v1) (fun i1 s₁ => wpAny (model prog w) A.in1.in1 (pyIter v2) (fun i2 s₂ => ∀ h', IsZip h' (s₂.heap.objs.size + 2) s₂.heap.objs.size (s₂.heap.objs.size + 1) .none → IsTupL h' s₂.heap.objs.size #[i1, i2] → IsTupL h' (s₂.heap.objs.size + 1) #[.none, .none] →
      (∀ c o, s₂.heap.get? c = some o → h'.get? c = some o) → Q (.ref (s₂.heap.objs.size + 2)) { s₂ with heap := h' }) E s₁) E s) :
    wpAny (model prog w) A (call (.type "zip") [v1, v2]) Q E s := by
  refine callType_newIn F.called_zip (by decide) (F.typeCall_zip_2 _ _) (F.newCall_zip_2 _ _) (fun obj => F.args_object_init_3 obj _ _) F.entry_zip_new (zip_new2 v1 v2) ?_
  refine wpAny_mono h (fun i1 s₁ h₁ => wpAny_mono h₁ (fun i2 s₂ h₂ => ?_) fun _ _ e => e) fun _ _ e => e
  have z1 : (s₂.heap.push { cls := .type "tuple", data := .seq #[i1, i2] }).objs.size = s₂.heap.objs.size + 1 := Heap.size_push ..
  have z2 : ((s₂.heap.push { cls := .type "tuple", data := .seq #[i1, i2] }).push { cls := .type "tuple", data := .seq #[.none, .none] }).objs.size = s₂.heap.objs.size + 2 := by rw [Heap.size_push, z1]
  show _ ∧ _
  rw [z1, z2]
  have g3 := Heap.get?_push_size ((s₂.heap.push { cls := .type "tuple", data := .seq #[i1, i2] }).push { cls := .type "tuple", data := .seq #[.none, .none] }) (o := zipObj s₂.heap.objs.size (s₂.heap.objs.size + 1)) rfl
  rw [z2] at g3
  have g2 := Heap.get?_push_of_some (zipObj s₂.heap.objs.size (s₂.heap.objs.size + 1)) (Heap.get?_push_size (s₂.heap.push { cls := .type "tuple", data := .seq #[i1, i2] }) (o := { cls := .type "tuple", data := .seq #[.none, .none] }) rfl)
  rw [z1] at g2
  exact ⟨⟨_, g3, rfl⟩, h₂ _ g3 (Heap.get?_push_of_some _ (Heap.get?_push_of_some _ (Heap.get?_push_size _ rfl))) g2 fun c o e => Heap.get?_push_of_some _ (Heap.get?_push_of_some _ (Heap.get?_push_of_some _ e))⟩
theorem call_zip3 {A : Around} {E : Value → Shared → Prop} {s : Shared} {v1 v2 v3 : Value} {Q : Value → Shared → Prop}
    (h : wpAny (model prog w) A.in1.in1 (pyIter v1) (fun i1 s₁ => wpAny (model prog w) A.in1.in1 (pyIter v2) (fun i2 s₂ => wpAny (model prog w) A.in1.in1 (pyIter v3) (fun i3 s₃ => ∀ h', IsZip h' (s₃.heap.objs.size + 2) s₃.heap.objs.size (s₃.heap.objs.size + 1) .none → IsTupL h' s₃.heap.objs.size #[i1, i2, i3] → IsTupL h' (s₃.heap.objs.size + 1) #[.none, .none, .none] →
      (∀ c o, s₃.heap.get? c = some o → h'.get? c = some o) → Q (.ref (s₃.heap.objs.size + 2)) { s₃ with heap := h' }) E s₂) E s₁) E s) :
    wpAny (model prog w) A (call (.type "zip") [v1, v2, v3]) Q E s := by
  refine callType_newIn F.called_zip (by decide) (typeCall_zip_3 _ _ _) (newCall_zip_3 _ _ _) (fun obj => args_object_init_4 obj _ _ _) F.entry_zip_new (zip_new3 v1 v2 v3) ?_
  refine wpAny_mono h (fun i1 s₁ h₁ => wpAny_mono h₁ (fun i2 s₂ h₂ => wpAny_mono h₂ (fun i3 s₃ h₃ => ?_) fun _ _ e => e) fun _ _ e => e) fun _ _ e => e
  have z1 : (s₃.heap.push { cls := .type "tuple", data := .seq #[i1, i2, i3] }).objs.size = s₃.heap.objs.size + 1 := Heap.size_push ..
  have z2 : ((s₃.heap.push { cls := .type "tuple", data := .seq #[i1, i2, i3] }).push { cls := .type "tuple", data := .seq #[.none, .none, .none] }).objs.size = s₃.heap.objs.size + 2 := by rw [Heap.size_push, z1]
  show _ ∧ _
  rw [z1, z2]
  have g3 := Heap.get?_push_size ((s₃.heap.push { cls := .type "tuple", data := .seq #[i1, i2, i3] }).push { cls := .type "tuple", data := .seq #[.none, .none, .none] }) (o := zipObj s₃.heap.objs.size (s₃.heap.objs.size + 1)) rfl
  rw [z2] at g3
  have g2 := Heap.get?_push_of_some (zipObj s₃.heap.objs.size (s₃.heap.objs.size + 1)) (Heap.get?_push_size (s₃.heap.push { cls := .type "tuple", data := .seq #[i1, i2, i3] }) (o := { cls := .type "tuple", data := .seq #[.none, .none, .none] }) rfl)
  rw [z1] at g2
  exact ⟨⟨_, g3, rfl⟩, h₃ _ g3 (Heap.get?_push_of_some _ (Heap.get?_push_of_some _ (Heap.get?_push_size _ rfl))) g2 fun c o e => Heap.get?_push_of_some _ (Heap.get?_push_of_some _ (Heap.get?_push_of_some _ e))⟩
end
end
-- G0
section
/-- this generator never ends by itself -/
noncomputable abbrev NoEnd : GenEnd := fun _ _ _ _ => False
section
variable {prog : Program} {w : World} {A : Around} {E : Value → Shared → Prop} {s : Shared}
theorem nextOf_gen {a : Addr} {g n : Nat} {gs : GenState} {Y : Protocol} {Q : Value → Shared → Prop} (hl : s.heap.NoLimit) (hroom : A.depth < recursionLimit) (hg : s.heap.IsGen a g) (hgs : s.gens[g]? = some gs)
    (hgo : gs.Goes (model prog w) A.in1 NoEnd Y n (.send .none) (s.setGen g .running))
    (hY : ∀ v s₁ gs', gs'.bare = true → Y (n - 1) (s.setGen g .running) v s₁ (fun r' s'' => match n with | 0 => False | m + 1 => gs'.Goes (model prog w) A.in1 NoEnd Y m r' s'') → Q v (s₁.setGen g gs')) :
    wpAny (model prog w) A (Builtin.SmallTypes.nextOf (.ref a)) Q E s := by
  unfold Builtin.SmallTypes.nextOf
  refine wpAny_bind (wpAny_callSpecial?_slot (name := Str.ofString "__next__") hg.typeIs slot_gen_next (wpAny_call_entry slot_gen_next hg.typeIs entry_gen_next ?_ (args_gen_next _)))
  show wpAny _ A.in1 (Builtin.Generator.genWake (.ref a) (.send .none)) _ _ s
  unfold Builtin.Generator.genWake
  refine wpAny_bind (wpAny_holding (wpAny_genNumber hg (wpAny_bind (wpAny_genState hgs ?_))))
  cases gs with
  | running => exact hgo.elim
  | finished => exact hgo.elim
  | _ =>
    refine wpAny_bind (wpAny_roomToWake hl hroom ?_)
    show wpAny _ A.in1 (.resume g (.send .none) [] _) _ _ s
    refine wpAny_resumeQ hgs hgo (fun x s₁ hx => hx.elim) (fun v s₁ gs' hb hv => ?_)
    exact wpAny_pure ⟨v, rfl, wpAny_pure (hY v s₁ gs' hb hv)⟩
end
section
variable {M : Model} {A : Around} {R : GenEnd} {Y : Protocol} {n : Nat} {s₀ : Shared} {c : Code} {fs : List Frame} {s : Shared} {env : Env}
  {K : Flow → Sem Fin} {H : Value → Sem Fin} {gd : Bool → Bool} {lv : List Value → List Value}
noncomputable abbrev NoE : Value → Shared → Prop := fun _ _ => False
/-- a statement within which nothing is handed out -/
theorem seg_stmt {st : Stmt} (h : wpAny M (A.over c fs) (exec st env) (fun f s' => Seg M A R Y n s₀ c (K f) fs s') NoE s) : Seg M A R Y n s₀ c ((exec st env).wrap K H gd lv) fs s :=
  seg_wrap (wpAny_mono h (fun _ _ x => x) fun _ _ x => x.elim)
/-- the frame of a loop's own code -/
noncomputable abbrev loopFrame (env : Env) (K : Flow → Sem Fin) (H : Value → Sem Fin) (gd : Bool → Bool) (lv : List Value → List Value) (c : Code) (p : Pos) : Frame :=
  .ret (fun r => ((match r with | .ok f => (.pure f : Sem Flow) | .error e => .raise e).onRaise fun (x : Value) => do
    if (← field x 1) == Value.none then unsupported "frame.own-activation:exception-without-traceback"
    setFlight x env.frame).wrap K H gd lv) none (gd false) (lv []) c p []
theorem seg_For {target iter : PySem.Expr} {body orelse : List Stmt} {pos : Pos} (hs : ∀ x, foldedSetIterable iter env x = pure x)
    (h : wpAny M (A.over c fs) (eval iter env) (fun x s₁ => wpAny M (A.over c fs) (pyIter x) (fun it s₂ => ∀ p, Seg M A R Y n s₀ (.forLoop target it body orelse env) (M.den (.forLoop target it body orelse env)) (loopFrame env K H gd lv c p :: fs) s₂) NoE s₁) NoE s) :
    Seg M A R Y n s₀ c ((exec (.For target iter body orelse pos) env).wrap K H gd lv) fs s := by
  show Seg M A R Y n s₀ c (.at pos fun _ => ((eval iter env >>= fun x => foldedSetIterable iter env x >>= fun x => standAt iter.pos >>= fun _ => holding [x] (pyIter x) >>= fun it => runOwn (.forLoop target it body orelse env) env)).wrap K H gd lv) fs s
  refine seg_at ?_
  rw [Sem.bind_eq_wrap', Sem.wrap_wrap]
  refine seg_wrap (wpAny_mono h (fun x s₁ h₁ => ?_) fun _ _ x => x.elim)
  simp only [hs x]
  show Seg M A R Y n s₀ c ((standAt iter.pos >>= fun _ => holding [x] (pyIter x) >>= fun it => runOwn (.forLoop target it body orelse env) env).wrap K H gd lv) fs s₁
  rw [Sem.bind_eq_wrap', Sem.wrap_wrap]
  refine seg_wrap (wpAny_standAt ?_)
  rw [Sem.bind_eq_wrap', Sem.wrap_wrap]
  refine seg_wrap (wpAny_holding (wpAny_mono h₁ (fun it s₂ h₂ => ?_) fun _ _ x => x.elim))
  exact seg_call h₂
theorem seg_If {test : PySem.Expr} {body orelse : List Stmt} {pos : Pos}
    (h : wpAny M (A.over c fs) (isTrue test env (eval test env)) (fun b s₁ => if b = true then Seg M A R Y n s₀ c ((execs body env).wrap K H gd lv) fs s₁ else Seg M A R Y n s₀ c ((execs orelse env).wrap K H gd lv) fs s₁) NoE s) :
    Seg M A R Y n s₀ c ((exec (.If test body orelse pos) env).wrap K H gd lv) fs s := by
  show Seg M A R Y n s₀ c (.at pos fun _ => (isTrue test env (eval test env) >>= fun b => if b = true then execs body env else execs orelse env).wrap K H gd lv) fs s
  refine seg_at ?_
  rw [Sem.bind_eq_wrap', Sem.wrap_wrap]
  refine seg_wrap (wpAny_mono h (fun b s₁ h₁ => ?_) fun _ _ x => x.elim)
  cases b with
  | true => rw [if_pos rfl] at h₁; exact h₁
  | false => rw [if_neg Bool.false_ne_true] at h₁; exact h₁
end
section
variable {prog : Program} {w : World} {A : Around} {R : GenEnd} {Y : Protocol} {n : Nat} {s₀ : Shared} {fs : List Frame} {s : Shared} {env : Env}
theorem seg_forLoop {target : PySem.Expr} {it : Value} {body orelse : List Stmt}
    (h : wpAny (model prog w) (A.over (.forLoop target it body orelse env) fs) (pyNext it) (fun r s₁ => match r with
        | none => False
        | some v => wpAny (model prog w) (A.over (.forLoop target it body orelse env) fs) (letOwnedTupleGo target it v) (fun _ s₂ => wpAny (model prog w) (A.over (.forLoop target it body orelse env) fs) (assign target env v) (fun _ s₃ =>
          ∀ H, Seg (model prog w) A R Y n s₀ (.forLoop target it body orelse env) ((execs body env).wrap (fun f => match f with
            | .next | .cont => .pure (.again (.forLoop target it body orelse env))
            | .brk => .pure (.done .next)
            | .ret v => .pure (.done (.ret v))) H id id) fs s₃) NoE s₂) NoE s₁) NoE s) :
    Seg (model prog w) A R Y n s₀ (.forLoop target it body orelse env) ((model prog w).den (.forLoop target it body orelse env)) fs s := by
  show Seg _ A R Y n s₀ _ ((forTurn target it body orelse env).onRaise (fun x => do noteFrame x env; theTreesLotGoes x)) fs s
  unfold forTurn
  rw [Sem.onRaise_eq_wrap, Sem.bind_eq_wrap', Sem.wrap_wrap]
  refine seg_wrap (wpAny_standAt ?_)
  rw [Sem.bind_eq_wrap', Sem.wrap_wrap]
  refine seg_wrap (wpAny_onRaise (wpAny_mono h (fun r s₁ h₁ => ?_) fun _ _ x => x.elim))
  cases r with
  | none => exact h₁.elim
  | some v =>
    dsimp only
    rw [Sem.bind_eq_wrap', Sem.wrap_wrap]
    refine seg_wrap (wpAny_mono h₁ (fun _ s₂ h₂ => ?_) fun _ _ x => x.elim)
    rw [Sem.bind_eq_wrap', Sem.wrap_wrap]
    refine seg_wrap (wpAny_mono h₂ (fun _ s₃ h₃ => ?_) fun _ _ x => x.elim)
    rw [Sem.bind_eq_wrap', Sem.wrap_wrap]
    rw [Sem.wrap_congr (execs body env) _ _ (K' := fun f => match f with
            | .next | .cont => .pure (.again (.forLoop target it body orelse env))
            | .brk => .pure (.done .next)
            | .ret v => .pure (.done (.ret v))) (H' := _) (fun f => by cases f <;> rfl) (fun e => rfl)]
    exact h₃ _
end
end
-- G1
section
/-- what a draw of the generator leaves: `N` draws are asked for, the first gives `a`, each other one `b` -/
noncomputable def YP (N : Nat) (h₀ : Heap) (Lg Ig l : Addr) (ol : Obj) (a b : Int) : Protocol := fun m s₀ v s' kap =>
  ∃ (h' : Heap) (tk : Nat) (mG : Str → Option Value) (oI : Obj) (t : Tok), s' = { s₀ with heap := h', toks := tk } ∧ v = .int (if m + 1 = N then a else b) t ∧ Fr h₀ Lg h' mG ∧ h'.get? Ig = some oI ∧
    (∀ c o, c ≠ Lg → c ≠ Ig → s₀.heap.get? c = some o → h'.get? c = some o) ∧
    (m ≠ 0 → ∀ s'', Fr h₀ Lg s''.heap mG → s''.heap.get? Ig = some oI → s''.heap.get? l = some ol → kap (.send .none) s'')
section
variable {prog : Program} {w : World} {A : Around} {fs : List Frame} {env : Env} {h₀ : Heap} {Lg Ig l : Addr} {ol : Obj} {a b : Int} {N : Nat}
theorem seg_forever {x : Str} {p1 p2 p3 p4 : Pos} {k : Nat} {orelse : List Stmt} (hL : env.locals = Lg) (hx : env.kindOf x = some .local) (hk : env.scope.kind = .function) (hd : (x == ("__debug__" : Str)) = false) (hco : env.scope.isCoroutine = false) (hi : interactive env = false)
    (hfs : splitAtGen fs = none) (hfg : fs.any Frame.guarded = false) :
    ∀ (n : Nat) (s₀ s : Shared) (mG : Str → Option Value) (oI : Obj) (t : Tok) (h : Heap) (tk : Nat), n + 1 < N → s = { s₀ with heap := h, toks := tk } → Fr h₀ Lg h mG → mG x = some (.int b t) → h.get? Ig = some oI → (∀ c o, c ≠ Lg → c ≠ Ig → s₀.heap.get? c = some o → h.get? c = some o) →
      Seg (model prog w) A NoEnd (YP N h₀ Lg Ig l ol a b) (n + 1) s₀ (.whileLoop (.Constant (.bool true) k p4) [.Expr (.Yield (some (.Name x p1)) p2) p3] orelse env) ((model prog w).den (.whileLoop (.Constant (.bool true) k p4) [.Expr (.Yield (some (.Name x p1)) p2) p3] orelse env)) fs s := by
  subst hL
  have one : ∀ (n : Nat) (s₀ : Shared) (mG : Str → Option Value) (oI : Obj) (t : Tok) (h : Heap) (tk : Nat), n + 1 < N → Fr h₀ env.locals h mG → mG x = some (.int b t) → h.get? Ig = some oI → (∀ c o, c ≠ env.locals → c ≠ Ig → s₀.heap.get? c = some o → h.get? c = some o) →
      (n ≠ 0 → ∀ s'', Fr h₀ env.locals s''.heap mG → s''.heap.get? Ig = some oI → s''.heap.get? l = some ol → Seg (model prog w) A NoEnd (YP N h₀ env.locals Ig l ol a b) n s'' (.whileLoop (.Constant (.bool true) k p4) [.Expr (.Yield (some (.Name x p1)) p2) p3] orelse env) ((model prog w).den (.whileLoop (.Constant (.bool true) k p4) [.Expr (.Yield (some (.Name x p1)) p2) p3] orelse env)) fs s'') →
      Seg (model prog w) A NoEnd (YP N h₀ env.locals Ig l ol a b) (n + 1) s₀ (.whileLoop (.Constant (.bool true) k p4) [.Expr (.Yield (some (.Name x p1)) p2) p3] orelse env) ((model prog w).den (.whileLoop (.Constant (.bool true) k p4) [.Expr (.Yield (some (.Name x p1)) p2) p3] orelse env)) fs { s₀ with heap := h, toks := tk } := by
    intro n s₀ mG oI t h tk hn F hm hI hkeep cont
    refine seg_whileLoop ?_
    repeat walk1
    refine seg_execs_cons (seg_Expr_Yield hfs rfl hfg (wpAny_Name (wpAny_loadName_local hk hx F.ns hm ?_) hd) hco hi)
    intro kap hkap
    refine ⟨h, tk, mG, oI, t, rfl, by rw [if_neg (Nat.ne_of_lt hn)], F, hI, hkeep, fun hn0 s'' F'' hI'' hl'' => hkap .none s'' ?_⟩
    exact seg_execs_nil (seg_again rfl (cont hn0 s'' F'' hI'' hl''))
  intro n
  induction n with
  | zero =>
    rintro s₀ s mG oI t h tk hn rfl F hm hI hkeep
    exact one 0 s₀ mG oI t h tk hn F hm hI hkeep fun h0 => absurd rfl h0
  | succ n ih =>
    rintro s₀ s mG oI t h tk hn rfl F hm hI hkeep
    exact one (n + 1) s₀ mG oI t h tk hn F hm hI hkeep fun _ s'' F'' hI'' hl'' => ih s'' s'' mG oI t s''.heap s''.toks (by lia) rfl F'' hm hI'' fun _ _ _ _ e => e
end
end
-- G2
section
local macro_rules | `(tactic| walk_at "gsteps") => `(tactic| repeat' ((fail_if_success (with_reducible show wpAny _ _ (storeName _ _ _) _ _ _)); first | (walk1; all_goals (try dsimp only)) | (dsimp only; walk1)))
noncomputable abbrev genv (Lg : Addr) : Env := envX (Str.ofString "_grouping_intervals") C5 Lg 94 (.ref 93) []
theorem fr_store {h₀ h h' : Heap} {L : Addr} {m m' : Str → Option Value} (F : Fr h₀ L h m) (hn : h'.Ns L m') (hs : Heap.SameBut L h h') : Fr h₀ L h' m' :=
  ⟨hn, fun b o e => hs.extBut b o (fun q => by rw [q, Heap.get?_none_of_le F.above] at e; cases e) (F.keep b o e), F.above⟩
theorem fr_same {h₀ h h' : Heap} {L I : Addr} {m : Str → Option Value} (F : Fr h₀ L h m) (hI : h₀.get? I = none) (hLI : L ≠ I) (hs : Heap.SameBut I h h') : Fr h₀ L h' m := F.change hs (Ne.symm hLI) hI
/-- the generator's frame in its loop -/
noncomputable def genM (l : Addr) (vi vl : Value) : Str → Option Value := fun y => if y = Str.ofString "interval" then some vi else if y = Str.ofString "last_interval" then some vl else if y = Str.ofString "grouping" then some (.ref l) else none
theorem gen_fresh (w : World) {A : Around} {mean : ExcName → Option Value} {mg mb : Str → Option Value} {h₀ : Heap} {Lg l : Addr} {a b : Int} {t1 t2 t3 t4 : Tok} {kl N : Nat} (s : Shared) (X : (KK w.params).In h₀) (T : Top qv (looseW qv loose) mean mg mb h₀)
    (F : Fr h₀ Lg s.heap (fun y => [(Str.ofString "grouping", Value.ref l)].lookup y)) (hl : s.heap.get? l = some (W.listOf #[.int a t1, .int b t2, .int 0 t3, .int 127 t4] kl)) (hne : l ≠ Lg) (ha : 1 ≤ a ∧ a ≤ 4) (hb : 1 ≤ b ∧ b ≤ 4) :
    Seg (model rr.prog w) A NoEnd (YP (N + 4) h₀ Lg s.heap.objs.size l (W.listOf #[.int a t1, .int b t2, .int 0 t3, .int 127 t4] kl) a b) (N + 4) s (.func B5 (genv Lg)) ((model rr.prog w).den (.func B5 (genv Lg))) [] s := by
  revert X
  w_on
  k_fill
  intro X
  have N0 : News h₀ Lg s.heap [] := fun _ h => nomatch h
  refine seg_func ?_
  refine seg_execs_cons (seg_stmt ?_)
  walk_at "gsteps"
  refine wpAny_storeName_local (by rfl) F.ns (fun h1 hn1 hs1 => ?_) (by rfl)
  have F1 := fr_store F hn1 hs1
  have e1 : h1.objs.size = s.heap.objs.size := hs1.1
  have hl1 : h1.get? l = some _ := hs1.extBut _ _ hne hl
  refine seg_execs_cons (seg_For (fun _ => rfl) ?_)
  walk_at "gsteps"
  refine wpAny_pyIter_list (s := { s with heap := h1, toks := s.toks + 1 }) ⟨_, hl1, rfl, _, rfl⟩ fun p => ?_
  dsimp only
  rw [e1]
  generalize hh2 : h1.push { cls := .type "list_iterator", data := .fields #[.ref l, .int 0 0] } = h2
  have hIg : h2.get? s.heap.objs.size = some { cls := .type "list_iterator", data := .fields #[.ref l, .int 0 0] } := by rw [← hh2, ← e1]; exact Heap.get?_push_size _ rfl
  have up : ∀ c o, h1.get? c = some o → h2.get? c = some o := fun c o e => by rw [← hh2]; exact Heap.get?_push_of_some _ e
  have F2 := F1.keeps up
  have hl2 := up _ _ hl1
  have hIl : l ≠ s.heap.objs.size := Nat.ne_of_lt (Heap.lt_size hl)
  have hIL : Lg ≠ s.heap.objs.size := Nat.ne_of_lt F.ns.lt
  have hI0 : h₀.get? s.heap.objs.size = none := fresh_none F (Nat.le_refl _)
  have hk2 : ∀ c o, c ≠ Lg → c ≠ s.heap.objs.size → s.heap.get? c = some o → h2.get? c = some o := fun c o c1 _ e => up _ _ (hs1.extBut _ _ c1 e)
  clear hh2 up hl1 F1 e1 hs1 hn1 h1
  refine seg_forLoop ?_
  refine wpAny_pyNext_list_item (i := 0) (x := .int a t1) ⟨_, hIg, rfl, rfl⟩ ⟨_, hl2, rfl, _, rfl⟩ (by rfl) fun h3 hit3 hs3 => ?_
  dsimp only
  refine go_name ?_
  have F3 := fr_same F2 hI0 hIL hs3
  have hl3 := hs3.extBut _ _ hIl hl2
  refine wpAny_assign_Name (wpAny_storeName_local (by rfl) F3.ns (fun h4 hn4 hs4 => ?_) (by rfl))
  have F4 := fr_store F3 hn4 hs4
  have hl4 := hs4.extBut _ _ hne hl3
  obtain ⟨oI, hI4, hIc, hId⟩ := hit3
  replace hI4 := hs4.extBut _ _ (Ne.symm hIL) hI4
  intro H
  refine seg_execs_cons (seg_If ?_)
  clear F F2 F3 N0
  walk_at "gsteps"
  · exfalso; rename a = 127 => e; lia
  refine seg_execs_nil ?_
  dsimp only
  refine seg_execs_cons (seg_If ?_)
  walk_at "gsteps"
  · exfalso; rename a = 0 => e; lia
  refine seg_execs_nil ?_
  dsimp only
  refine seg_execs_cons (seg_Expr_Yield (by rfl) rfl (by rfl) ?_)
  walk_at "gsteps"
  rename_i kap hkap
  refine ⟨h4, _, _, oI, _, rfl, by rw [if_pos rfl], F4, hI4, ?_, fun hn0 s'' F5 hI5 hl5 => hkap .none s'' ?_⟩
  · intro c o c1 c2 e
    exact hs4.extBut _ _ c1 (hs3.extBut _ _ c2 (hk2 c o c1 c2 e))
  clear F4 hl4 hs3 hs4 hn4 hI4 hk2 hl3 h3 h4
  try dsimp only
  refine seg_execs_cons (seg_stmt ?_)
  walk_at "gsteps"
  refine wpAny_storeName_local (by rfl) F5.ns (fun h1 hn1 hs1 => ?_) (by rfl)
  have F1 := fr_store F5 hn1 hs1
  have hI1 := hs1.extBut _ _ (Ne.symm hIL) hI5
  have hl1 := hs1.extBut _ _ hne hl5
  try dsimp only
  refine seg_execs_nil (seg_again rfl ?_)
  refine seg_forLoop ?_
  refine wpAny_pyNext_list_item (i := 1) (x := .int b t2) ⟨oI, hI1, hIc, hId⟩ ⟨_, hl1, rfl, _, rfl⟩ (by rfl) fun h3 hit3 hs3 => ?_
  try dsimp only
  refine go_name ?_
  have F3 := fr_same F1 hI0 hIL hs3
  have hl3 := hs3.extBut _ _ hIl hl1
  refine wpAny_assign_Name (wpAny_storeName_local (by rfl) F3.ns (fun h4 hn4 hs4 => ?_) (by rfl))
  have F4 := fr_store F3 hn4 hs4
  have hl4 := hs4.extBut _ _ hne hl3
  clear hIc hId hI5 hI1
  clear oI
  obtain ⟨oI, hI4, hIc, hId⟩ := hit3
  replace hI4 := hs4.extBut _ _ (Ne.symm hIL) hI4
  have hk4 : ∀ c o, c ≠ Lg → c ≠ s.heap.objs.size → s''.heap.get? c = some o → h4.get? c = some o := fun c o c1 c2 e => hs4.extBut _ _ c1 (hs3.extBut _ _ c2 (hs1.extBut _ _ c1 e))
  intro H1
  refine seg_execs_cons (seg_If ?_)
  clear F5 F1 F3
  walk_at "gsteps"
  · exfalso; rename b = 127 => e; lia
  refine seg_execs_nil ?_
  try dsimp only
  refine seg_execs_cons (seg_If ?_)
  walk_at "gsteps"
  · exfalso; rename b = 0 => e; lia
  refine seg_execs_nil ?_
  try dsimp only
  refine seg_execs_cons (seg_Expr_Yield (by rfl) rfl (by rfl) ?_)
  walk_at "gsteps"
  rename_i kap1 hkap1
  refine ⟨h4, _, _, oI, _, rfl, by rw [if_neg (by lia)], F4, hI4, hk4, fun _ s1 F6 hI6 hl6 => hkap1 .none s1 ?_⟩
  clear F4 hl4 hs3 hs4 hn4 hI4 hl3 hk4 hs1 hn1 hl1 h3 h4 h1
  try dsimp only
  refine seg_execs_cons (seg_stmt ?_)
  walk_at "gsteps"
  refine wpAny_storeName_local (by rfl) F6.ns (fun h1 hn1 hs1 => ?_) (by rfl)
  have F1 := fr_store F6 hn1 hs1
  have hI1 := hs1.extBut _ _ (Ne.symm hIL) hI6
  have hl1 := hs1.extBut _ _ hne hl6
  try dsimp only
  refine seg_execs_nil (seg_again rfl ?_)
  refine seg_forLoop ?_
  refine wpAny_pyNext_list_item (i := 2) (x := .int 0 t3) ⟨oI, hI1, hIc, hId⟩ ⟨_, hl1, rfl, _, rfl⟩ (by rfl) fun h3 hit3 hs3 => ?_
  try dsimp only
  refine go_name ?_
  have F3 := fr_same F1 hI0 hIL hs3
  have hl3 := hs3.extBut _ _ hIl hl1
  refine wpAny_assign_Name (wpAny_storeName_local (by rfl) F3.ns (fun h4 hn4 hs4 => ?_) (by rfl))
  have F4 := fr_store F3 hn4 hs4
  have hl4 := hs4.extBut _ _ hne hl3
  clear hIc hId hI6 hI1
  clear oI
  obtain ⟨oI, hI4, hIc, hId⟩ := hit3
  replace hI4 := hs4.extBut _ _ (Ne.symm hIL) hI4
  have hk4 : ∀ c o, c ≠ Lg → c ≠ s.heap.objs.size → s1.heap.get? c = some o → h4.get? c = some o := fun c o c1 c2 e => hs4.extBut _ _ c1 (hs3.extBut _ _ c2 (hs1.extBut _ _ c1 e))
  intro H2
  refine seg_execs_cons (seg_If ?_)
  clear F6 F1 F3
  walk_at "gsteps"
  refine seg_execs_nil ?_
  try dsimp only
  refine seg_execs_cons (seg_If ?_)
  walk_at "gsteps"
  refine seg_execs_cons (seg_If ?_)
  walk_at "gsteps"
  refine seg_execs_nil ?_
  try dsimp only
  refine seg_execs_cons (seg_While fun p2 => ?_)
  exact seg_forever rfl (by rfl) (by rfl) (by decide) (by rfl) (by rfl) (by rfl) (by rfl) (N + 1) s1 _ _ oI _ h4 _ (by lia) rfl F4 (by rfl) hI4 hk4
end
-- G3
section
theorem rec94 (P : Params) : codeIn (KK P) (.ref 93) (Str.ofString "_grouping_intervals") = true := by kernel_rfl
theorem look94 (P : Params) : (KK P).lookup 94 = some (o94 P) := by kernel_rfl
theorem call_gen (w : World) {A : Around} {E : Value → Shared → Prop} {s : Shared} {mean : ExcName → Option Value} {mg mb : Str → Option Value} {h₀ : Heap} {L l : Addr} {m : Str → Option Value} {news : Led} {Q : Value → Shared → Prop}
    (X : (KK w.params).In h₀) (F : Fr h₀ L s.heap m) (N : News h₀ L s.heap news) (T : Top qv (looseW qv loose) mean mg mb h₀) (hroom : A.depth < recursionLimit)
    (h : ∀ h' tk oL oG, Fr h₀ L h' m → News h₀ L h' ((s.heap.objs.size + 1, oG) :: (s.heap.objs.size, oL) :: news) → LCg.NsObj oL (fun y => [(Str.ofString "grouping", Value.ref l)].lookup y) →
      (∃ nm qn, oG = { cls := .type "generator", data := .fields #[.int s.gens.size 0, nm, qn] }) → h'.NoLimit → Q (.ref (s.heap.objs.size + 1)) { s with heap := h', toks := tk, gens := s.gens.push (.fresh (.func B5 (genv s.heap.objs.size))) }) :
    wpAny (model rr.prog w) A (call (.ref 94) [.ref l]) Q E s := by
  have Xs := X.keeps F.keep
  refine wpAny_call (codeAny_call_generator hroom (Xs 94 _ (look94 _)) rfl rfl rfl rfl (codeRec_of Xs (rec94 _)) ?_)
  refine BindsTo.of_eq (s := s) (binds := [(Str.ofString "grouping", Value.ref l)]) rfl _ _ _ _ ?_
  refine wpAny_newFunctionEnv (by decide) (by intro y hy; rw [List.mem_singleton.mp hy]; rfl) (fun h1 hn1 hs1 => ?_) (by rfl)
  dsimp only
  have z1 : h1.objs.size = s.heap.objs.size + 1 := by rw [hs1.1, Heap.size_push]
  have keep1 : ∀ c o, s.heap.get? c = some o → h1.get? c = some o := fun c o e => hs1.extBut _ _ (Nat.ne_of_lt (Heap.lt_size e)) (Heap.get?_push_of_some _ e)
  have nl : h1.NoLimit := (T.nolimit.keeps F.keep).keeps keep1
  refine ⟨nl, ?_⟩
  obtain ⟨oL, hoL, hN⟩ := LCg.ns_obj hn1
  rw [z1]
  have up : ∀ c o o', h1.get? c = some o → (h1.push o').get? c = some o := fun c o o' e => Heap.get?_push_of_some _ e
  have hLlt : L < s.heap.objs.size := F.ns.lt
  have key : ∀ nm qn tk, Q (.ref (s.heap.objs.size + 1)) { s with heap := h1.push { cls := .type "generator", data := .fields #[.int s.gens.size 0, nm, qn] }, toks := tk, gens := s.gens.push (.fresh (.func B5 (genv s.heap.objs.size))) } := by
    intro nm qn tk
    refine h _ tk oL { cls := .type "generator", data := .fields #[.int s.gens.size 0, nm, qn] } ((F.keeps keep1).push _) (fun p hp => ?_) hN ⟨_, _, rfl⟩ (nl.keeps fun c o e => up c o _ e)
    rcases List.mem_cons.mp hp with rfl | hp
    · refine ⟨?_, Nat.ne_of_gt (Nat.lt_succ_of_lt hLlt), fresh_none F (Nat.le_succ _)⟩
      have q := Heap.get?_push_size h1 (o := { cls := .type "generator", data := .fields #[.int s.gens.size 0, nm, qn] }) rfl
      rw [z1] at q
      exact q
    · rcases List.mem_cons.mp hp with rfl | hp
      · exact ⟨up _ _ _ hoL, Nat.ne_of_gt hLlt, fresh_none F (Nat.le_refl _)⟩
      · exact ⟨up _ _ _ (keep1 _ _ (N p hp).1), (N p hp).2⟩
  exact key _ _ _
end
-- M0
section
section
variable {prog : Program} {w : World} {A : Around} {E : Value → Shared → Prop} {s : Shared}
theorem nextOf_range_item {it : Addr} {x left step : Int} {Q : Value → Shared → Prop} (hit : IsRangeIter s.heap it x left step) (hleft : 0 < left)
    (hQ : ∀ h', IsRangeIter h' it (x + step) (left - 1) step → Heap.SameBut it s.heap h' → Q (.int x s.toks) { s with heap := h', toks := s.toks + 1 }) : wpAny (model prog w) A (Builtin.SmallTypes.nextOf (.ref it)) Q E s := by
  have hT : s.TypeIs (.ref it) "range_iterator" := ⟨_, hit, rfl⟩
  unfold Builtin.SmallTypes.nextOf
  refine wpAny_bind (wpAny_callSpecial?_slot (name := Str.ofString "__next__") hT F.slot_range_iterator_next
    (call_meets F.slot_range_iterator_next hT F.entry_range_iterator_next (F.args_range_iterator_next_1 _) (AutoRange.range_iterator___next___range_iterator_1 it x left step (by lia)) ⟨hit, ?_⟩))
  exact wpAny_pure (hQ _ (Heap.get?_update_self _ (Heap.get?_update_self _ hit rfl) rfl) ((Heap.SameBut.update ..).trans (Heap.SameBut.update ..)))
noncomputable def StopAt (Q : Shared → Prop) (e : Value) (s' : Shared) : Prop := ∃ a o, e = .ref a ∧ s'.heap.get? a = some o ∧ o.cls = .type "StopIteration" ∧ Q s'
theorem nextOf_range_end {it : Addr} {x left step : Int} {Q : Value → Shared → Prop} {R : Shared → Prop} (hh : A.handled = none) (hit : IsRangeIter s.heap it x left step) (hleft : left ≤ 0)
    (hQ : ∀ h', Heap.ExtBut it s.heap h' → R { s with heap := h' }) : wpAny (model prog w) A (Builtin.SmallTypes.nextOf (.ref it)) Q (StopAt R) s := by
  have hT : s.TypeIs (.ref it) "range_iterator" := ⟨_, hit, rfl⟩
  unfold Builtin.SmallTypes.nextOf
  refine wpAny_bind (wpAny_callSpecial?_slot (name := Str.ofString "__next__") hT F.slot_range_iterator_next
    (wpAny_call_entry F.slot_range_iterator_next hT F.entry_range_iterator_next ?_ (F.args_range_iterator_next_1 _)))
  show wpAny _ _ (field (.ref it) 0 >>= _) _ _ s
  refine wpAny_bind (wpAny_field hit rfl (x := rawInt x) rfl ?_)
  show wpAny _ _ (field (.ref it) 1 >>= _) _ _ s
  refine wpAny_bind (wpAny_field hit rfl (x := rawInt left) rfl ?_)
  show wpAny _ _ (field (.ref it) 2 >>= _) _ _ s
  refine wpAny_bind (wpAny_field hit rfl (x := rawInt step) rfl ?_)
  show wpAny _ _ (if left ≤ 0 then _ else _) _ _ s
  rw [if_pos hleft]
  refine wpAny_bind (wpAny_rule ?_)
  refine wpAny_bind ?_
  show wpAny _ _ (newExc (.type "StopIteration") [] >>= _) _ _ _
  refine wpAny_bind ?_
  simp only [newExc, newTuple]
  refine wpAny_bind (wpAny_newObj_type ?_ (by size_fits))
  refine wpAny_bind (m := firstArgMember _ _) (wpAny_of_eq (a := Value.none) (by first | rfl | (simp only [firstArgMember]; rfl)) ?_)
  refine wpAny_newObj_type ?_ (by size_fits)
  simp only [raiseNew]
  refine wpAny_bind (wpAny_handled ?_)
  first | rw [show A.in1.handled = none from hh] | rw [hh]
  refine wpAny_throw ?_
  exact ⟨_, _, rfl, Heap.get?_push_size _ rfl, rfl, hQ _ fun b o _ e => Heap.get?_push_of_some _ (Heap.get?_push_of_some _ e)⟩
theorem pyNext_zip {z TI TO : Addr} {f0 : Value} {Q : Option Value → Shared → Prop} (hz : IsZip s.heap z TI TO f0)
    (h : wpAny (model prog w) A.in1 (Builtin.«zip.__next__» ⟨[.ref z], []⟩) (fun fin s' => ∃ v, fin = .done (.ret v) ∧ Q (some v) s') (StopAt (Q none)) s) : wpAny (model prog w) A (pyNext (.ref z)) Q E s := by
  have hT : s.TypeIs (.ref z) "zip" := ⟨_, hz, rfl⟩
  unfold pyNext
  refine wpAny_bind (wpAny_attempt (wpAny_callSpecial?_slot (name := Str.ofString "__next__") hT F.slot_zip_next (wpAny_call_entry F.slot_zip_next hT F.entry_zip_next (wpAny_mono h (fun fin s' hv => ?_) fun e s' he => ?_) (F.args_zip_next_1 _))))
  · obtain ⟨v, rfl, hq⟩ := hv
    exact ⟨v, rfl, wpAny_pure hq⟩
  · obtain ⟨a, o, rfl, ho, hc, hq⟩ := he
    exact wpAny_bind (wpAny_isInstance (T := "StopIteration") (b := true) ⟨o, ho, hc⟩ isSubtype_stop (wpAny_pure hq))
end
end
-- M1
section
/-- the zip of a range and the generator, between two turns -/
inductive MB (z TI TO I1 gA l : Addr) (g : Nat) (ol : Obj) (i : Nat) (h : Heap) : Prop
  | mk (q1 : IsZip h z TI TO .none) (q2 : IsTupL h TI #[.ref I1, .ref gA]) (q3 : ∃ a b, IsTupL h TO #[a, b]) (q4 : IsRangeIter h I1 (0 + (i : Int) * 1) ((9 : Int) - (i : Int)) 1) (q5 : h.IsGen gA g) (q6 : h.get? l = some ol) : MB z TI TO I1 gA l g ol i h
noncomputable def GoesAt (w : World) (A : Around) (h₀ : Heap) (Lg Ig l : Addr) (ol : Obj) (a b : Int) (n : Nat) (mG : Str → Option Value) (oI : Obj) (gs : GenState) : Prop :=
  ∀ s'', Fr h₀ Lg s''.heap mG → s''.heap.get? Ig = some oI → s''.heap.get? l = some ol → gs.Goes (model rr.prog w) A NoEnd (YP 12 h₀ Lg Ig l ol a b) n (.send .none) s''
noncomputable def MSt (w : World) (A : Around) (h₀ : Heap) (z TI TO I1 gA l Lg Ig : Addr) (g : Nat) (ol : Obj) (a b : Int) (i : Nat) (h : Heap) (G : Array GenState) : Prop :=
  MB z TI TO I1 gA l g ol i h ∧ (∀ c o, h₀.get? c = some o → h.get? c = some o) ∧ match i with
  | 0 => G[g]? = some (.fresh (.func B5 (genv Lg))) ∧ h.Ns Lg (fun y => [(Str.ofString "grouping", Value.ref l)].lookup y) ∧ h.objs.size = Ig
  | k + 1 => ∃ gs mG oI, G[g]? = some gs ∧ h.Ns Lg mG ∧ h.get? Ig = some oI ∧ GoesAt w A h₀ Lg Ig l ol a b (11 - k) mG oI gs
inductive MMd (w : World) (A : Around) (h₀ : Heap) (z TI TO I1 gA l Lg Ig : Addr) (g : Nat) (ol : Obj) (a b : Int) (i : Nat) (v : Value) (h : Heap) (G : Array GenState) : Prop
  | mk (T : Addr) (ti t : Tok) (q1 : v = .ref T) (q2 : IsTupL h T #[.int (i : Int) ti, .int (if i = 0 then a else b) t]) (q3 : T ≠ z) (q4 : IsZip h z TI TO (rawInt T)) (q5 : IsTupL h TI #[.ref I1, .ref gA]) (q6 : ∃ a b, IsTupL h TO #[a, b]) (q7 : IsRangeIter h I1 (0 + ((i + 1 : Nat) : Int) * 1) ((9 : Int) - ((i + 1 : Nat) : Int)) 1) (q8 : h.IsGen gA g) (q9 : h.get? l = some ol)
    (q10 : ∀ c o, h₀.get? c = some o → h.get? c = some o) (gs : GenState) (mG : Str → Option Value) (oI : Obj) (q11 : G[g]? = some gs) (q12 : h.Ns Lg mG) (q13 : h.get? Ig = some oI) (q14 : GoesAt w A h₀ Lg Ig l ol a b (11 - i) mG oI gs) : MMd w A h₀ z TI TO I1 gA l Lg Ig g ol a b i v h G
noncomputable def MP (a b : Int) (i : Nat) (vals : Array Value) (_ : Nat) : Prop := ∃ ti t, vals = #[.int (i : Int) ti, .int (if i = 0 then a else b) t]
noncomputable def base (h₀ : Heap) : List Addr := (List.range h₀.objs.size).filter fun b => (h₀.get? b).isSome
theorem mem_base {h₀ : Heap} {b : Addr} : b ∈ base h₀ ↔ ∃ o, h₀.get? b = some o := by
  unfold base
  rw [List.mem_filter, List.mem_range, Option.isSome_iff_exists]
  exact ⟨fun h => h.2, fun ⟨o, h⟩ => ⟨Heap.lt_size h, o, h⟩⟩
/-- all apart -/
structure MApart (h₀ : Heap) (z TI TO I1 gA l Lg Ig : Addr) : Prop where
  nd : [z, TI, TO, I1, gA, l, Lg, Ig].Nodup
  fr : ∀ b ∈ [z, TO, I1, Lg, Ig], h₀.get? b = none
  up : @LE.le Nat _ h₀.objs.size Lg
inductive Apart8 (z TI TO I1 gA l Lg Ig : Addr) : Prop
  | mk (q0 : z ≠ TI) (q1 : z ≠ TO) (q2 : z ≠ I1) (q3 : z ≠ gA) (q4 : z ≠ l) (q5 : z ≠ Lg) (q6 : z ≠ Ig) (q7 : TI ≠ TO) (q8 : TI ≠ I1) (q9 : TI ≠ gA) (q10 : TI ≠ l) (q11 : TI ≠ Lg) (q12 : TI ≠ Ig) (q13 : TO ≠ I1) (q14 : TO ≠ gA) (q15 : TO ≠ l) (q16 : TO ≠ Lg) (q17 : TO ≠ Ig) (q18 : I1 ≠ gA) (q19 : I1 ≠ l) (q20 : I1 ≠ Lg) (q21 : I1 ≠ Ig) (q22 : gA ≠ l) (q23 : gA ≠ Lg) (q24 : gA ≠ Ig) (q25 : l ≠ Lg) (q26 : l ≠ Ig) (q27 : Lg ≠ Ig) : Apart8 z TI TO I1 gA l Lg Ig
theorem apart8 {z TI TO I1 gA l Lg Ig : Addr} (nd : [z, TI, TO, I1, gA, l, Lg, Ig].Nodup) : Apart8 z TI TO I1 gA l Lg Ig := by
  have h : (z ≠ TI ∧ z ≠ TO ∧ z ≠ I1 ∧ z ≠ gA ∧ z ≠ l ∧ z ≠ Lg ∧ z ≠ Ig) ∧ (TI ≠ TO ∧ TI ≠ I1 ∧ TI ≠ gA ∧ TI ≠ l ∧ TI ≠ Lg ∧ TI ≠ Ig) ∧ (TO ≠ I1 ∧ TO ≠ gA ∧ TO ≠ l ∧ TO ≠ Lg ∧ TO ≠ Ig) ∧ (I1 ≠ gA ∧ I1 ≠ l ∧ I1 ≠ Lg ∧ I1 ≠ Ig) ∧ (gA ≠ l ∧ gA ≠ Lg ∧ gA ≠ Ig) ∧ (l ≠ Lg ∧ l ≠ Ig) ∧ Lg ≠ Ig := by simpa [List.nodup_cons] using nd
  exact ⟨h.1.1, h.1.2.1, h.1.2.2.1, h.1.2.2.2.1, h.1.2.2.2.2.1, h.1.2.2.2.2.2.1, h.1.2.2.2.2.2.2, h.2.1.1, h.2.1.2.1, h.2.1.2.2.1, h.2.1.2.2.2.1, h.2.1.2.2.2.2.1, h.2.1.2.2.2.2.2, h.2.2.1.1, h.2.2.1.2.1, h.2.2.1.2.2.1, h.2.2.1.2.2.2.1, h.2.2.1.2.2.2.2, h.2.2.2.1.1, h.2.2.2.1.2.1, h.2.2.2.1.2.2.1, h.2.2.2.1.2.2.2, h.2.2.2.2.1.1, h.2.2.2.2.1.2.1, h.2.2.2.2.1.2.2, h.2.2.2.2.2.1.1, h.2.2.2.2.2.1.2, h.2.2.2.2.2.2⟩
theorem MApart.apart {h₀ : Heap} {z TI TO I1 gA l Lg Ig : Addr} (D : MApart h₀ z TI TO I1 gA l Lg Ig) : Apart8 z TI TO I1 gA l Lg Ig := apart8 D.nd
theorem MApart.fz {h₀ : Heap} {z TI TO I1 gA l Lg Ig : Addr} (D : MApart h₀ z TI TO I1 gA l Lg Ig) : h₀.get? z = none := D.fr z (by simp)
theorem MApart.fTO {h₀ : Heap} {z TI TO I1 gA l Lg Ig : Addr} (D : MApart h₀ z TI TO I1 gA l Lg Ig) : h₀.get? TO = none := D.fr TO (by simp)
theorem MApart.fI1 {h₀ : Heap} {z TI TO I1 gA l Lg Ig : Addr} (D : MApart h₀ z TI TO I1 gA l Lg Ig) : h₀.get? I1 = none := D.fr I1 (by simp)
theorem fp8 {z TI TO I1 gA l Lg Ig : Addr} {B : List Addr} {h h' : Heap} (hk : ∀ b ∈ [z, TI, TO, I1, gA, l, Lg, Ig] ++ B, ∀ o, h.get? b = some o → h'.get? b = some o) : (∀ o, h.get? z = some o → h'.get? z = some o) ∧ (∀ o, h.get? TI = some o → h'.get? TI = some o) ∧ (∀ o, h.get? TO = some o → h'.get? TO = some o) ∧ (∀ o, h.get? I1 = some o → h'.get? I1 = some o) ∧ (∀ o, h.get? gA = some o → h'.get? gA = some o) ∧ (∀ o, h.get? l = some o → h'.get? l = some o) ∧ (∀ o, h.get? Lg = some o → h'.get? Lg = some o) ∧ (∀ o, h.get? Ig = some o → h'.get? Ig = some o) :=
  ⟨hk z (by simp), hk TI (by simp), hk TO (by simp), hk I1 (by simp), hk gA (by simp), hk l (by simp), hk Lg (by simp), hk Ig (by simp)⟩
theorem sub5 {b z TI TO I1 gA l Lg Ig : Addr} {B : List Addr} (hb : b ∈ [z, TO, I1, Lg, Ig]) : b ∈ [z, TI, TO, I1, gA, l, Lg, Ig] ++ B := by
  simp only [List.mem_cons, List.not_mem_nil, or_false, List.mem_append] at hb ⊢
  rcases hb with h | h | h | h | h <;> simp [h]
theorem off5 {b z TO I1 Lg Ig : Addr} (hb : b ∉ [z, TO, I1, Lg, Ig]) : b ≠ z ∧ b ≠ TO ∧ b ≠ I1 ∧ b ≠ Lg ∧ b ≠ Ig := by
  simpa using hb
theorem bare_set {G : Array GenState} {g : Nat} {gs' : GenState} (hB : AllBare G) (hb : gs'.bare = true) : AllBare ((G.setIfInBounds g .running).setIfInBounds g gs') := fun y hy => by
  obtain ⟨i, hi⟩ := Array.mem_iff_getElem?.mp hy
  rw [Array.getElem?_setIfInBounds] at hi
  split at hi
  · split at hi
    · cases hi; exact hb
    · cases hi
  · rw [Array.getElem?_setIfInBounds] at hi
    split at hi
    · split at hi
      · cases hi; rfl
      · cases hi
    · exact hB y (Array.mem_iff_getElem?.mpr ⟨i, hi⟩)
theorem gens_set {G : Array GenState} {g : Nat} {gs gs' : GenState} (h : G[g]? = some gs) : ((G.setIfInBounds g .running).setIfInBounds g gs')[g]? = some gs' := by
  have hlt : g < G.size := by
    cases Nat.lt_or_ge g G.size with
    | inl h => exact h
    | inr h' => rw [Array.getElem?_eq_none h'] at h; cases h
  simp [Array.getElem?_setIfInBounds, hlt]
theorem markTurns (w : World) {A : Around} {elts : List PySem.Expr} {k : Nat} {pos : Pos} {mean : ExcName → Option Value} {mg mb : Str → Option Value} {h₀ : Heap} {z TI TO I1 gA l Lg Ig : Addr} {g : Nat} {a b : Int} {t1 t2 t3 t4 : Tok} {kl n₀ : Nat}
    (hh : A.handled = none) (hroom : A.depth < recursionLimit) (X : (KK w.params).In h₀) (T : Top qv (looseW qv loose) mean mg mb h₀) (ha : 1 ≤ a ∧ a ≤ 4) (hb : 1 ≤ b ∧ b ≤ 4) (D : MApart h₀ z TI TO I1 gA l Lg Ig) :
    GTurns rr.prog w A (.Tuple elts k pos) z ([z, TI, TO, I1, gA, l, Lg, Ig] ++ base h₀) [z, TO, I1, Lg, Ig] 9 n₀ AllBare (fun G G' => G' = G) (fun i v h tk => ∃ T vals, v = .ref T ∧ MP a b i vals tk ∧ h.IsTuple T vals)
      (fun i v h G tk => MMd w A.in1.in1 h₀ z TI TO I1 gA l Lg Ig g (W.listOf #[.int a t1, .int b t2, .int 0 t3, .int 127 t4] kl) a b i v h G ∧ n₀ ≤ tk)
      (fun i h G => MSt w A.in1.in1 h₀ z TI TO I1 gA l Lg Ig g (W.listOf #[.int a t1, .int b t2, .int 0 t3, .int 127 t4] kl) a b i h G) where
  sub := fun _ hb => sub5 hb
  refl := fun _ => rfl
  frame := fun i h h' G G' st e hk => by
    subst e
    obtain ⟨⟨hz, hTI, ⟨x, y, hTO⟩, hI1, hg, hl⟩, hst, gs, mG, oI, hG, hn, hI, go⟩ := st
    obtain ⟨kz, kTI, kTO, kI1, kgA, kl, kLg, kIg⟩ := fp8 hk
    refine ⟨⟨kz _ hz, kTI _ hTI, ⟨x, y, kTO _ hTO⟩, kI1 _ hI1, ?_, kl _ hl⟩, fun c o e => hk c (List.mem_append_right _ (mem_base.mpr ⟨o, e⟩)) o (hst c o e), gs, mG, oI, hG, hn.at' fun o e => kLg o e, kIg _ hI, go⟩
    obtain ⟨o, nm, qn, ho, r⟩ := hg
    exact ⟨o, nm, qn, kgA _ ho, r⟩
  item := fun i s Q E hi st hB hn hQ => by
    obtain ⟨⟨hz, hTI, ⟨x, y, hTO⟩, hI1, hg, hl⟩, hst, hrest⟩ := st
    obtain ⟨zTI, zTO, zI1, zgA, zl, zLg, zIg, tTO, tI1, tgA, tl, tLg, tIg, oI1, ogA, oll, oLg, oIg, igA, il, iLg, iIg, gl, gLg, gIg, lLg, lIg, LgIg⟩ := D.apart
    refine wpAny_with_toks hn ?_
    refine pyNext_zip hz (zip2_step zTO.symm hz hTI hTO fun h₁ hs₁ hz₁ => ?_)
    refine nextOf_range_item (hs₁.extBut _ _ zI1.symm hI1) (by lia) fun h₂ hI₂ hs₂ => ⟨hs₂.extBut _ _ oI1 (hs₁.extBut _ _ zTO.symm hTO), fun h₃ hTO₃ hs₃ => ?_⟩
    have k₃ : ∀ c o, c ≠ z → c ≠ TO → c ≠ I1 → s.heap.get? c = some o → h₃.get? c = some o := fun c o c1 c2 c3 e => hs₃.extBut c o c2 (hs₂.extBut c o c3 (hs₁.extBut c o c1 e))
    have hst₃ : ∀ c o, h₀.get? c = some o → h₃.get? c = some o := fun c o e => k₃ c o (fun q => by rw [q, D.fz] at e; cases e) (fun q => by rw [q, D.fTO] at e; cases e) (fun q => by rw [q, D.fI1] at e; cases e) (hst c o e)
    have hg₃ : h₃.IsGen gA g := by
      obtain ⟨o, nm, qn, ho, r⟩ := hg
      exact ⟨o, nm, qn, k₃ gA _ zgA.symm ogA.symm igA.symm ho, r⟩
    have hl₃ := k₃ l _ zl.symm oll.symm il.symm hl
    have hsz₃ : h₃.objs.size = s.heap.objs.size := by rw [hs₃.1, hs₂.1, hs₁.1]
    have hgo : ∃ gs0, s.gens[g]? = some gs0 ∧ gs0.Goes (model rr.prog w) A.in1.in1 NoEnd (YP 12 h₀ Lg Ig l (W.listOf #[.int a t1, .int b t2, .int 0 t3, .int 127 t4] kl) a b) (11 - i + 1) (.send .none) (({ s with heap := h₃, toks := s.toks + 1 } : Shared).setGen g .running) := by
      cases i with
      | zero =>
        obtain ⟨hG, hns, hIg⟩ := hrest
        refine ⟨_, hG, rfl, ?_⟩
        have ns₃ : h₃.Ns Lg (fun y => [(Str.ofString "grouping", Value.ref l)].lookup y) := hns.at' fun o e => k₃ Lg o zLg.symm oLg.symm iLg.symm e
        have key := gen_fresh (A := A.in1.in1) (N := 8) w (({ s with heap := h₃, toks := s.toks + 1 } : Shared).setGen g .running) X T ⟨ns₃, hst₃, D.up⟩ hl₃ lLg ha hb
        rw [show (({ s with heap := h₃, toks := s.toks + 1 } : Shared).setGen g .running).heap.objs.size = Ig from hsz₃.trans hIg] at key
        exact key
      | succ k =>
        obtain ⟨gs, mG, oI, hG, hns, hI, go⟩ := hrest
        refine ⟨gs, hG, ?_⟩
        have e1 : 11 - k = 11 - (k + 1) + 1 := by lia
        rw [e1] at go
        exact go (({ s with heap := h₃, toks := s.toks + 1 } : Shared).setGen g .running) ⟨hns.at' fun o e => k₃ Lg o zLg.symm oLg.symm iLg.symm e, hst₃, D.up⟩ (k₃ Ig _ zIg.symm oIg.symm iIg.symm hI) hl₃
    obtain ⟨gs0, hG, hgo⟩ := hgo
    refine nextOf_gen (T.nolimit.keeps hst₃) hroom hg₃ hG hgo fun v s₁ gs' hbare hv => ?_
    obtain ⟨h₄, tk₄, mG, oI, t, rfl, rfl, F₄, hI₄, hk₄, hcont⟩ := hv
    have k₄ : ∀ c o, c ≠ Lg → c ≠ Ig → h₃.get? c = some o → h₄.get? c = some o := fun c o c1 c2 e => hk₄ c o c1 c2 e
    have hz₄ : IsZip h₄ z TI TO .ellipsis := k₄ _ _ zLg zIg (hs₃.extBut _ _ zTO (hs₂.extBut _ _ zI1 hz₁))
    refine ⟨k₄ _ _ oLg oIg hTO₃, hz₄, fun h₅ hz₅ hTO₅ hT₅ hk₅ hle => ?_⟩
    have zlt : z < h₄.objs.size := Heap.lt_size hz₄
    have ev : (if 11 - i + 1 - 1 + 1 = 12 then a else b) = if i = 0 then a else b := by
      by_cases h0 : i = 0
      · simp [h0]
      · rw [if_neg h0, if_neg (by lia)]
    have er : (0 : Int) + (i : Int) * 1 + 1 = 0 + ((i + 1 : Nat) : Int) * 1 := by lia
    have el : (9 : Int) - (i : Int) - 1 = 9 - ((i + 1 : Nat) : Int) := by lia
    rw [er, el] at hI₂
    have ei : (0 : Int) + (i : Int) * 1 = (i : Int) := by lia
    rw [ei] at hT₅ hTO₅
    simp only [ev] at hT₅ hTO₅
    refine hQ _ h₅ tk₄ _ ⟨⟨h₄.objs.size, _, t, rfl, hT₅, Nat.ne_of_gt zlt, hz₅, hk₅ _ _ zTI.symm tTO (k₄ _ _ tLg tIg (k₃ _ _ zTI.symm tTO tI1 hTI)), ⟨_, _, hTO₅⟩, hk₅ _ _ zI1.symm oI1.symm (k₄ _ _ iLg iIg (hs₃.extBut _ _ oI1.symm hI₂)), ?_, hk₅ _ _ zl.symm oll.symm (k₄ _ _ lLg lIg hl₃), ?_, gs', mG, oI, gens_set hG, ?_, hk₅ _ _ zIg.symm oIg.symm hI₄, ?_⟩, hle⟩ (bare_set hB hbare) hle ?_
    · obtain ⟨o, nm, qn, ho, r⟩ := hg₃
      exact ⟨o, nm, qn, hk₅ _ _ zgA.symm ogA.symm (k₄ _ _ gLg gIg ho), r⟩
    · exact fun c o e => hk₅ c o (fun q => by rw [q, D.fz] at e; cases e) (fun q => by rw [q, D.fTO] at e; cases e) (F₄.keep c o e)
    · exact F₄.ns.at' fun o e => hk₅ Lg o zLg.symm oLg.symm e
    · intro s'' F'' hI'' hl''
      exact hcont (by lia) s'' F'' hI'' hl''
    · intro c o hc e
      obtain ⟨c1, c2, c3, c4, c5⟩ := off5 hc
      exact hk₅ c o c1 c2 (k₄ c o c4 c5 (k₃ c o c1 c2 c3 e))
  go := fun i v s Q E hm hQ => by
    obtain ⟨⟨T, ti, t, rfl, hT, hTz, hz, hTI, ⟨x, y, hTO⟩, hI1, hg, hl, hst, gs, mG, oI, hG, hns, hI, go⟩, hn⟩ := hm
    obtain ⟨zTI, zTO, zI1, zgA, zl, zLg, zIg, tTO, tI1, tgA, tl, tLg, tIg, oI1, ogA, oll, oLg, oIg, igA, il, iLg, iIg, gl, gLg, gIg, lLg, lIg, LgIg⟩ := D.apart
    refine wpAny_letOwnedTupleGo_zip hz fun h' hz' hs' => hQ h' ⟨T, _, rfl, ⟨ti, t, rfl⟩, ⟨_, hs'.extBut _ _ hTz hT, rfl, _, rfl⟩⟩ ⟨⟨hz', hs'.extBut _ _ zTI.symm hTI, ⟨x, y, hs'.extBut _ _ zTO.symm hTO⟩, hs'.extBut _ _ zI1.symm hI1, hg.sameBut hs' zgA.symm, hs'.extBut _ _ zl.symm hl⟩,
      fun c o e => hs'.extBut c o (fun q => by rw [q, D.fz] at e; cases e) (hst c o e), gs, mG, oI, hG, hns.sameBut hs' zLg.symm, hs'.extBut _ _ zIg.symm hI, go⟩ fun c o hc e => hs'.extBut c o (off5 hc).1 e
  done := fun s Q E st hQ => by
    obtain ⟨⟨hz, hTI, ⟨x, y, hTO⟩, hI1, hg, hl⟩, hst, hrest⟩ := st
    obtain ⟨zTI, zTO, zI1, zgA, zl, zLg, zIg, tTO, tI1, tgA, tl, tLg, tIg, oI1, ogA, oll, oLg, oIg, igA, il, iLg, iIg, gl, gLg, gIg, lLg, lIg, LgIg⟩ := D.apart
    refine pyNext_zip hz (zip2_step zTO.symm hz hTI hTO fun h₁ hs₁ hz₁ => ?_)
    refine wpAny_mono (nextOf_range_end (R := fun s' => Heap.ExtBut I1 h₁ s'.heap ∧ s' = { s with heap := s'.heap }) (Q := fun _ _ => False) hh (hs₁.extBut _ _ zI1.symm hI1) (by decide) fun h' hx => ⟨hx, rfl⟩) (fun _ _ h => h.elim) fun e s' he => ?_
    obtain ⟨ae, oe, rfl, hoe, hce, hx, hs'⟩ := he
    refine ⟨hx z _ zI1 hz₁, fun h'' hz'' hs'' => ⟨ae, oe, rfl, ?_, hce, ?_⟩⟩
    · refine hs''.extBut _ _ (fun q => ?_) hoe
      rw [q, hx z _ zI1 hz₁] at hoe
      cases hoe
      injection hce with hce
      exact absurd hce (by decide)
    · rw [hs']
      exact hQ h'' s.toks fun b o hb e => hs''.extBut b o (off5 hb).1 (hx b o (off5 hb).2.2.1 (hs₁.extBut b o (off5 hb).1 e))
end
-- M2
section
theorem MApart.sub8 {h₀ : Heap} {z TI TO I1 gA l Lg Ig c : Addr} (_D : MApart h₀ z TI TO I1 gA l Lg Ig) (h : c ∈ [z, TO, I1, Lg, Ig]) : c ∈ [z, TI, TO, I1, gA, l, Lg, Ig] := by
  simp only [List.mem_cons, List.not_mem_nil, or_false] at h ⊢
  rcases h with h | h | h | h | h <;> simp [h]
theorem call_gen2 (w : World) {A : Around} {E : Value → Shared → Prop} {s : Shared} {mean : ExcName → Option Value} {mg mb : Str → Option Value} {h₀ : Heap} {L l : Addr} {m : Str → Option Value} {news : Led} {Q : Value → Shared → Prop}
    (X : (KK w.params).In h₀) (F : Fr h₀ L s.heap m) (N : News h₀ L s.heap news) (T : Top qv (looseW qv loose) mean mg mb h₀) (hroom : A.depth < recursionLimit)
    (h : ∀ Lg h' tk oL oG, Fr h₀ L h' m → News h₀ L h' ((Lg + 1, oG) :: (Lg, oL) :: news) → LCg.NsObj oL (fun y => [(Str.ofString "grouping", Value.ref l)].lookup y) →
      (∃ nm qn, oG = { cls := .type "generator", data := .fields #[.int s.gens.size 0, nm, qn] }) → (∀ p ∈ news, p.1 < Lg) → @LT.lt Nat _ L Lg → Q (.ref (Lg + 1)) { s with heap := h', toks := tk, gens := s.gens.push (.fresh (.func B5 (genv Lg))) }) :
    wpAny (model rr.prog w) A (call (.ref 94) [.ref l]) Q E s :=
  call_gen w X F N T hroom fun h' tk oL oG F' N' hn ho _ => h _ h' tk oL oG F' N' hn ho (fun p hp => Heap.lt_size (N p hp).1) F.ns.lt
/-- the loop over a range and the generator, drawn together -/
theorem zip_marks (w : World) {A : Around} {E : Value → Shared → Prop} {s : Shared} {env : Env} {ys : List (Str × Pos)} {k : Nat} {pos : Pos} {body orelse : List Stmt} {mean : ExcName → Option Value} {mg mb : Str → Option Value} {h₀ : Heap} {l Lg r : Addr} {g : Nat} {a b : Int} {t1 t2 t3 t4 tr1 tr2 tr3 : Tok} {kl : Nat} {oL oG : Obj} {m : Str → Option Value} {news : Led} {Q : Flow → Shared → Prop}
    (hh : A.handled = none) (hroom : A.depth < recursionLimit) (X : (KK w.params).In h₀) (T : Top qv (looseW qv loose) mean mg mb h₀) (ha : 1 ≤ a ∧ a ≤ 4) (hb : 1 ≤ b ∧ b ≤ 4)
    (hys : ys.length = 2) (hy : ∀ y ∈ ys, env.kindOf y.1 = some .local) (hp : (env.scope.kind == .class || (env.scope.kind == .module && env.locals != env.globals)) = false)
    (F : Fr h₀ env.locals s.heap m) (N : News h₀ env.locals s.heap ((Lg + 1, oG) :: (Lg, oL) :: (l, W.listOf #[.int a t1, .int b t2, .int 0 t3, .int 127 t4] kl) :: (r, { cls := .type "range", data := .fields #[.int 0 tr1, .int 9 tr2, .int 1 tr3] }) :: news))
    (hNs : LCg.NsObj oL (fun y => [(Str.ofString "grouping", Value.ref l)].lookup y)) (hoG : ∃ nm qn, oG = { cls := .type "generator", data := .fields #[.int g 0, nm, qn] }) (hG : s.gens[g]? = some (.fresh (.func B5 (genv Lg)))) (hB : AllBare s.gens)
    (hlt : ∀ q ∈ news, q.1 < Lg) (hl : ∀ q ∈ news, q.1 ≠ l) (hlL : @LT.lt Nat _ l Lg) (hLL : @LT.lt Nat _ env.locals Lg)
    (J : Nat → (Str → Option Value) → Led → Prop) (h0 : J 0 m news)
    (step : ∀ (wr : List Addr) i ti t m₁ news₁ h tk G own, i < 9 → AllBare G → J i m₁ news₁ → (∀ p ∈ own, ∀ q ∈ news, p.1 ≠ q.1) → (∀ p ∈ news₁, p.1 ∉ wr) → Fr h₀ env.locals h (bindNames (ys.map (·.1)) [.int (i : Int) ti, .int (if i = 0 then a else b) t] m₁) → News h₀ env.locals h (news₁ ++ own) →
      ∀ g t G₀, wpAny (model rr.prog w) A (execs body env) (FEndG h₀ env.locals { s with heap := g, toks := t, gens := G₀ } wr own (fun G' => G' = G ∧ AllBare G') (J (i + 1)) Q) E { s with heap := h, toks := tk, gens := G })
    (done : ∀ h' tk G m' news', AllBare G → Fr h₀ env.locals h' m' → News h₀ env.locals h' news' → J 9 m' news' → wpAny (model rr.prog w) A (execs orelse env) Q E { s with heap := h', toks := tk, gens := G }) :
    wpAny (model rr.prog w) A (call (.type "zip") [.ref r, .ref (Lg + 1)]) (fun xv s₁ => wpAny (model rr.prog w) A (pyIter xv) (fun it s₂ => LoopG rr.prog w A h₀ env AllBare (fun G G' => G' = G) (.Tuple (ys.map fun y => PySem.Expr.Name y.1 y.2) k pos) body orelse Q E it s₂) E s₁) E s := by
  obtain ⟨nm, qn, rfl⟩ := hoG
  have NG := N _ List.mem_cons_self
  have NL := N (Lg, oL) (List.mem_cons_of_mem _ List.mem_cons_self)
  have Nl := N (l, _) (List.mem_cons_of_mem _ (List.mem_cons_of_mem _ List.mem_cons_self))
  have Nr := N (r, _) (List.mem_cons_of_mem _ (List.mem_cons_of_mem _ (List.mem_cons_of_mem _ List.mem_cons_self)))
  have Nn : News h₀ env.locals s.heap news := fun p hp => N p (List.mem_cons_of_mem _ (List.mem_cons_of_mem _ (List.mem_cons_of_mem _ (List.mem_cons_of_mem _ hp))))
  have gLt : Lg + 1 < s.heap.objs.size := Heap.lt_size NG.1
  refine call_zip2 (wpAny_pyIter_range Nr.1 (by decide) (wpAny_pyIter_gen (g := g) ⟨_, nm, qn, Heap.get?_push_of_some _ NG.1, rfl, rfl, rfl⟩ fun h5 hz hTI hTO hk5 => ?_))
  have z1 : (s.heap.push { cls := .type "range_iterator", data := .fields #[rawInt 0, rawInt (Builtin.Range.rangeSize 0 9 1), rawInt 1] }).objs.size = s.heap.objs.size + 1 := Heap.size_push ..
  dsimp only at hz hTI hTO hk5 ⊢
  rw [z1] at hz hTI hTO
  rw [z1]
  refine wpAny_pyIter_zip hz ?_
  have up : ∀ c o, s.heap.get? c = some o → h5.get? c = some o := fun c o e => hk5 c o (Heap.get?_push_of_some _ e)
  have hI1 : h5.get? s.heap.objs.size = _ := hk5 _ _ (Heap.get?_push_size _ rfl)
  have F5 : Fr h₀ env.locals h5 m := F.keeps up
  have N5 : News h₀ env.locals h5 news := fun p hp => ⟨up _ _ (Nn p hp).1, (Nn p hp).2⟩
  have zlt : s.heap.objs.size + 1 + 2 < h5.objs.size := Heap.lt_size hz
  have fr : ∀ c, @LE.le Nat _ s.heap.objs.size c → h₀.get? c = none := fun c hc => fresh_none F hc
  have hLs : @LT.lt Nat _ env.locals s.heap.objs.size := F.ns.lt
  generalize hn : s.heap.objs.size = n at *
  have D : MApart h₀ (n + 1 + 2) (n + 1) (n + 1 + 1) n (Lg + 1) l Lg h5.objs.size := by
    refine ⟨?_, ?_, Nat.le_of_lt (Nat.lt_of_le_of_lt F.above hLL)⟩
    · simp only [List.nodup_cons, List.mem_cons, not_or, List.not_mem_nil, or_false, not_false_eq_true, List.nodup_nil, and_true]
      simp only [Addr] at *
      omega
    · intro c hc
      simp only [List.mem_cons, List.not_mem_nil, or_false] at hc
      rcases hc with rfl | rfl | rfl | rfl | rfl
      · exact fr _ (by lia)
      · exact fr _ (by lia)
      · exact fr _ (Nat.le_refl _)
      · exact NL.2.2
      · exact fr _ (by lia)
  have hq : ∀ q ∈ news, ∀ c ∈ [n + 1 + 2, n + 1, n + 1 + 1, n, Lg + 1, l, Lg, h5.objs.size], q.1 ≠ c := by
    intro q hq c hc e
    have h1 := hlt q hq
    have h2 := hl q hq
    simp only [List.mem_cons, List.not_mem_nil, or_false] at hc
    simp only [Addr] at *
    rw [← e] at hc
    lia
  refine loopG_tup (s := { s with heap := h5 }) (Pt := fun i v tk => MP a b i v tk) hh (markTurns (g := g) (t1 := t1) (t2 := t2) (t3 := t3) (t4 := t4) (kl := kl) w hh hroom X T ha hb D) (fun _ _ _ _ _ h => h) ?_ hy hp ?_ D.fr (fun q hq' hm => hq q hq' _ (D.sub8 hm) rfl) ?_ hB F5 N5 J h0 ?_ (fun h' tk G m' news' _ b c d e => done h' tk G m' news' b c d e)
  · rintro i v tk ⟨ti, t, rfl⟩
    exact hys.symm
  · intro hm
    rcases List.mem_append.mp hm with hm | hm
    · simp only [List.mem_cons, List.not_mem_nil, or_false] at hm
      simp only [Addr] at *
      have h3 := Heap.lt_size hz
      rcases hm with e | e | e | e | e | e | e | e
      · lia
      · lia
      · lia
      · lia
      · lia
      · exact Nl.2.1 e.symm
      · lia
      · lia
    · obtain ⟨o, ho⟩ := mem_base.mp hm
      rw [Heap.get?_none_of_le F.above] at ho
      cases ho
  · refine ⟨⟨hz, hTI, ⟨_, _, hTO⟩, ?_, ⟨_, nm, qn, up _ _ NG.1, rfl, rfl, rfl⟩, up _ _ Nl.1⟩, F5.keep, hG, hNs.ns (up _ _ NL.1), rfl⟩
    have e9 : Builtin.Range.rangeSize 0 9 1 = 9 := by decide
    rw [e9] at hI1
    exact hI1
  · rintro i v m₁ news₁ h tk G own hi ⟨ti, t, rfl⟩ htk hBG hJ hown hmem hst hoff F' N' g' t' G₀
    refine step _ i ti t m₁ news₁ h tk G own hi hBG hJ (fun p hp q hq' e => ?_) hoff F' N' g' t' G₀
    rcases List.mem_append.mp (hown p hp) with hm | hm
    · exact hq q hq' _ hm e.symm
    · obtain ⟨o, ho⟩ := mem_base.mp hm
      rw [(N' p (List.mem_append_right _ hp)).2.2] at ho
      cases ho
end
-- T16
section
local macro_rules | `(tactic| walk_at "steps to if") => `(tactic| repeat' ((fail_if_success (with_reducible show wpAny _ _ (eval (PySem.Expr.IfExp _ _ _ _) _) _ _ _)); first | (k_unfold; (try dsimp only)) | (k_end; wrow_close) | (walk1; all_goals (try dsimp only)) | (dsimp only; walk1) | (leave1; walk_say "STEP leave1"; try dsimp only)))
local macro_rules | `(tactic| walk_at "steps to range") => `(tactic| repeat' ((fail_if_success (with_reducible show wpAny _ _ (call (Value.type "range") _) _ _ _)); first | (k_unfold; (try dsimp only)) | (k_end; wrow_close) | (walk1; all_goals (try dsimp only)) | (dsimp only; walk1) | (leave1; walk_say "STEP leave1"; try dsimp only)))
/-- a call's contract, the generators told: bare ones stay bare -/
noncomputable def SpecG (w : World) (f : Addr) (vs : List Value) (news : Led) (pre : Nat → Prop) (R : Value → Led → Prop) (d : Nat := 20) (u : Nat := 128) : Prop :=
  ∀ (mean : ExcName → Option Value) (mg mb : Str → Option Value) (dp un : Nat) (gd : Option (List Code)) (cn : Str) (cs : Scope) (a : Addr) (ccd : Value) (cl : List (Str × Addr)) (outer : List Env) (A₀ : Around) (base h₀ : Heap) (L : Addr)
    (m : Str → Option Value) (s : Shared) (Q E : Value → Shared → Prop),
    Below A₀ base outer h₀ → Fr h₀ L s.heap m → (KK w.params).In h₀ → News h₀ L s.heap news → Top qv (looseW qv loose) mean mg mb h₀ → cs.kind = .function →
    dp + d < recursionLimit → un + u < cLine → pre s.toks → AllBare s.gens →
    (∀ (r : Value) (nw : Led) (h' : Heap) (tk' : Nat) (G : Array GenState), R r nw → AllBare G → Fr h₀ L h' m → News h₀ L h' (nw ++ news) → Q r { s with heap := h', toks := tk', gens := G }) →
      wpAny (model rr.prog w) (ktrTop dp un gd cn cs L a ccd cl outer) (call (.ref f) vs) Q E s
theorem SpecG.use {w : World} {f : Addr} {vs : List Value} {news : Led} {pre : Nat → Prop} {R : Value → Led → Prop} {d u : Nat} (S : SpecG w f vs news pre R d u) {mean : ExcName → Option Value} {mg mb : Str → Option Value} {dp un : Nat} {gd : Option (List Code)} {cn : Str} {cs : Scope} {a : Addr} {ccd : Value} {cl : List (Str × Addr)} {outer : List Env} {A₀ : Around} {base h₀ : Heap} {L : Addr}
    {m : Str → Option Value} {s : Shared} {Q E : Value → Shared → Prop}
    (B : Below A₀ base outer h₀) (F : Fr h₀ L s.heap m) (X : (KK w.params).In h₀) (N : News h₀ L s.heap news) (T : Top qv (looseW qv loose) mean mg mb h₀) (hk : cs.kind = .function) (hd : dp + d < recursionLimit) (hu : un + u < cLine) (hp : pre s.toks) (hB : AllBare s.gens)
    (h : ∀ (r : Value) (nw : Led) (h' : Heap) (tk' : Nat) (G : Array GenState), R r nw → AllBare G → Fr h₀ L h' m → News h₀ L h' (nw ++ news) → Q r { s with heap := h', toks := tk', gens := G }) :
    wpAny (model rr.prog w) (ktrTop dp un gd cn cs L a ccd cl outer) (call (.ref f) vs) Q E s :=
  S mean mg mb dp un gd cn cs a ccd cl outer A₀ base h₀ L m s Q E B F X N T hk hd hu hp hB h
theorem range_led {prog : Program} {w : World} {A : Around} {E : Value → Shared → Prop} {s : Shared} {h₀ : Heap} {L : Addr} {m : Str → Option Value} {news : Led} {n : Int} {t : Tok} {Q : Value → Shared → Prop} (F : Fr h₀ L s.heap m) (N : News h₀ L s.heap news)
    (h : ∀ r h' tk t1 t3, Fr h₀ L h' m → News h₀ L h' ((r, { cls := .type "range", data := .fields #[.int 0 t1, .int n t, .int 1 t3] }) :: news) → (∀ p ∈ news, p.1 < r) → Q (.ref r) { s with heap := h', toks := tk }) : wpAny (model prog w) A (call (.type "range") [.int n t]) Q E s :=
  call_range_1 (h _ _ _ _ _ (F.push _) (N.push F _) fun p hp => Heap.lt_size (N p hp).1)
noncomputable def IfEnd (g : Heap) (L : Addr) (s : Shared) (m : Str → Option Value) (news : Led) (ns : List Int) (v : Value) (s' : Shared) : Prop :=
  ∃ D h' tk vs0, v = .ref D ∧ s' = { s with heap := h', toks := tk } ∧ Fr g L h' m ∧ News g L h' ((D, W.listOf vs0.toArray 0) :: news) ∧ (∀ p ∈ news, p.1 < D) ∧ IntsAre vs0 ns
theorem if_merge {M : Model} {A : Around} {E : Value → Shared → Prop} {s : Shared} {g : Heap} {L : Addr} {m : Str → Option Value} {news : Led} {e : Sem Value} {Q : Value → Shared → Prop} (_F : Fr g L s.heap m) (_N : News g L s.heap news) (ns : List Int)
    (h1 : wpAny M A e (IfEnd g L s m news ns) E s)
    (h2 : ∀ D h' tk vs0, Fr g L h' m → News g L h' ((D, W.listOf vs0.toArray 0) :: news) → (∀ p ∈ news, p.1 < D) → IntsAre vs0 ns → Q (.ref D) { s with heap := h', toks := tk }) : wpAny M A e Q E s :=
  wpAny_mono h1 (fun v s' hv => by
    obtain ⟨D, h', tk, vs0, rfl, rfl, a, b, c, d⟩ := hv
    exact h2 D h' tk vs0 a b c d) fun _ _ x => x
noncomputable def marksS (a b : Int) : List Int := (if a = b then [0] else []) ++ ((List.range 9).map fun (j : Nat) => a + (j : Int) * b).filter fun m => decide (m ≤ 8)
noncomputable def mkM (ut uw : Option Value) (vm vl va vb : Value) : Str → Option Value := fun y =>
  if y = Str.ofString "width" then uw else if y = Str.ofString "turn" then ut else if y = Str.ofString "marks" then some vl else if y = Str.ofString "mark" then some vm else if y = Str.ofString "size" then some vb else if y = Str.ofString "first" then some va else none
noncomputable def mk (a b : Int) : Nat → Int
  | 0 => 0
  | i + 1 => a + (i : Int) * b
inductive MJ (D : Addr) (a b : Int) (ta tb : Tok) (news : Led) (i : Nat) (m : Str → Option Value) (nw : Led) : Prop
  | mk (ut : Option Value) (uw : Option Value) (tm : Tok) (vs : List Value) (k : Nat)
    (q1 : m = mkM ut uw (.int (mk a b i) tm) (.ref D) (.int a ta) (.int b tb)) (q2 : nw = (D, W.listOf vs.toArray k) :: news) (q3 : IntsAre vs ((if a = b then [0] else []) ++ (List.range i).map fun j => mk a b (j + 1))) (q4 : mk a b i ≤ 8) : MJ D a b ta tb news i m nw
theorem mk_add (a b : Int) (i : Nat) : mk a b i + (if i = 0 then a else b) = mk a b (i + 1) := by
  cases i with
  | zero => simp [mk]
  | succ n => simp only [mk, Nat.succ_ne_zero, if_false]; push_cast; rw [Int.add_mul, Int.one_mul, Int.add_assoc]
theorem gens_push (G : Array GenState) (x : GenState) : (G.push x)[G.size]? = some x := by simp
theorem drop5 {g h : Heap} {L : Addr} {a b c d e : Addr × Obj} {r : Led} (N : News g L h (a :: b :: c :: d :: e :: r)) : News g L h (a :: b :: c :: d :: r) := fun p hp => N p (by simp only [List.mem_cons] at hp ⊢; grind)
theorem mk_start {vm vl va vb : Value} {R : Str → Option Value} (h1 : R (Str.ofString "width") = none) (h2 : R (Str.ofString "turn") = none) (hR : ∀ y, y ≠ Str.ofString "width" → y ≠ Str.ofString "turn" → R y = if y = Str.ofString "size" then some vb else if y = Str.ofString "first" then some va else none) :
    (fun y => if y = Str.ofString "marks" then some vl else if y = Str.ofString "mark" then some vm else R y) = mkM none none vm vl va vb := by
  funext y
  unfold mkM
  by_cases e1 : y = Str.ofString "width"
  · subst e1; exact h1
  by_cases e2 : y = Str.ofString "turn"
  · subst e2; exact h2
  simp only [if_neg e1, if_neg e2, hR y e1 e2]
theorem mk_mark {ut uw : Option Value} {vm vm' vl va vb : Value} : (fun y => if y = Str.ofString "mark" then some vm' else mkM ut uw vm vl va vb y) = mkM ut uw vm' vl va vb := by
  funext y
  unfold mkM
  by_cases h1 : y = Str.ofString "mark"
  · subst h1; rfl
  · simp only [if_neg h1]
theorem mk_turn {ut uw : Option Value} {vm vl va vb vt vw : Value} : bindNames [Str.ofString "turn", Str.ofString "width"] [vt, vw] (mkM ut uw vm vl va vb) = mkM (some vt) (some vw) vm vl va vb := by
  funext y
  show (if y = Str.ofString "width" then some vw else if y = Str.ofString "turn" then some vt else mkM ut uw vm vl va vb y) = _
  unfold mkM
  by_cases h1 : y = Str.ofString "width"
  · subst h1; rfl
  by_cases h2 : y = Str.ofString "turn"
  · subst h2; rfl
  simp only [if_neg h1, if_neg h2]
theorem marks_end {a b : Int} {i : Nat} (ha : 1 ≤ a ∧ a ≤ b) (hb : 1 ≤ b ∧ b ≤ 4) (hi : i < 9) (h1 : mk a b i ≤ 8) (h2 : mk a b (i + 1) > 8) : (if a = b then [0] else []) ++ ((List.range i).map fun j => mk a b (j + 1)) = marksS a b := by
  have hb' : b = 1 ∨ b = 2 ∨ b = 3 ∨ b = 4 := by lia
  have ha' : a = 1 ∨ a = 2 ∨ a = 3 ∨ a = 4 := by lia
  have hi' : i = 0 ∨ i = 1 ∨ i = 2 ∨ i = 3 ∨ i = 4 ∨ i = 5 ∨ i = 6 ∨ i = 7 ∨ i = 8 := by lia
  rcases hb' with rfl | rfl | rfl | rfl <;> rcases ha' with rfl | rfl | rfl | rfl <;> first | (exfalso; lia) | (rcases hi' with rfl | rfl | rfl | rfl | rfl | rfl | rfl | rfl | rfl <;> first | (exfalso; revert h2; decide) | (exfalso; revert h1; decide) | decide)
theorem spec_marks (w : World) (a b : Int) (ta tb : Tok) (news : Led) (ha : 1 ≤ a ∧ a ≤ b) (hb : 1 ≤ b ∧ b ≤ 4) :
    SpecG w 205 [.int a ta, .int b tb] news (fun _ => True) (fun r nw => ∃ D vs k, r = .ref D ∧ nw = [(D, W.listOf vs.toArray k)] ∧ IntsAre vs (marksS a b) ∧ ∀ p ∈ nw, ∀ q ∈ news, @LT.lt Nat _ q.1 p.1) 60 512 := by
  w_on
  unfold SpecG
  k_fill
  intros; rename_i hB hret
  refine wpAny_call ?_
  k_dflt cell_enter
  rename Fr _ _ _ _ => F0
  rename News _ _ _ _ => N0
  walk_at "steps to if"
  refine if_merge F0 N0 (if a = b then [0] else []) ?e fun D h' tk' vs0 F0' N0' l0 hi0 => ?_
  case e =>
    walk_at "steps"
    · rename a = b => hab
      rename Fr _ _ _ _ => F1
      rename News _ _ _ _ => N1
      exact ⟨_, _, _, [_], rfl, rfl, F1, N1, (by first | assumption | exact fun p hp => ktn_ltOf (by assumption) p hp), by rw [if_pos hab]; exact .cons _ _ .nil⟩
    · rename a ≠ b => hab
      rename Fr _ _ _ _ => F1
      rename News _ _ _ _ => N1
      exact ⟨_, _, _, [], rfl, rfl, F1, N1, (by first | assumption | exact fun p hp => ktn_ltOf (by assumption) p hp), by rw [if_neg hab]; exact .nil⟩
  replace l0 := allLt_of l0
  clear F0 N0
  dsimp only
  walk_at "steps to for"
  rename Fr _ _ _ _ => F1
  refine For_G AllBare (fun G G' => G' = G) F1 ?_
  walk_at "steps to range"
  rename Fr _ _ _ _ => F1
  rename News _ _ _ _ => N1
  refine range_led F1 N1 fun r h2 tk2 tr1 tr3 F2 N2 l2 => ?_
  k_lt l2
  clear F1 N1
  dsimp only
  walk_at "steps to call"
  rename Fr _ _ _ _ => F3
  rename News _ _ _ _ => N3
  have hll : ∀ q ∈ (D, W.listOf vs0.toArray 0) :: news, q.1 ≠ _ := fun q hq => Nat.ne_of_lt (ktn_ltOf (l := (D, W.listOf vs0.toArray 0) :: news) (‹_ < _ ∧ _ < _ ∧ D < _ ∧ AllLt _ news›).2.2 q hq)
  refine call_gen2 w (by k_asm) F3 N3 (by k_asm) (by ktr_room) fun Lg h4 tk4 oL oG F4 N4 hNs hoG hlt hLL => ?_
  clear F3 N3
  dsimp only
  walk_at "steps to zip"
  rename Fr _ _ _ _ => F5
  rename News _ _ _ _ => N5
  refine zip_marks w (ys := [(Str.ofString "turn", _), (Str.ofString "width", _)]) (by rfl) (by ktr_room) (by k_asm) (by k_asm) ⟨ha.1, by lia⟩ hb rfl ?hy (by rfl) F5 (drop5 N5) hNs hoG (gens_push _ _) (AllBare.push hB rfl) ?hlt hll ?hlL hLL (MJ D a b ta tb news) ?h0 ?st ?dn
  case hy =>
    intro y hy
    simp only [List.mem_cons, List.not_mem_nil, or_false] at hy
    rcases hy with rfl | rfl <;> rfl
  case hlt => exact fun q hq => hlt q (List.mem_cons_of_mem _ (List.mem_cons_of_mem _ (List.mem_cons_of_mem _ hq)))
  case hlL => exact hlt (_, _) List.mem_cons_self
  case h0 =>
    refine ⟨none, none, _, vs0, 0, mk_start ?_ ?_ ?_, rfl, by simpa using hi0, (by show (0 : Int) ≤ 8; decide)⟩
    · rfl
    · rfl
    · intro y h1 h2
      by_cases h3 : y = Str.ofString "size"
      · subst h3; rfl
      by_cases h4 : y = Str.ofString "first"
      · subst h4; rfl
      simp only [if_neg h3, if_neg h4]
      show List.lookup y [(Str.ofString "size", Value.int b tb), (Str.ofString "first", Value.int a ta)] = none
      simp only [List.lookup, beq_eq_false_iff_ne.mpr h3, beq_eq_false_iff_ne.mpr h4]
  case st =>
    rintro wr i ti t m₁ news₁ h tk G own hi hBG ⟨ut, uw, tm, vs, k, rfl, rfl, hvs, hmk⟩ hown hoff F6 N6 g' t' G₀
    clear F5 N5
    have hna : ∀ p ∈ news ++ own, p.1 ≠ D := fun p hp => by
      rcases List.mem_append.mp hp with hp | hp
      · exact Nat.ne_of_lt (ktn_ltOf l0 p hp)
      · exact hown p hp (D, _) List.mem_cons_self
    replace F6 : Fr _ _ h (bindNames [Str.ofString "turn", Str.ofString "width"] _ _) := F6
    rw [mk_turn] at F6
    unfold mkM at F6
    walk_at "steps to call"
    rename Fr _ _ _ _ => F7
    rename News _ _ _ _ => N7
    refine (spec_add w (mk a b i) (if i = 0 then a else b) _ _ _).use (by k_asm) F7 (by k_asm) N7 (by k_asm) rfl (by ktr_room) (by ktr_units) ?_
    rintro r8 nw8 h8 tk8 ⟨rfl, tr8, rfl⟩ F8 N8
    dsimp only [List.nil_append] at N8 ⊢
    clear F7 N7
    rw [mk_add] at *
    have hlen : vs.length ≤ 1000 := by
      have e := IntsAre.length hvs
      rw [e, List.length_append, List.length_map, List.length_range]
      split <;> simp <;> lia
    walk_at "steps"
    · rename mk a b (i + 1) > 8 => hgt
      dsimp only [FEndG]
      walk_at "steps"
      rename Fr _ _ _ _ => F9
      rename News _ _ _ _ => N9
      refine hret _ [(D, W.listOf vs.toArray k)] _ _ _ ⟨D, vs, k, rfl, rfl, by rw [← marks_end ha hb hi hmk hgt]; exact hvs, fun p hp q hq => by rw [List.mem_singleton.mp hp]; exact ktn_ltOf l0 q hq⟩ hBG F9 (fun p hp => N9 p ?_)
      rcases List.mem_append.mp hp with hp | hp
      · rw [List.mem_singleton.mp hp]; exact List.mem_append_left _ List.mem_cons_self
      · exact List.mem_append_left _ (List.mem_cons_of_mem _ hp)
    · rename ¬ (mk a b (i + 1) > 8) => hle
      rename Fr _ _ _ _ => F8
      rename News _ _ _ _ => N8
      refine acc_append0 F8 N8 hna hlen fun h9 F9 N9 => ?_
      walk_at "steps"
      refine FEndG.of F9 N9 ⟨rfl, hBG⟩ ((D, W.listOf (vs ++ [Value.int (mk a b (i + 1)) tr8]).toArray (k + 1)) :: news) (fun p hp => ?_) ?_ ⟨some (.int (i : Int) ti), some (.int (if i = 0 then a else b) t), tr8, vs ++ [.int (mk a b (i + 1)) tr8], k + 1, mk_mark, rfl, ?_, by lia⟩
      · rcases List.mem_append.mp hp with hp | hp
        · exact List.mem_cons_of_mem _ (List.mem_append_right _ hp)
        · rcases List.mem_cons.mp hp with rfl | hp
          · exact List.mem_cons_self
          · exact List.mem_cons_of_mem _ (List.mem_append_left _ hp)
      · rintro p hp
        rcases List.mem_cons.mp hp with rfl | hp
        · exact (hoff (D, _) List.mem_cons_self : D ∉ wr)
        · exact hoff p (List.mem_cons_of_mem _ hp)
      · rw [List.range_succ, List.map_append, ← List.append_assoc]
        exact ints_snoc hvs
  case dn =>
    rintro h' tk G m' news' hBG F' N' ⟨ut, uw, tm, vs, k, rfl, rfl, hvs, hmk⟩
    exfalso
    have : mk a b 9 = a + 8 * b := rfl
    lia
end
-- T17
section
local macro_rules | `(tactic| walk_at "call builtin:len") => `(tactic| (refine PySem.P.len_str (by show ¬ ((_ : Str).cps.size : Int) ≥ 2 ^ 63; lia) ?_))
noncomputable def colsS (x : Str) : Int × Int := (1 + (x.length : Int) + Txt.count x (Str.ofString "i") + 2 * Txt.count x (Str.ofString "l"), 1 + 2 * (x.length : Int) + 2 * Txt.count x (Str.ofString "l"))
theorem spec_columns (w : World) (x : Str) (tx : Tok) (news : Led) (hl : x.cps.size ≤ 4) : Spec w 217 [.str x tx] news (fun r nw => ∃ D t1 t2, r = .ref D ∧ nw = [(D, W.listOf #[.int (colsS x).1 t1, .int (colsS x).2 t2] 0)]) 60 512 := by
  w_on
  unfold Spec
  k_fill
  intros; rename_i hret
  refine wpAny_call ?_
  k_dflt cell_enter
  walk_at "steps"
  rename Fr _ _ _ _ => F1
  rename News _ _ _ _ => N1
  exact hret _ [_] _ _ ⟨_, _, _, rfl, rfl⟩ F1 N1
end
-- Z4
section
section
variable {prog : Program} {w : World} {A : Around} {E : Value → Shared → Prop} {s : Shared}
theorem zip3_step {z TI TO i1 i2 i3 : Addr} {a b c : Value} {Q : Value → Shared → Prop} (hTOz : TO ≠ z)
    (hz : IsZip s.heap z TI TO .none) (hTI : IsTupL s.heap TI #[.ref i1, .ref i2, .ref i3])
    (h : ∀ h₁, Heap.SameBut z s.heap h₁ → IsZip h₁ z TI TO .ellipsis → wpAny (model prog w) A (Builtin.SmallTypes.nextOf (.ref i1)) (fun x s₂ => IsTupL s₂.heap TO #[a, b, c] ∧ ∀ h₃, IsTupL h₃ TO #[x, b, c] → Heap.SameBut TO s₂.heap h₃ →
      wpAny (model prog w) A (Builtin.SmallTypes.nextOf (.ref i2)) (fun y s₄ => IsTupL s₄.heap TO #[x, b, c] ∧ ∀ h₅, IsTupL h₅ TO #[x, y, c] → Heap.SameBut TO s₄.heap h₅ →
      wpAny (model prog w) A (Builtin.SmallTypes.nextOf (.ref i3)) (fun u s₆ => IsTupL s₆.heap TO #[x, y, c] ∧ ZipQ z TI TO #[x, y, u] Q s₆) (ZipE z TI TO E) { s₄ with heap := h₅ }) (ZipE z TI TO E) { s₂ with heap := h₃ }) (ZipE z TI TO E) { s with heap := h₁ }) :
    wpAny (model prog w) A (Builtin.«zip.__next__» ⟨[.ref z], []⟩) (fun fin s' => ∃ v, fin = .done (.ret v) ∧ Q v s') E s := by
  show wpAny _ _ (field (.ref z) 2 >>= _) _ _ _
  refine wpAny_bind (wpAny_field hz rfl (x := .bool false) rfl ?_)
  show wpAny _ _ (field (.ref z) 3 >>= _) _ _ _
  refine wpAny_bind (wpAny_field hz rfl (x := .ref TI) rfl ?_)
  refine wpAny_bind (wpAny_seqItems hTI rfl ?_)
  show wpAny _ _ (Builtin.SmallTypes.ownedTupleIsFree (.ref z) >>= _) _ _ _
  refine wpAny_bind ?_
  unfold Builtin.SmallTypes.ownedTupleIsFree
  refine wpAny_bind (wpAny_field hz rfl (x := .none) rfl (wpAny_pure ?_))
  simp only [if_true]
  refine wpAny_bind (wpAny_rule ?_)
  refine wpAny_bind (wpAny_field hz rfl (x := .ref TO) rfl ?_)
  refine wpAny_bind (wpAny_setField_rec hz (by simp) fun h₁ hz₁ hs₁ => ?_)
  replace hz₁ : IsZip h₁ z TI TO .ellipsis := hz₁
  refine wpAny_bind ?_
  simp only [List.zipIdx_cons, List.zipIdx_nil, List.forIn_cons, List.forIn_nil]
  have fails : ∀ e s', ZipE z TI TO E e s' → wpAny (model prog w) A (setField (.ref z) 0 .none) (fun _ s'' => E e s'') E s' := fun e s' he =>
    wpAny_setField_rec he.1 (by simp) fun h' hz' hs' => he.2 h' hz' hs'
  refine wpAny_bind (wpAny_bind (wpAny_onRaise ?_))
  show wpAny _ _ (Builtin.SmallTypes.nextOf (.ref i1) >>= _) _ _ _
  refine wpAny_bind (wpAny_mono (h h₁ hs₁ hz₁) (fun x s₂ hx => wpAny_pure ?_) fails)
  obtain ⟨hTO₂, hx⟩ := hx
  refine wpAny_bind (wpAny_seqItems hTO₂ rfl ?_)
  refine wpAny_bind (upd_tup (by simp) hTO₂ fun h₃ hTO₃ hs₃ => ?_)
  refine wpAny_bind (wpAny_letGo (wpAny_pure ?_))
  refine wpAny_bind (wpAny_bind (wpAny_onRaise ?_))
  show wpAny _ _ (Builtin.SmallTypes.nextOf (.ref i2) >>= _) _ _ _
  refine wpAny_bind (wpAny_mono (hx h₃ hTO₃ hs₃) (fun y s₄ hy => wpAny_pure ?_) fails)
  obtain ⟨hTO₄, hy⟩ := hy
  refine wpAny_bind (wpAny_seqItems hTO₄ rfl ?_)
  refine wpAny_bind (upd_tup (by simp) hTO₄ fun h₅ hTO₅ hs₅ => ?_)
  refine wpAny_bind (wpAny_letGo (wpAny_pure ?_))
  refine wpAny_bind (wpAny_bind (wpAny_onRaise ?_))
  show wpAny _ _ (Builtin.SmallTypes.nextOf (.ref i3) >>= _) _ _ _
  refine wpAny_bind (wpAny_mono (hy h₅ hTO₅ hs₅) (fun u s₆ hu => wpAny_pure ?_) fails)
  obtain ⟨hTO₆, hz₆, hq⟩ := hu
  refine wpAny_bind (wpAny_seqItems hTO₆ rfl ?_)
  refine wpAny_bind (upd_tup (by simp) hTO₆ fun h₇ hTO₇ hs₇ => ?_)
  refine wpAny_bind (wpAny_letGo (wpAny_pure (wpAny_pure ?_)))
  refine wpAny_bind (wpAny_seqItems hTO₇ rfl ?_)
  refine zip_out (by simp) hTOz hTO₇ (hs₇.extBut _ _ hTOz.symm hz₆) fun h₈ hz₈ hTO₈ hT₈ hk₈ => ?_
  have hsz : h₇.objs.size = s₆.heap.objs.size := hs₇.1
  rw [show ({ s₆ with heap := h₇ } : Shared).heap.objs.size = s₆.heap.objs.size from hsz] at hz₈ hT₈ ⊢
  exact hq h₈ hz₈ hTO₈ hT₈ fun e o c1 c2 q => hk₈ e o c1 (hs₇.extBut e o c2 q)
end
end
-- Z5
section
section
variable {prog : Program} {w : World} {A : Around} {E : Value → Shared → Prop} {s : Shared}
theorem nextOf_list_stop {z TI TO it l : Addr} {i : Nat} {items : Array Value} {Q : Value → Shared → Prop} {R : Shared → Prop} (hh : A.handled = none) (hz : IsZip s.heap z TI TO .ellipsis) (hne : z ≠ it) (hit : s.heap.IsListIter it l i) (hl : s.heap.IsList l items) (hx : items[i]? = none)
    (hR : ∀ h', (∀ b o, b ≠ z → b ≠ it → s.heap.get? b = some o → h'.get? b = some o) → R { s with heap := h' }) : wpAny (model prog w) A (Builtin.SmallTypes.nextOf (.ref it)) Q (ZipE z TI TO (StopAt R)) s := by
  refine wpAny_nextOf_list_end hh hit hl hx fun h' e hx' ho => ?_
  obtain ⟨o, ho, hc⟩ := ho
  refine ⟨hx' z _ hne hz, fun h'' hz'' hs'' => ⟨e, o, rfl, ?_, hc, hR h'' fun b o' b1 b2 q => hs''.extBut b o' b1 (hx' b o' b2 q)⟩⟩
  refine hs''.extBut _ _ (fun q => ?_) ho
  rw [q, hx' z _ hne hz] at ho
  cases ho
  injection hc with hc
  exact absurd hc (by decide)
structure Z3Apart (z TI TO i1 i2 i3 l1 l2 l3 : Addr) : Prop where
  nd : [z, TI, TO, i1, i2, i3].Nodup
  ls : ∀ l ∈ [l1, l2, l3], l ∉ [z, TO, i1, i2, i3]
noncomputable def Z3B (z TI TO i1 i2 i3 l1 l2 l3 : Addr) (xs ys us : Array Value) (i : Nat) (h : Heap) : Prop :=
  IsTupL h TI #[.ref i1, .ref i2, .ref i3] ∧ (∃ a b c, IsTupL h TO #[a, b, c]) ∧ h.IsListIter i1 l1 i ∧ h.IsListIter i2 l2 i ∧ h.IsListIter i3 l3 i ∧ h.IsList l1 xs ∧ h.IsList l2 ys ∧ h.IsList l3 us
noncomputable def Z3P (xs ys us : Array Value) (i : Nat) (vals : Array Value) (_ : Nat) : Prop := ∃ x y u, xs[i]? = some x ∧ ys[i]? = some y ∧ us[i]? = some u ∧ vals = #[x, y, u]
theorem Z3Apart.ne {z TI TO i1 i2 i3 l1 l2 l3 : Addr} (D : Z3Apart z TI TO i1 i2 i3 l1 l2 l3) : (z ≠ TI ∧ z ≠ TO ∧ z ≠ i1 ∧ z ≠ i2 ∧ z ≠ i3) ∧ (TI ≠ TO ∧ TI ≠ i1 ∧ TI ≠ i2 ∧ TI ≠ i3) ∧ (TO ≠ i1 ∧ TO ≠ i2 ∧ TO ≠ i3) ∧ (i1 ≠ i2 ∧ i1 ≠ i3) ∧ i2 ≠ i3 := by
  simpa [List.nodup_cons] using D.nd
theorem Z3B.at {z TI TO i1 i2 i3 l1 l2 l3 : Addr} {xs ys us : Array Value} {i : Nat} {h h' : Heap} (b : Z3B z TI TO i1 i2 i3 l1 l2 l3 xs ys us i h) (k : ∀ c ∈ [TI, TO, i1, i2, i3, l1, l2, l3], ∀ o, h.get? c = some o → h'.get? c = some o) : Z3B z TI TO i1 i2 i3 l1 l2 l3 xs ys us i h' := by
  obtain ⟨hTI, ⟨x, y, u, hTO⟩, h1, h2, h3, hl1, hl2, hl3⟩ := b
  exact ⟨k TI (by simp) _ hTI, ⟨x, y, u, k TO (by simp) _ hTO⟩, h1.at fun o e => k i1 (by simp) o e, h2.at fun o e => k i2 (by simp) o e, h3.at fun o e => k i3 (by simp) o e, hl1.at fun o e => k l1 (by simp) o e, hl2.at fun o e => k l2 (by simp) o e, hl3.at fun o e => k l3 (by simp) o e⟩
theorem zip3Turns {elts : List PySem.Expr} {k : Nat} {pos : Pos} {z TI TO i1 i2 i3 l1 l2 l3 : Addr} {xs ys us : Array Value} {n₀ : Nat} (hh : A.handled = none) (D : Z3Apart z TI TO i1 i2 i3 l1 l2 l3) :
    TTurns prog w A (.Tuple elts k pos) z [z, TI, TO, i1, i2, i3, l1, l2, l3] [z, TO, i1, i2, i3] (min xs.size (min ys.size us.size)) n₀ (fun i v h tk => ∃ T vals, v = .ref T ∧ Z3P xs ys us i vals tk ∧ h.IsTuple T vals)
      (fun i v h _ => ∃ T vals, v = .ref T ∧ Z3P xs ys us i vals 0 ∧ IsTupL h T vals ∧ T ≠ z ∧ IsZip h z TI TO (rawInt T) ∧ Z3B z TI TO i1 i2 i3 l1 l2 l3 xs ys us (i + 1) h)
      (fun i h => IsZip h z TI TO .none ∧ Z3B z TI TO i1 i2 i3 l1 l2 l3 xs ys us i h) where
  sub := fun b hb => by
    simp only [List.mem_cons, List.not_mem_nil, or_false] at hb ⊢
    rcases hb with h | h | h | h | h <;> simp [h]
  frame := fun i h h' st hk => ⟨hk z (by simp) _ st.1, st.2.at fun c hc o e => hk c (List.mem_cons_of_mem _ hc) o e⟩
  item := fun i s Q E hi st hn hQ => by
    obtain ⟨hz, hTI, ⟨a, b, c, hTO⟩, h1, h2, h3, hl1, hl2, hl3⟩ := st
    obtain ⟨⟨zTI, zTO, z1, z2, z3⟩, ⟨tTO, t1, t2, t3⟩, ⟨o1, o2, o3⟩, ⟨i12, i13⟩, i23⟩ := D.ne
    have nl := fun l (hl : l ∈ [l1, l2, l3]) => show l ≠ z ∧ l ≠ TO ∧ l ≠ i1 ∧ l ≠ i2 ∧ l ≠ i3 by simpa using D.ls l hl
    obtain ⟨l1z, l1o, l11, l12, l13⟩ := nl l1 (by simp)
    obtain ⟨l2z, l2o, l21, l22, l23⟩ := nl l2 (by simp)
    obtain ⟨l3z, l3o, l31, l32, l33⟩ := nl l3 (by simp)
    have hix : i < xs.size := by lia
    have hiy : i < ys.size := by lia
    have hiu : i < us.size := by lia
    refine wpAny_with_toks hn ?_
    refine pyNext_zip hz (zip3_step (a := a) (b := b) (c := c) zTO.symm hz hTI fun h₁ hs₁ hz₁ => ?_)
    refine wpAny_nextOf_list_item (h1.extBut hs₁.extBut z1.symm) (hl1.extBut hs₁.extBut l1z) (Array.getElem?_eq_getElem hix) fun h₂ I1 hs₂ => ⟨hs₂.extBut _ _ o1 (hs₁.extBut _ _ zTO.symm hTO), fun h₃ hTO₃ hs₃ => ?_⟩
    have k₃ : ∀ c o, c ≠ z → c ≠ i1 → c ≠ TO → s.heap.get? c = some o → h₃.get? c = some o := fun c o c1 c2 c3 e => hs₃.extBut c o c3 (hs₂.extBut c o c2 (hs₁.extBut c o c1 e))
    refine wpAny_nextOf_list_item (h2.at fun o e => k₃ i2 o z2.symm i12.symm o2.symm e) (hl2.at fun o e => k₃ l2 o l2z l21 l2o e) (Array.getElem?_eq_getElem hiy) fun h₄ I2 hs₄ => ⟨hs₄.extBut _ _ o2 hTO₃, fun h₅ hTO₅ hs₅ => ?_⟩
    have k₅ : ∀ c o, c ≠ z → c ≠ i1 → c ≠ TO → c ≠ i2 → s.heap.get? c = some o → h₅.get? c = some o := fun c o c1 c2 c3 c4 e => hs₅.extBut c o c3 (hs₄.extBut c o c4 (k₃ c o c1 c2 c3 e))
    refine wpAny_nextOf_list_item (h3.at fun o e => k₅ i3 o z3.symm i13.symm o3.symm i23.symm e) (hl3.at fun o e => k₅ l3 o l3z l31 l3o l32 e) (Array.getElem?_eq_getElem hiu) fun h₆ I3 hs₆ => ?_
    have k₆ : ∀ c o, c ≠ z → c ≠ i1 → c ≠ TO → c ≠ i2 → c ≠ i3 → s.heap.get? c = some o → h₆.get? c = some o := fun c o c1 c2 c3 c4 c5 e => hs₆.extBut c o c5 (k₅ c o c1 c2 c3 c4 e)
    have hz₆ : IsZip h₆ z TI TO .ellipsis := hs₆.extBut _ _ z3 (hs₅.extBut _ _ zTO (hs₄.extBut _ _ z2 (hs₃.extBut _ _ zTO (hs₂.extBut _ _ z1 hz₁))))
    have zlt : z < h₆.objs.size := Heap.lt_size hz₆
    refine ⟨hs₆.extBut _ _ o3 hTO₅, hz₆, fun h₇ hz₇ hTO₇ hT₇ hk₇ hle => ?_⟩
    refine hQ _ h₇ s.toks ⟨h₆.objs.size, _, rfl, ⟨_, _, _, Array.getElem?_eq_getElem hix, Array.getElem?_eq_getElem hiy, Array.getElem?_eq_getElem hiu, rfl⟩, hT₇, Nat.ne_of_gt zlt, hz₇, hk₇ _ _ zTI.symm tTO (k₆ _ _ zTI.symm t1 tTO t2 t3 hTI), ⟨_, _, _, hTO₇⟩, ?_, ?_, ?_, ?_, ?_, ?_⟩ hle ?_
    · exact ((I1.extBut hs₃.extBut o1.symm).extBut hs₄.extBut i12).at fun o e => hk₇ i1 o z1.symm o1.symm (hs₆.extBut _ _ i13 (hs₅.extBut _ _ o1.symm e))
    · exact (I2.extBut hs₅.extBut o2.symm).at fun o e => hk₇ i2 o z2.symm o2.symm (hs₆.extBut _ _ i23 e)
    · exact I3.at fun o e => hk₇ i3 o z3.symm o3.symm e
    · exact hl1.at fun o e => hk₇ l1 o l1z l1o (k₆ l1 o l1z l11 l1o l12 l13 e)
    · exact hl2.at fun o e => hk₇ l2 o l2z l2o (k₆ l2 o l2z l21 l2o l22 l23 e)
    · exact hl3.at fun o e => hk₇ l3 o l3z l3o (k₆ l3 o l3z l31 l3o l32 l33 e)
    · intro q o hq e
      simp only [List.mem_cons, not_or, List.not_mem_nil, or_false] at hq
      obtain ⟨c1, c2, c3, c4, c5⟩ := hq
      exact hk₇ q o c1 c2 (k₆ q o c1 c3 c2 c4 c5 e)
  go := fun i v s Q E hm hQ => by
    obtain ⟨T, vals, rfl, hP, hT, hTz, hz, hb⟩ := hm
    obtain ⟨⟨zTI, zTO, z1, z2, z3⟩, _⟩ := D.ne
    have nl := fun l (hl : l ∈ [l1, l2, l3]) => show l ≠ z ∧ l ≠ TO ∧ l ≠ i1 ∧ l ≠ i2 ∧ l ≠ i3 by simpa using D.ls l hl
    refine wpAny_letOwnedTupleGo_zip hz fun h' hz' hs' => hQ h' ⟨T, vals, rfl, hP, ⟨_, hs'.extBut _ _ hTz hT, rfl, _, rfl⟩⟩ ⟨hz', hb.at fun c hc o e => hs'.extBut c o ?_ e⟩ fun b o hb e => hs'.extBut b o (fun q => hb (by simp [q])) e
    simp only [List.mem_cons, List.not_mem_nil, or_false] at hc
    rcases hc with rfl | rfl | rfl | rfl | rfl | rfl | rfl | rfl
    · exact zTI.symm
    · exact zTO.symm
    · exact z1.symm
    · exact z2.symm
    · exact z3.symm
    · exact (nl _ (by simp)).1
    · exact (nl _ (by simp)).1
    · exact (nl _ (by simp)).1
  done := fun s Q E st hQ => by
    obtain ⟨hz, hTI, ⟨a, b, c, hTO⟩, h1, h2, h3, hl1, hl2, hl3⟩ := st
    obtain ⟨⟨zTI, zTO, z1, z2, z3⟩, ⟨tTO, t1, t2, t3⟩, ⟨o1, o2, o3⟩, ⟨i12, i13⟩, i23⟩ := D.ne
    have nl := fun l (hl : l ∈ [l1, l2, l3]) => show l ≠ z ∧ l ≠ TO ∧ l ≠ i1 ∧ l ≠ i2 ∧ l ≠ i3 by simpa using D.ls l hl
    obtain ⟨l1z, l1o, l11, l12, l13⟩ := nl l1 (by simp)
    obtain ⟨l2z, l2o, l21, l22, l23⟩ := nl l2 (by simp)
    obtain ⟨l3z, l3o, l31, l32, l33⟩ := nl l3 (by simp)
    generalize hn : min xs.size (min ys.size us.size) = n at *
    refine pyNext_zip hz (zip3_step (a := a) (b := b) (c := c) zTO.symm hz hTI fun h₁ hs₁ hz₁ => ?_)
    by_cases hx : n < xs.size
    · refine wpAny_nextOf_list_item (h1.extBut hs₁.extBut z1.symm) (hl1.extBut hs₁.extBut l1z) (Array.getElem?_eq_getElem hx) fun h₂ I1 hs₂ => ⟨hs₂.extBut _ _ o1 (hs₁.extBut _ _ zTO.symm hTO), fun h₃ hTO₃ hs₃ => ?_⟩
      have k₃ : ∀ c o, c ≠ z → c ≠ i1 → c ≠ TO → s.heap.get? c = some o → h₃.get? c = some o := fun c o c1 c2 c3 e => hs₃.extBut c o c3 (hs₂.extBut c o c2 (hs₁.extBut c o c1 e))
      have hz₃ : IsZip h₃ z TI TO .ellipsis := hs₃.extBut _ _ zTO (hs₂.extBut _ _ z1 hz₁)
      by_cases hy : n < ys.size
      · refine wpAny_nextOf_list_item (h2.at fun o e => k₃ i2 o z2.symm i12.symm o2.symm e) (hl2.at fun o e => k₃ l2 o l2z l21 l2o e) (Array.getElem?_eq_getElem hy) fun h₄ I2 hs₄ => ⟨hs₄.extBut _ _ o2 hTO₃, fun h₅ hTO₅ hs₅ => ?_⟩
        have k₅ : ∀ c o, c ≠ z → c ≠ i1 → c ≠ TO → c ≠ i2 → s.heap.get? c = some o → h₅.get? c = some o := fun c o c1 c2 c3 c4 e => hs₅.extBut c o c3 (hs₄.extBut c o c4 (k₃ c o c1 c2 c3 e))
        refine nextOf_list_stop hh (hs₅.extBut _ _ zTO (hs₄.extBut _ _ z2 hz₃)) z3 (h3.at fun o e => k₅ i3 o z3.symm i13.symm o3.symm i23.symm e) (hl3.at fun o e => k₅ l3 o l3z l31 l3o l32 e) (Array.getElem?_eq_none (by lia)) fun h' k' => hQ h' s.toks fun q o hq e => ?_
        simp only [List.mem_cons, not_or, List.not_mem_nil, or_false] at hq
        exact k' q o hq.1 hq.2.2.2.2 (k₅ q o hq.1 hq.2.2.1 hq.2.1 hq.2.2.2.1 e)
      · refine nextOf_list_stop hh hz₃ z2 (h2.at fun o e => k₃ i2 o z2.symm i12.symm o2.symm e) (hl2.at fun o e => k₃ l2 o l2z l21 l2o e) (Array.getElem?_eq_none (by lia)) fun h' k' => hQ h' s.toks fun q o hq e => ?_
        simp only [List.mem_cons, not_or, List.not_mem_nil, or_false] at hq
        exact k' q o hq.1 hq.2.2.2.1 (k₃ q o hq.1 hq.2.2.1 hq.2.1 e)
    · refine nextOf_list_stop hh hz₁ z1 (h1.extBut hs₁.extBut z1.symm) (hl1.extBut hs₁.extBut l1z) (Array.getElem?_eq_none (by lia)) fun h' k' => hQ h' s.toks fun q o hq e => ?_
      simp only [List.mem_cons, not_or, List.not_mem_nil, or_false] at hq
      exact k' q o hq.1 hq.2.2.1 (hs₁.extBut q o hq.1 e)
theorem six_ge (n : Nat) : ∀ c ∈ [n + 3 + 2, n + 3, n + 3 + 1, n, n + 1, n + 2], n ≤ c := fun c hc => by
  obtain ⟨k, _, rfl⟩ := List.mem_map.mp (show c ∈ List.map (n + ·) [5, 3, 4, 0, 1, 2] from hc)
  exact Nat.le_add_right _ _
theorem five_ge (n : Nat) : ∀ c ∈ [n + 3 + 2, n + 3 + 1, n, n + 1, n + 2], n ≤ c := fun c hc => by
  obtain ⟨k, _, rfl⟩ := List.mem_map.mp (show c ∈ List.map (n + ·) [5, 4, 0, 1, 2] from hc)
  exact Nat.le_add_right _ _
theorem z3apart_new {n l1 l2 l3 : Nat} (h1 : l1 < n) (h2 : l2 < n) (h3 : l3 < n) : Z3Apart (n + 3 + 2) (n + 3) (n + 3 + 1) n (n + 1) (n + 2) l1 l2 l3 := by
  refine ⟨?_, fun l hl hm => ?_⟩
  · show (List.map (n + ·) [5, 3, 4, 0, 1, 2]).Nodup
    exact List.Pairwise.map (n + ·) (fun a b h e => h (Nat.add_left_cancel e)) (by decide : [5, 3, 4, 0, 1, 2].Nodup)
  · have h := five_ge n l hm
    have hlt : l < n := by
      rcases List.mem_cons.mp hl with rfl | hl
      · exact h1
      rcases List.mem_cons.mp hl with rfl | hl
      · exact h2
      · rw [List.mem_singleton.mp hl]; exact h3
    exact Nat.lt_irrefl _ (Nat.lt_of_lt_of_le hlt h)
end
end
-- C13
section
section
variable {prog : Program} {w : World} {A : Around} {E : Value → Shared → Prop} {s : Shared} {h₀ : Heap} {env : Env}
/-- a loop over three lists drawn together -/
theorem zip3_loop {ys : List (Str × Pos)} {k : Nat} {pos : Pos} {body orelse : List Stmt} {l1 l2 l3 : Addr} {xs us ts : Array Value} {k1 k2 k3 : Nat} {m : Str → Option Value} {news : Led} {Q : Flow → Shared → Prop}
    (hh : A.handled = none) (F : Fr h₀ env.locals s.heap m) (N : News h₀ env.locals s.heap news) (hl1 : (l1, W.listOf xs k1) ∈ news) (hl2 : (l2, W.listOf us k2) ∈ news) (hl3 : (l3, W.listOf ts k3) ∈ news)
    (hys : ys.length = 3) (hy : ∀ y ∈ ys, env.kindOf y.1 = some .local) (hp : (env.scope.kind == .class || (env.scope.kind == .module && env.locals != env.globals)) = false)
    (J : Nat → (Str → Option Value) → Led → Prop) (h0 : J 0 m news)
    (step : ∀ (wr : List Addr) i (xv uv tv : Value) m₁ news₁ h tk own, xs[i]? = some xv → us[i]? = some uv → ts[i]? = some tv → s.toks ≤ tk → J i m₁ news₁ → (∀ b ∈ wr, ∃ o, (b, o) ∈ own) → (∀ p ∈ own, ∀ q ∈ news, p.1 ≠ q.1 ∨ p.1 = l1 ∨ p.1 = l2 ∨ p.1 = l3) → (∀ p ∈ news₁, p.1 ∉ wr) → Fr h₀ env.locals h (bindNames (ys.map (·.1)) [xv, uv, tv] m₁) → News h₀ env.locals h (news₁ ++ own) →
      ∀ g t, wpAny (model prog w) A (execs body env) (FEnd h₀ env.locals { s with heap := g, toks := t } wr own (J (i + 1)) Q) E { s with heap := h, toks := tk })
    (done : ∀ h' tk m' news', s.toks ≤ tk → Fr h₀ env.locals h' m' → News h₀ env.locals h' news' → J (min xs.size (min us.size ts.size)) m' news' → wpAny (model prog w) A (execs orelse env) Q E { s with heap := h', toks := tk }) :
    wpAny (model prog w) A (call (.type "zip") [.ref l1, .ref l2, .ref l3]) (fun xv s₁ => wpAny (model prog w) A (pyIter xv) (fun it s₂ => LoopT prog w A h₀ env (.Tuple (ys.map fun y => PySem.Expr.Name y.1 y.2) k pos) body orelse Q E it s₂) E s₁) E s := by
  have e1 := N _ hl1
  have e2 := N _ hl2
  have e3 := N _ hl3
  have lt1 : @LT.lt Nat _ l1 s.heap.objs.size := Heap.lt_size e1.1
  have lt2 : @LT.lt Nat _ l2 s.heap.objs.size := Heap.lt_size e2.1
  have lt3 : @LT.lt Nat _ l3 s.heap.objs.size := Heap.lt_size e3.1
  have hLlt : @LT.lt Nat _ env.locals s.heap.objs.size := F.ns.lt
  have L1 : s.heap.IsList l1 xs := ⟨_, e1.1, rfl, _, rfl⟩
  have L2 : s.heap.IsList l2 us := ⟨_, e2.1, rfl, _, rfl⟩
  have L3 : s.heap.IsList l3 ts := ⟨_, e3.1, rfl, _, rfl⟩
  refine call_zip3 (wpAny_pyIter_list L1 (wpAny_pyIter_list (L2.push _) (wpAny_pyIter_list ((L3.push _).push _) fun h' hz hTI hTO hk => ?_)))
  have z1 : (s.heap.push { cls := .type "list_iterator", data := .fields #[.ref l1, .int 0 0] }).objs.size = s.heap.objs.size + 1 := Heap.size_push ..
  have z2 : ((s.heap.push { cls := .type "list_iterator", data := .fields #[.ref l1, .int 0 0] }).push { cls := .type "list_iterator", data := .fields #[.ref l2, .int 0 0] }).objs.size = s.heap.objs.size + 2 := by rw [Heap.size_push, z1]
  have z3 : (((s.heap.push { cls := .type "list_iterator", data := .fields #[.ref l1, .int 0 0] }).push { cls := .type "list_iterator", data := .fields #[.ref l2, .int 0 0] }).push { cls := .type "list_iterator", data := .fields #[.ref l3, .int 0 0] }).objs.size = s.heap.objs.size + 3 := by rw [Heap.size_push, z2]
  dsimp only at hz hTI hTO hk ⊢
  rw [z3] at hz hTI hTO
  rw [z1, z2] at hTI
  rw [z3]
  have I3 : h'.IsListIter (s.heap.objs.size + 2) l3 0 := ⟨_, hk _ _ (by rw [← z2]; exact Heap.get?_push_size _ rfl), rfl, rfl⟩
  have I2 : h'.IsListIter (s.heap.objs.size + 1) l2 0 := ⟨_, hk _ _ (Heap.get?_push_of_some _ (by rw [← z1]; exact Heap.get?_push_size _ rfl)), rfl, rfl⟩
  have I1 : h'.IsListIter s.heap.objs.size l1 0 := ⟨_, hk _ _ (Heap.get?_push_of_some _ (Heap.get?_push_of_some _ (Heap.get?_push_size _ rfl))), rfl, rfl⟩
  have up : ∀ c o, s.heap.get? c = some o → h'.get? c = some o := fun c o e => hk c o (Heap.get?_push_of_some _ (Heap.get?_push_of_some _ (Heap.get?_push_of_some _ e)))
  clear hk
  generalize hn : s.heap.objs.size = n at *
  have fr : ∀ c, @LE.le Nat _ n c → h₀.get? c = none := fun c hc => fresh_none F (by rw [hn]; exact hc)
  have D : Z3Apart (n + 3 + 2) (n + 3) (n + 3 + 1) n (n + 1) (n + 2) l1 l2 l3 := z3apart_new lt1 lt2 lt3
  refine wpAny_pyIter_zip hz ?_
  refine loop_tup (s := { s with heap := h' }) (Pt := fun i vals tk => Z3P xs us ts i vals tk) hh (zip3Turns hh D) (fun _ _ _ _ _ h => h) ?size hy hp ?lf ?wr ?nw ⟨hz, hTI, ⟨_, _, _, hTO⟩, I1, I2, I3, L1.at fun o e => up _ o e, L2.at fun o e => up _ o e, L3.at fun o e => up _ o e⟩ (F.keeps up) (fun p hp => ⟨up _ _ (N p hp).1, (N p hp).2⟩) J h0 ?step done
  case size =>
    rintro i v tk ⟨xv, uv, tv, _, _, _, rfl⟩
    exact hys.symm
  case lf =>
    intro hm
    rcases List.mem_append.mp (show env.locals ∈ [n + 3 + 2, n + 3, n + 3 + 1, n, n + 1, n + 2] ++ [l1, l2, l3] from hm) with hm | hm
    · exact Nat.not_lt.mpr (six_ge n _ hm) hLlt
    rcases List.mem_cons.mp hm with e | hm
    · exact e1.2.1 e.symm
    rcases List.mem_cons.mp hm with e | hm
    · exact e2.2.1 e.symm
    · exact e3.2.1 (List.mem_singleton.mp hm).symm
  case wr => exact fun b hb => fr b (five_ge n b hb)
  case nw =>
    intro p hp hm
    have hlt : @LT.lt Nat _ p.1 n := by rw [← hn]; exact Heap.lt_size (N p hp).1
    exact Nat.not_lt.mpr (five_ge n _ hm) hlt
  case step =>
    rintro i vals m₁ news₁ h tk own hi ⟨xv, uv, tv, h1, h2, h3, rfl⟩ htk hJ hown hmem hst hoff F' N' g t
    refine step _ i xv uv tv m₁ news₁ h tk own h1 h2 h3 htk hJ ?_ (fun p hp q hq => ?_) hoff F' N' g t
    rotate_left
    · have hlt : @LT.lt Nat _ q.1 n := by rw [← hn]; exact Heap.lt_size (N q hq).1
      rcases List.mem_append.mp (show p.1 ∈ [n + 3 + 2, n + 3, n + 3 + 1, n, n + 1, n + 2] ++ [l1, l2, l3] from hown p hp) with hf | hf
      · exact .inl (Nat.ne_of_gt (Nat.lt_of_lt_of_le hlt (six_ge n _ hf)))
      rcases List.mem_cons.mp hf with e | hf
      · exact .inr (.inl e)
      rcases List.mem_cons.mp hf with e | hf
      · exact .inr (.inr (.inl e))
      · exact .inr (.inr (.inr (List.mem_singleton.mp hf)))
    obtain ⟨gz, gTI, ⟨_, _, _, gTO⟩, ⟨_, g1, _⟩, ⟨_, g2, _⟩, ⟨_, g3, _⟩, _⟩ := hst
    intro c hc
    have hf : h₀.get? c = none := fr c (five_ge n c hc)
    simp only [List.mem_cons, List.not_mem_nil, or_false] at hc
    rcases hc with rfl | rfl | rfl | rfl | rfl
    · exact ⟨_, hmem _ (by simp) hf _ gz⟩
    · exact ⟨_, hmem _ (by simp) hf _ gTO⟩
    · exact ⟨_, hmem _ (by simp) hf _ g1⟩
    · exact ⟨_, hmem _ (by simp) hf _ g2⟩
    · exact ⟨_, hmem _ (by simp) hf _ g3⟩
end
end
-- P1
section
noncomputable def cellS (c : Nat) : Str := if c = 102 then ⟨#[9]⟩ else if c = 105 then ⟨#[32, 9]⟩ else ⟨#[32, 32, 9]⟩
noncomputable abbrev Letter (c : Nat) : Prop := c = 102 ∨ c = 105 ∨ c = 108
noncomputable def leadS (l : List Nat) : Str := cat (l.map cellS) ++ Str.ofString " "
theorem leadS_cps (l : List Nat) : (leadS l).cps.toList = l.flatMap (fun c => (cellS c).cps.toList) ++ [32] := by
  unfold leadS cat
  show (_ ++ _ : Array Nat).toList = _
  rw [Array.toList_append]
  simp only [List.flatMap_map]
  rfl
theorem bump_len : ∀ (b : Nat) (cnt : List Int), (bump b cnt).length = max cnt.length (b + 1)
  | 0, [] => rfl
  | 0, c :: r => by simp [bump]
  | b + 1, [] => by simp [bump, bump_len b []]
  | b + 1, c :: r => by simp only [bump, List.length_cons, bump_len b r]; lia
noncomputable def GoodW (σ : WSt) : Prop := σ.b ≤ 2 ∧ σ.cnt.length ≤ 3
theorem pre_good : ∀ (l : List Nat), (∀ c ∈ l, Letter c) → ∀ (σ : WSt), σ.b = 0 → σ.cnt.length ≤ 3 → ∀ i, GoodW (((l.flatMap (fun c => (cellS c).cps.toList) ++ [32]).take i).foldl scan1 σ)
  | [], _, σ, hb, hc, 0 => ⟨by simp [hb], hc⟩
  | [], _, σ, hb, hc, i + 1 => by
    show GoodW (([32].take (i + 1)).foldl scan1 σ)
    simp [scan1, GoodW, hb, hc]
  | c :: l, hl, σ, hb, hc, i => by
    have ih := pre_good l (fun c h => hl c (List.mem_cons_of_mem _ h))
    have g0 : GoodW σ := ⟨by rw [hb]; lia, hc⟩
    have hcl := hl c List.mem_cons_self
    rw [List.flatMap_cons, List.append_assoc]
    rcases hcl with rfl | rfl | rfl
    · match i with
      | 0 => exact g0
      | i + 1 =>
        show GoodW ((List.take i _).foldl scan1 (scan1 σ 9))
        exact ih _ rfl (by show (bump _ _).length ≤ 3; rw [bump_len, hb]; lia) i
    · match i with
      | 0 => exact g0
      | 1 => exact ⟨by show σ.b + 1 ≤ 2; lia, hc⟩
      | i + 2 =>
        show GoodW ((List.take i _).foldl scan1 (scan1 (scan1 σ 32) 9))
        exact ih _ rfl (by show (bump (σ.b + 1) σ.cnt).length ≤ 3; rw [bump_len, hb]; lia) i
    · match i with
      | 0 => exact g0
      | 1 => exact ⟨by show σ.b + 1 ≤ 2; lia, hc⟩
      | 2 => exact ⟨by show σ.b + 1 + 1 ≤ 2; lia, hc⟩
      | i + 3 =>
        show GoodW ((List.take i _).foldl scan1 (scan1 (scan1 (scan1 σ 32) 32) 9))
        exact ih _ rfl (by show (bump (σ.b + 1 + 1) σ.cnt).length ≤ 3; rw [bump_len, hb]; lia) i
theorem lead_good (l : List Nat) (hl : ∀ c ∈ l, Letter c) (i : Nat) : (scan ((leadS l).cps.toList.take i)).b ≤ 2 ∧ (scan ((leadS l).cps.toList.take i)).cnt.length ≤ 3 := by
  rw [leadS_cps]
  exact pre_good l hl ⟨0, 0, 0, []⟩ rfl (by decide) i
theorem lead_signs (l : List Nat) (hl : ∀ c ∈ l, Letter c) : ∀ c ∈ (leadS l).cps.toList, c = 32 ∨ c = 9 := by
  rw [leadS_cps]
  intro c hc
  rcases List.mem_append.mp hc with hc | hc
  · obtain ⟨a, ha, hc⟩ := List.mem_flatMap.mp hc
    rcases hl a ha with rfl | rfl | rfl
    · right; simpa [cellS] using hc
    · have : c = 32 ∨ c = 9 := by simpa [cellS] using hc
      exact this
    · have : c = 32 ∨ c = 9 := by simpa [cellS] using hc
      exact this
  · left; exact List.mem_singleton.mp hc
theorem lead_size (l : List Nat) (h4 : l.length ≤ 5) : (leadS l).cps.size ≤ 20 := by
  rw [← Array.length_toList, leadS_cps, List.length_append]
  have : (l.flatMap (fun c => (cellS c).cps.toList)).length ≤ 3 * l.length := by
    clear h4
    induction l with
    | nil => simp
    | cons c l ih =>
      rw [List.flatMap_cons, List.length_append, List.length_cons]
      have : (cellS c).cps.toList.length ≤ 3 := by
        unfold cellS
        split
        · simp
        · split <;> simp
      lia
  simp only [List.length_cons, List.length_nil]
  lia
end
-- P2
section
noncomputable def marksB (a b : Int) : Bool := (List.range 10).all fun i => match (marksS a b)[i]?, (marksS a b)[i + 1]? with
  | some p, some q => decide (0 ≤ p ∧ p ≤ q ∧ q ≤ 8 ∧ q - p ≤ 4)
  | _, _ => true
theorem marks_all {a b : Int} (ha : 1 ≤ a ∧ a ≤ b) (hb : 1 ≤ b ∧ b ≤ 4) : marksB a b = true ∧ (marksS a b).length ≤ 10 ∧ ∀ p ∈ marksS a b, 0 ≤ p ∧ p ≤ 8 := by
  have hb' : b = 1 ∨ b = 2 ∨ b = 3 ∨ b = 4 := by lia
  have ha' : a = 1 ∨ a = 2 ∨ a = 3 ∨ a = 4 := by lia
  rcases hb' with rfl | rfl | rfl | rfl <;> rcases ha' with rfl | rfl | rfl | rfl <;> first | (exfalso; lia) | decide
theorem marks_ok {a b p q : Int} {i : Nat} (ha : 1 ≤ a ∧ a ≤ b) (hb : 1 ≤ b ∧ b ≤ 4) (hp : (marksS a b)[i]? = some p) (hq : (marksS a b)[i + 1]? = some q) : 0 ≤ p ∧ p ≤ q ∧ q ≤ 8 ∧ q - p ≤ 4 := by
  obtain ⟨h1, h2, _⟩ := marks_all ha hb
  have hi : i < 10 := by
    have := (List.getElem?_eq_some_iff.mp hp).1
    lia
  have h := List.all_eq_true.mp h1 i (List.mem_range.mpr hi)
  rw [hp, hq] at h
  exact of_decide_eq_true h
theorem ints_get : ∀ {vs : List Value} {ns : List Int} (i : Nat) {v : Value}, IntsAre vs ns → vs[i]? = some v → ∃ p t, v = .int p t ∧ ns[i]? = some p
  | _, _, 0, _, .cons n t _, h => by cases h; exact ⟨n, t, rfl, rfl⟩
  | _, _, i + 1, _, .cons _ _ r, h => by
    rw [List.getElem?_cons_succ] at h
    obtain ⟨p, t, e, h'⟩ := ints_get i r h
    exact ⟨p, t, e, by rw [List.getElem?_cons_succ]; exact h'⟩
  | _, _, _, _, .nil, h => by simp at h
theorem marks_pair {a b : Int} {mvs : List Value} {i : Nat} {xv uv : Value} (hmv : IntsAre mvs (marksS a b)) (hxv : mvs.toArray[i]? = some xv) (huv : (slicePick mvs.toArray (some 1) none none)[i]? = some uv) :
    ∃ p q, (∃ tp tq, xv = .int p tp ∧ uv = .int q tq) ∧ (marksS a b)[i]? = some p ∧ (marksS a b)[i + 1]? = some q := by
  have hx : mvs[i]? = some xv := by simpa using hxv
  have hlt := (List.getElem?_eq_some_iff.mp hx).1
  have e := slicePick_from mvs.toArray 1 (by rw [List.size_toArray]; lia)
  rw [show ((1 : Nat) : Int) = 1 from rfl] at e
  rw [e] at huv
  have hu : mvs[i + 1]? = some uv := by
    have : (mvs.drop 1)[i]? = some uv := by simpa using huv
    rw [List.getElem?_drop] at this
    rw [Nat.add_comm]; exact this
  obtain ⟨p, tp, rfl, hp⟩ := ints_get _ hmv hx
  obtain ⟨q, tq, rfl, hq⟩ := ints_get _ hmv hu
  exact ⟨p, q, ⟨tp, tq, rfl, rfl⟩, hp, hq⟩
theorem cell_len (c : Nat) : (cellS c).length ≤ 3 := by
  unfold cellS
  split
  · decide
  · split <;> decide
theorem cells_sum (l : List Nat) : ((l.map cellS).map (·.length)).sum ≤ 3 * l.length := by
  induction l with
  | nil => simp
  | cons c l ih =>
    have := cell_len c
    simp only [List.map_cons, List.sum_cons, List.length_cons]
    lia
theorem cat_len (l : List Nat) (h : l.length ≤ 5) : (cat (l.map cellS)).length ≤ 100 := by
  have := lead_size l h
  unfold leadS at this
  have e : (cat (l.map cellS) ++ Str.ofString " ").cps.size = (cat (l.map cellS)).length + 1 := by
    show (_ ++ _ : Array Nat).size = _
    rw [Array.size_append]; rfl
  lia
theorem fold_blank (l : List Nat) (hl : ∀ c ∈ l, Letter c) : ∀ (σ : WSt), σ.b = 0 → (((l.flatMap (fun c => (cellS c).cps.toList))).foldl scan1 σ).b = 0 := by
  induction l with
  | nil => intro σ h; exact h
  | cons c l ih =>
    intro σ h
    rw [List.flatMap_cons, List.foldl_append]
    refine ih (fun c h => hl c (List.mem_cons_of_mem _ h)) _ ?_
    rcases hl c List.mem_cons_self with rfl | rfl | rfl <;> rfl
theorem lead_b (l : List Nat) (hl : ∀ c ∈ l, Letter c) : ((scan (leadS l).cps.toList).b : Int) = 1 := by
  rw [leadS_cps]
  unfold scan
  rw [List.foldl_append]
  show (((_ : WSt).b + 1 : Nat) : Int) = 1
  rw [fold_blank l hl _ rfl]; rfl
noncomputable def lead2S (l : List Nat) : Str := leadS l ++ Str.ofString " "
theorem lead2_cps (l : List Nat) : (lead2S l).cps.toList = (leadS l).cps.toList ++ [32] := by
  unfold lead2S
  show (_ ++ _ : Array Nat).toList = _
  rw [Array.toList_append]; rfl
theorem lead2_signs (l : List Nat) (hl : ∀ c ∈ l, Letter c) : ∀ c ∈ (lead2S l).cps.toList, c = 32 ∨ c = 9 := by
  rw [lead2_cps]
  intro c hc
  rcases List.mem_append.mp hc with hc | hc
  · exact lead_signs l hl c hc
  · left; exact List.mem_singleton.mp hc
theorem lead2_size (l : List Nat) (h : l.length ≤ 4) : (lead2S l).cps.size ≤ 20 := by
  rw [← Array.length_toList, lead2_cps, leadS_cps, List.length_append, List.length_append]
  have : (l.flatMap (fun c => (cellS c).cps.toList)).length ≤ 3 * l.length := by
    clear h
    induction l with
    | nil => simp
    | cons c l ih =>
      rw [List.flatMap_cons, List.length_append, List.length_cons]
      have : (cellS c).cps.toList.length ≤ 3 := cell_len c
      lia
  simp only [List.length_cons, List.length_nil]
  lia
theorem lead2_scan (l : List Nat) : scan (lead2S l).cps.toList = scan1 (scan (leadS l).cps.toList) 32 := by
  rw [lead2_cps]
  unfold scan
  rw [List.foldl_append]; rfl
theorem lead2_b (l : List Nat) (hl : ∀ c ∈ l, Letter c) : ((scan (lead2S l).cps.toList).b : Int) = 2 := by
  rw [lead2_scan]
  have := lead_b l hl
  show ((_ + 1 : Nat) : Int) = 2
  lia
theorem lead2_good (l : List Nat) (hl : ∀ c ∈ l, Letter c) (i : Nat) : (scan ((lead2S l).cps.toList.take i)).b ≤ 2 ∧ (scan ((lead2S l).cps.toList.take i)).cnt.length ≤ 3 := by
  have h1 := lead_good l hl
  rw [lead2_cps]
  by_cases hi : i ≤ (leadS l).cps.toList.length
  · rw [List.take_append_of_le_length hi]; exact h1 i
  · have e : ((leadS l).cps.toList ++ [32]).take i = (leadS l).cps.toList ++ [32] := List.take_of_length_le (by rw [List.length_append]; simp only [List.length_cons, List.length_nil]; lia)
    rw [e]
    have h2 := h1 (leadS l).cps.toList.length
    rw [List.take_length] at h2
    have h3 := lead_b l hl
    rw [← lead2_cps, lead2_scan]
    exact ⟨by show (_ + 1 : Nat) ≤ 2; lia, h2.2⟩
end
-- T21
section
local macro_rules | `(tactic| walk_at "pad0") => `(tactic| fail)
local macro_rules | `(tactic| k_all) => `(tactic| assumption)
local macro_rules | `(tactic| walk_at "eval Name") => `(tactic| (k_here; k_dflt (refine' nameX_L ?F ?v ?_ ?a ?b; (case F => k_asm); (case a => rfl); (case b => rfl); (case v => assumption); k_whole)))
noncomputable def forBody : Stmt → List Stmt
  | .For _ _ b _ _ => b
  | _ => []
noncomputable def tB : List Stmt := (((B20[1]?).elim [] forBody)[0]?).elim [] forBody
noncomputable def LeadAt (P : Params) (own : Led) (v : Value) (ws : Str) : Prop := ∃ x : Addr, v = .ref x ∧ WsIn P own x ws (scan ws.cps.toList).nt (scan ws.cps.toList).b (scan ws.cps.toList).cnt
noncomputable def scL (l : List Nat) : WSt := scan (leadS l).cps.toList
noncomputable def rowPD (p b : Int) (l1 l2 : List Nat) : PyData := .tuple [.int p, .int b, .bool (decide ((scL l1).cnt = (scL l2).cnt)), .bool true, .bool false, .list (witD (scL l1).nt (scL l2).nt (scL l1).cnt (scL l2).cnt (witN (scL l1).cnt (scL l2).cnt))]
noncomputable def rowsL (ps : List Int) (b : Int) (ls : List (List Nat)) (i : Nat) : List PyData := (List.range i).map fun j => rowPD (ps.getD j 0) b (ls.getD j []) (ls.getD (j + 1) [])
theorem rowsL_next {ps : List Int} {b p : Int} {ls : List (List Nat)} {i : Nat} {l1 l2 : List Nat} (hp : ps[i]? = some p) (h1 : ls[i]? = some l1) (h2 : ls[i + 1]? = some l2) : rowsL ps b ls (i + 1) = rowsL ps b ls i ++ [rowPD p b l1 l2] := by
  unfold rowsL
  rw [List.range_succ, List.map_append]
  simp only [List.map_cons, List.map_nil, List.getD_eq_getElem?_getD, hp, h1, h2, Option.getD_some]
theorem lead_cnt (l : List Nat) (hl : ∀ c ∈ l, Letter c) (h1 : 1 ≤ l.length) : (scan (leadS l).cps.toList).cnt.length = 1 ∨ (scan (leadS l).cps.toList).cnt.length = 2 ∨ (scan (leadS l).cps.toList).cnt.length = 3 := by
  have h3 := (lead_good l hl (leadS l).cps.toList.length).2
  rw [List.take_length] at h3
  have h0 : 1 ≤ (scan (leadS l).cps.toList).cnt.length := by
    rw [leadS_cps]
    unfold scan
    rw [List.foldl_append]
    match l, h1 with
    | c :: r, _ =>
      rw [List.flatMap_cons, List.foldl_append]
      have hm : ∀ (t : List Nat) (σ : WSt), σ.cnt.length ≤ (t.foldl scan1 σ).cnt.length := by
        intro t
        induction t with
        | nil => exact fun _ => Nat.le_refl _
        | cons a t ih =>
          intro σ
          refine Nat.le_trans ?_ (ih _)
          unfold scan1
          split
          · exact Nat.le_refl _
          · rw [bump_len]; exact Nat.le_max_left _ _
      refine Nat.le_trans ?_ (hm _ _)
      refine Nat.le_trans ?_ (hm _ _)
      rcases hl c List.mem_cons_self with rfl | rfl | rfl <;> decide
  lia
theorem swap2 {g h : Heap} {L : Addr} {a b : Addr × Obj} {r : Led} (N : News g L h (a :: b :: r)) : News g L h (b :: a :: r) := fun p hp => N p (by simp only [List.mem_cons] at hp ⊢; grind)
local macro_rules | `(tactic| k_mem) => `(tactic| first | assumption | exact List.Mem.head _ | (refine' List.Mem.tail _ ?_; k_mem) | (refine List.mem_append_left _ ?_; k_mem) | (refine List.mem_append_right _ ?_; k_mem))
noncomputable def rowB : List Stmt := ((tB.drop 2)[0]?).elim [] forBody
theorem row_perm {e t r : Addr × Obj} {a b l : Led} (h : e ∈ t :: r :: (a ++ (b ++ l))) : e ∈ t :: (a ++ (b ++ (r :: l))) := by
  simp only [List.mem_append, List.mem_cons] at h ⊢; grind
theorem row_perm2 {e t r : Addr × Obj} {a b l : Led} (h : e ∈ r :: ((t :: (a ++ b)) ++ l)) : e ∈ t :: r :: (a ++ (b ++ l)) := by
  simp only [List.mem_append, List.mem_cons] at h ⊢; grind
theorem tru_and (b : Bool) : (b && decide ((1 : Int) = 1)) = b := by simp
theorem fls_and (b : Bool) : (b && decide ((1 : Int) = 2)) = false := by simp
/-- one turn over the neighbours -/
theorem told_row (w : World) (b p : Int) (tb tp : Tok) (R x1 x2 : Addr) (l1 l2 : List Nat) (hk1 : l1.length ≤ 4 ∧ 1 ≤ l1.length ∧ ∀ c ∈ l1, Letter c) (hk2 : l2.length ≤ 4 ∧ 1 ≤ l2.length ∧ ∀ c ∈ l2, Letter c) (rvs : List Value) (kr : Nat) (l₀ : Led)
    (W1 : WsIn w.params l₀ x1 (leadS l1) (scL l1).nt 1 (scL l1).cnt) (W2 : WsIn w.params l₀ x2 (leadS l2) (scL l2).nt 1 (scL l2).cnt)
    (mean : ExcName → Option Value) (mg mb : Str → Option Value) (dp un : Nat) (gd : Option (List Code)) (cn : Str) (cs : Scope) (a' : Addr) (ccd : Value) (cl : List (Str × Addr)) (outer : List Env) (base g : Heap) (L L' : Addr)
    (m : Str → Option Value) (s : Shared) (Q : Flow → Shared → Prop) (E : Value → Shared → Prop)
    (hE : PassesOwn (model rr.prog w) ((ktrTop dp un gd cn cs L a' ccd cl outer).deeper (envOfC (Str.ofString "_law_told") C20 L' 210 (.ref 209))) (envOfC (Str.ofString "_law_told") C20 L' 210 (.ref 209)) E)
    (hr : m (Str.ofString "rows") = some (.ref R)) (hs : m (Str.ofString "size") = some (.int b tb)) (hst : m (Str.ofString "start") = some (.int p tp)) (hon : m (Str.ofString "one") = some (.ref x1)) (hot : m (Str.ofString "other") = some (.ref x2)) :
    Below (ktrTop dp un gd cn cs L a' ccd cl outer) base (envX cn cs L a' ccd cl :: outer) g → Fr g L' s.heap m → (KK w.params).In g → News g L' s.heap ((R, W.listOf rvs.toArray kr) :: l₀) → Top qv (looseW qv loose) mean mg mb g → cs.kind = .function →
    dp + 200 < recursionLimit → un + 2048 < cLine → rvs.length ≤ 1000 → (∀ e ∈ l₀, e.1 ≠ R) →
    (∀ h' tk m' T k own, m' (Str.ofString "rows") = some (.ref R) → m' (Str.ofString "size") = some (.int b tb) → Fr g L' h' m' → News g L' h' ((R, W.listOf (rvs ++ [Value.ref T]).toArray k) :: (own ++ l₀)) → RV own (.ref T) (rowPD p b l1 l2) → (∀ e ∈ own, @LT.lt Nat _ R e.1) → (∀ e ∈ own, ∀ q ∈ l₀, @LT.lt Nat _ q.1 e.1) → Q .next { s with heap := h', toks := tk }) →
      wpAny (model rr.prog w) ((ktrTop dp un gd cn cs L a' ccd cl outer).deeper (envOfC (Str.ofString "_law_told") C20 L' 210 (.ref 209))) (execs rowB (envOfC (Str.ofString "_law_told") C20 L' 210 (.ref 209))) Q E s := by
  w_on
  k_fill
  intro B' F5 X' N5 T' hk hd hu hrl hne hQ
  replace W1 := W1.mono (l' := (R, W.listOf rvs.toArray kr) :: l₀) fun e he => List.mem_cons_of_mem _ he
  replace W2 := W2.mono (l' := (R, W.listOf rvs.toArray kr) :: l₀) fun e he => List.mem_cons_of_mem _ he
  obtain ⟨hk1, hk1', hk1x⟩ := hk1
  obtain ⟨hk2, hk2', hk2x⟩ := hk2
  have ⟨d1, D1, C1', vs1, q1, tx1, n1, a0, a1, a2, a3, a4, a5, a6, a7, a8, _, hm⟩ := W1
  obtain ⟨_, _, hmx1, hmd1⟩ := ws_mem hm
  clear hm
  have ⟨d2, D2, C2', vs2, q2, tx2, n2, b0, b1, b2, b3, b4, b5, b6, b7, b8, _, hm⟩ := W2
  obtain ⟨_, _, hmx2, hmd2⟩ := ws_mem hm
  clear hm
  walk_at "steps to call"
  refine wpAny_call ?_
  refine (spec_equal w x1 x2 (leadS l1) (leadS l2) (scL l1).nt 1 (scL l2).nt 1 (scL l1).cnt (scL l2).cnt _ W1 W2).use (by k_asm) F5 (by k_asm) N5 (by k_asm) rfl (by ktr_room) (by ktr_units) ?_
  rintro r7 nw7 h7 tk7 ⟨rfl, rfl⟩ F7 N7
  dsimp only [List.nil_append] at N7 ⊢
  clear F5 N5
  walk_at "steps to call"
  refine SB.add (fun tx3 k3 => ?_) (line_small (Nat.le_trans (show (leadS l2).length ≤ 20 from lead_size l2 (by lia)) (by decide)) (by show 1 ≤ _; decide))
  walk_at "steps to call"
  rename Fr _ _ _ _ => F8
  rename News _ _ _ _ => N8
  refine (spec_ws w (lead2S l2) tx3 _ (lead2_signs _ hk2x) (lead2_size _ hk2) (lead2_good _ hk2x)).use (by k_asm) F8 (by k_asm) N8 (by k_asm) rfl (by ktr_room) (by ktr_units) ?_
  rintro r9 nw9 h9 tk9 ⟨⟨x3, rfl, W3⟩, hf9⟩ F9 N9
  dsimp only
  clear F8 N8
  rw [lead2_b l2 hk2x] at W3
  have ⟨d3, D3, C3', vs3, q3, tx3', n3, c0, c1, c2, c3, c4, c5, c6, c7, c8, _, hm⟩ := W3
  obtain ⟨_, _, hmx3, hmd3⟩ := ws_mem hm
  clear hm
  replace W3 := W3.mono (l' := nw9 ++ ((R, W.listOf rvs.toArray kr) :: l₀)) fun e he => List.mem_append_left _ he
  replace W1 := W1.mono (l' := nw9 ++ ((R, W.listOf rvs.toArray kr) :: l₀)) fun e he => List.mem_append_right _ he
  replace W2 := W2.mono (l' := nw9 ++ ((R, W.listOf rvs.toArray kr) :: l₀)) fun e he => List.mem_append_right _ he
  walk_at "steps to call"
  refine wpAny_call ?_
  refine (spec_equal w x1 x3 (leadS l1) (lead2S l2) (scL l1).nt 1 _ 2 (scL l1).cnt _ _ W1 W3).use (by k_asm) F9 (by k_asm) N9 (by k_asm) rfl (by ktr_room) (by ktr_units) ?_
  rintro r10 nw10 h10 tk10 ⟨rfl, rfl⟩ F10 N10
  dsimp only [List.nil_append] at N10 ⊢
  clear F9 N9
  walk_at "steps to call"
  rename Fr _ _ _ _ => F11
  rename News _ _ _ _ => N11
  refine wpAny_call ?_
  refine (spec_wit w x1 x2 (leadS l1) (leadS l2) (scL l1).nt (scL l2).nt (scL l1).cnt (scL l2).cnt _ W1 W2 (lead_cnt _ hk1x hk1') (lead_cnt _ hk2x hk2')).use (by k_asm) F11 (by k_asm) N11 (by k_asm) rfl (by ktr_room) (by ktr_units) ?_
  rintro r12 nw12 h12 tk12 ⟨wa, rfl, ⟨wv, wk, wown, hnw, hwr12, hwl12, hwn, _, _⟩, hwf⟩ F12 N12
  dsimp only
  clear F11 N11 hmx1 hmd1 hmx2 hmd2 hmx3 hmd3 W1 W2 W3
  walk_at "steps"
  rename_i T h13 F13 N13 l13
  rw [tru_and, fls_and] at N13
  have hRT : @LT.lt Nat _ R T := l13 (R, W.listOf rvs.toArray kr) (List.mem_append_right _ (List.mem_append_right _ List.mem_cons_self))
  refine acc_append (r := nw12 ++ (nw9 ++ l₀)) F13 (fun e he => N13 e (row_perm he)) hRT ?_ hrl fun h14 F14 N14 => ?_
  · intro e he
    rcases List.mem_append.mp he with he | he
    · exact Nat.ne_of_gt (hwf e he (R, W.listOf rvs.toArray kr) (List.mem_append_right _ List.mem_cons_self))
    rcases List.mem_append.mp he with he | he
    · exact Nat.ne_of_gt (hf9 e he (R, W.listOf rvs.toArray kr) List.mem_cons_self)
    · exact hne e he
  walk_at "steps"
  refine hQ _ _ _ T _ ((T, _) :: (nw12 ++ nw9)) ?_ ?_ F14 (fun e he => N14 e (row_perm2 he)) (RV.tup List.mem_cons_self ?_) ?_ ?_
  · exact hr
  · exact hs
  · refine .cons (.int _ _) (.cons (.int _ _) (.cons (.bool _) (.cons (.bool _) (.cons (.bool _) (.cons ?_ .nil)))))
    exact RV.lst (List.mem_cons_of_mem _ (List.mem_append_left _ (hnw ▸ List.mem_cons_self))) (hwr12.mono fun e he => List.mem_cons_of_mem _ (List.mem_append_left _ (hnw ▸ List.mem_cons_of_mem _ (List.mem_append_left _ he))))
  · intro e he
    rcases List.mem_cons.mp he with rfl | he
    · exact hRT
    rcases List.mem_append.mp he with he | he
    · exact hwf e he (R, W.listOf rvs.toArray kr) (List.mem_append_right _ List.mem_cons_self)
    · exact hf9 e he (R, W.listOf rvs.toArray kr) List.mem_cons_self
  · intro e he q hq
    rcases List.mem_cons.mp he with rfl | he
    · exact l13 q (List.mem_append_right _ (List.mem_append_right _ (List.mem_cons_of_mem _ hq)))
    rcases List.mem_append.mp he with he | he
    · exact hwf e he q (List.mem_append_right _ (List.mem_cons_of_mem _ hq))
    · exact hf9 e he q (List.mem_cons_of_mem _ hq)
/-- the rows told so far, in their list -/
inductive RowsJ (R : Addr) (b : Int) (tb : Tok) (rvs : List Value) (ds : List PyData) (n : Nat) (base rest : Led) (m : Str → Option Value) (nw : Led) : Prop
  | mk (hr : m (Str.ofString "rows") = some (.ref R)) (hs : m (Str.ofString "size") = some (.int b tb)) (ws : List Value) (k : Nat) (own2 : Led) (e : nw = (R, W.listOf (rvs ++ ws).toArray k) :: (own2 ++ base)) (hv : RVA own2 ws ds) (hl : ws.length = n) (hlt : ∀ p ∈ own2, ∀ q ∈ rest, @LT.lt Nat _ q.1 p.1) (hne : ∀ p ∈ own2 ++ base, p.1 ≠ R) : RowsJ R b tb rvs ds n base rest m nw
theorem rows_in {g h : Heap} {L : Addr} {r : Addr × Obj} {a b o : Led} (N : News g L h ((r :: (a ++ b)) ++ o)) : News g L h (r :: (a ++ (b ++ o))) := fun p hp => N p (by simp only [List.mem_append, List.mem_cons] at hp ⊢; grind)
theorem rows_out {e r : Addr × Obj} {n a b o : Led} (h : e ∈ o ++ (r :: ((n ++ a) ++ b))) : e ∈ r :: (n ++ (a ++ (b ++ o))) := by simp only [List.mem_append, List.mem_cons] at h ⊢; grind
theorem rows_base {e d2 dm dl : Addr × Obj} {own rest : Led} (h : e ∈ own) : e ∈ d2 :: dm :: dl :: (own ++ rest) := List.mem_cons_of_mem _ (List.mem_cons_of_mem _ (List.mem_cons_of_mem _ (List.mem_append_left _ h)))
theorem rows_rest {e d2 dm dl : Addr × Obj} {own rest : Led} (h : e ∈ rest) : e ∈ d2 :: dm :: dl :: (own ++ rest) := List.mem_cons_of_mem _ (List.mem_cons_of_mem _ (List.mem_cons_of_mem _ (List.mem_append_right _ h)))
theorem rows_min {mvs zs : List Value} {ps : List Int} (hmv : IntsAre mvs ps) (hzn : zs.length + 1 = ps.length) (h1 : 1 ≤ zs.length) : min mvs.toArray.size (min zs.toArray.size (zs.drop 1).toArray.size) = zs.length - 1 := by
  rw [List.size_toArray, List.size_toArray, List.size_toArray, List.length_drop, IntsAre.length hmv]
  lia
theorem slice_one (zs : List Value) (h : 1 ≤ zs.length) : slicePick zs.toArray (some 1) none none = (zs.drop 1).toArray := by
  have e := slicePick_from zs.toArray 1 (by rw [List.size_toArray]; lia)
  rw [show ((1 : Nat) : Int) = 1 from rfl] at e
  exact e
theorem rows_item {P : Params} {ps : List Int} {mvs zs : List Value} {ls : List (List Nat)} {own : Led} {i : Nat} {xv uv tv : Value} (hmv : IntsAre mvs ps) (hz : ∀ (j : Nat) (v : Value), zs[j]? = some v → ∃ l, ls[j]? = some l ∧ LeadAt P own v (leadS l)) (hxv : mvs.toArray[i]? = some xv) (huv : zs.toArray[i]? = some uv) (htv : (zs.drop 1).toArray[i]? = some tv) :
    ∃ p tp l1 l2 x1 x2, ps[i]? = some p ∧ ls[i]? = some l1 ∧ ls[i + 1]? = some l2 ∧ xv = .int p tp ∧ uv = .ref x1 ∧ tv = .ref x2 ∧ WsIn P own x1 (leadS l1) (scL l1).nt (scL l1).b (scL l1).cnt ∧ WsIn P own x2 (leadS l2) (scL l2).nt (scL l2).b (scL l2).cnt := by
  obtain ⟨p, tp, rfl, hp⟩ := ints_get i hmv (by simpa using hxv)
  obtain ⟨l1, hl1, x1, rfl, A1⟩ := hz i uv (by simpa using huv)
  obtain ⟨l2, hl2, x2, rfl, A2⟩ := hz (i + 1) tv (by
    have : (zs.drop 1)[i]? = some tv := by simpa using htv
    rw [List.getElem?_drop] at this
    rw [Nat.add_comm]; exact this)
  exact ⟨p, tp, l1, l2, x1, x2, hp, hl1, hl2, rfl, rfl, rfl, A1, A2⟩
theorem told_rows (w : World) (b : Int) (tb : Tok) (R DM DL : Addr) (ps : List Int) (ls : List (List Nat)) (hls : ∀ l ∈ ls, l.length ≤ 4 ∧ 1 ≤ l.length ∧ ∀ c ∈ l, Letter c) (hb0 : ps.length ≤ 10) (rvs mvs zs : List Value) (kr km kz : Nat) (hmv : IntsAre mvs ps) (hzl : zs.length ≤ 10) (hz1 : 1 ≤ zs.length) (hzn : zs.length + 1 = ps.length) (hrl : rvs.length ≤ 500) (own : Led) (hz : ∀ (j : Nat) (v : Value), zs[j]? = some v → ∃ l, ls[j]? = some l ∧ LeadAt w.params own v (leadS l)) (rest : Led)
    (mean : ExcName → Option Value) (mg mb : Str → Option Value) (dp un : Nat) (gd : Option (List Code)) (cn : Str) (cs : Scope) (a' : Addr) (ccd : Value) (cl : List (Str × Addr)) (outer : List Env) (base g : Heap) (L L' : Addr)
    (m : Str → Option Value) (s : Shared) (Q : Flow → Shared → Prop) (E : Value → Shared → Prop)
    (hE : PassesOwn (model rr.prog w) ((ktrTop dp un gd cn cs L a' ccd cl outer).deeper (envOfC (Str.ofString "_law_told") C20 L' 210 (.ref 209))) (envOfC (Str.ofString "_law_told") C20 L' 210 (.ref 209)) E)
    (hne : ∀ p ∈ (DM, W.listOf mvs.toArray km) :: (DL, W.listOf zs.toArray kz) :: (own ++ rest), p.1 ≠ R)
    (hr : m (Str.ofString "rows") = some (.ref R)) (hs : m (Str.ofString "size") = some (.int b tb)) (hm : m (Str.ofString "marks") = some (.ref DM)) (hld : m (Str.ofString "leads") = some (.ref DL)) :
    Below (ktrTop dp un gd cn cs L a' ccd cl outer) base (envX cn cs L a' ccd cl :: outer) g → Fr g L' s.heap m → (KK w.params).In g → News g L' s.heap ((R, W.listOf rvs.toArray kr) :: (DM, W.listOf mvs.toArray km) :: (DL, W.listOf zs.toArray kz) :: (own ++ rest)) → Top qv (looseW qv loose) mean mg mb g → cs.kind = .function →
    dp + 200 < recursionLimit → un + 2048 < cLine →
    (∀ h' tk m' ws k own2 D2 o2, s.toks ≤ tk → m' (Str.ofString "rows") = some (.ref R) → m' (Str.ofString "size") = some (.int b tb) → Fr g L' h' m' → News g L' h' ((R, W.listOf (rvs ++ ws).toArray k) :: (own2 ++ ((D2, o2) :: (DM, W.listOf mvs.toArray km) :: (DL, W.listOf zs.toArray kz) :: (own ++ rest)))) → RVA own2 ws (rowsL ps b ls (zs.length - 1)) → ws.length = zs.length - 1 →
      (∀ p ∈ own2 ++ ((D2, o2) :: (DM, W.listOf mvs.toArray km) :: (DL, W.listOf zs.toArray kz) :: (own ++ rest)), p.1 ≠ R) → (∀ p ∈ own2, ∀ q ∈ rest, @LT.lt Nat _ q.1 p.1) → Q .next { s with heap := h', toks := tk }) →
      wpAny (model rr.prog w) ((ktrTop dp un gd cn cs L a' ccd cl outer).deeper (envOfC (Str.ofString "_law_told") C20 L' 210 (.ref 209))) (execs (tB.drop 2) (envOfC (Str.ofString "_law_told") C20 L' 210 (.ref 209))) Q E s := by
  w_on
  k_fill
  intro B' F X' N T' hk hd hu hQ
  walk_at "steps to for"
  refine For_T F ?_ (hE := hE)
  walk_at "steps to slice"
  refine slice_led g L' ?_
  walk_at "steps"
  refine ⟨DL, zs.toArray, _, _, _, _, _, rfl, F, N, List.mem_cons_of_mem _ (List.mem_cons_of_mem _ List.mem_cons_self), by rw [List.size_toArray]; lia, .int _ _, .none, fun D2 h3 F3 N3 l3 => ?_⟩
  clear F N
  rw [slice_one zs hz1] at N3
  walk_at "steps to zip"
  rename Fr _ _ _ _ => F4
  rename News _ _ _ _ => N4
  have hnD2 : D2 ≠ R := fun e => Nat.lt_irrefl _ (show @LT.lt Nat _ R R from e ▸ l3 (R, _) List.mem_cons_self)
  replace N4 := swap2 N4
  refine zip3_loop (ys := [(Str.ofString "start", _), (Str.ofString "one", _), (Str.ofString "other", _)]) (by rfl) F4 N4 (by k_dflt k_mem) (by k_dflt k_mem) (by k_dflt k_mem) rfl ?hy (by rfl)
    (fun i => RowsJ R b tb rvs (rowsL ps b ls i) i ((D2, W.listOf (zs.drop 1).toArray 0) :: (DM, W.listOf mvs.toArray km) :: (DL, W.listOf zs.toArray kz) :: (own ++ rest)) rest)
    ?h0 ?step ?done
  case hy =>
    intro y hy
    simp only [List.mem_cons, List.not_mem_nil, or_false] at hy
    rcases hy with rfl | rfl | rfl <;> rfl
  case h0 => exact ⟨hr, hs, [], kr, [], by rw [List.append_nil]; rfl, RVA.nil, rfl, (fun p hp => nomatch hp), fun p hp => by
      rcases List.mem_cons.mp hp with rfl | hp
      · exact hnD2
      · exact hne p hp⟩
  case step =>
    rintro wr i xv uv tv m₁ news₁ h5 tk5 ow hxv huv htv htk ⟨hr1, hs1, wvs, kw, own2, rfl, hrv, hwl, hlt2, hne2⟩ hwr how hoff F5 N5 g5 t5
    refine fend_gen fun Q9 J9 hJ9 => ?_
    clear F4 N4
    obtain ⟨p, tp, l1, l2, x1, x2, hp, hl1, hl2, rfl, rfl, rfl, A1, A2⟩ := rows_item hmv hz hxv huv htv
    have hk1 := hls l1 (List.mem_of_getElem? hl1)
    have hk2 := hls l2 (List.mem_of_getElem? hl2)
    rw [show ((scL l1).b : Int) = 1 from lead_b l1 hk1.2.2] at A1
    rw [show ((scL l2).b : Int) = 1 from lead_b l2 hk2.2.2] at A2
    have hib : i < ps.length := (List.getElem?_eq_some_iff.mp hp).1
    have low : ∀ e ∈ ow, e.1 ≠ R := fun e he => by
      rcases how e he (R, W.listOf rvs.toArray kr) List.mem_cons_self with h | h | h | h
      · exact h
      · rw [h]; exact hne (DM, _) List.mem_cons_self
      · rw [h]; exact hne (DL, _) (List.mem_cons_of_mem _ List.mem_cons_self)
      · rw [h]; exact hnD2
    refine told_row w b p tb tp R x1 x2 l1 l2 hk1 hk2 (rvs ++ wvs) kw (own2 ++ (((D2, W.listOf (zs.drop 1).toArray 0) :: (DM, W.listOf mvs.toArray km) :: (DL, W.listOf zs.toArray kz) :: (own ++ rest)) ++ ow)) (A1.mono fun e he => List.mem_append_right _ (List.mem_append_left _ (rows_base he))) (A2.mono fun e he => List.mem_append_right _ (List.mem_append_left _ (rows_base he)))
      mean mg mb dp un gd cn cs a' ccd cl outer base g L L' _ _ _ _ hE ?r1 ?r2 ?r3 ?r4 ?r5 B' F5 X' (rows_in N5) T' hk hd hu (by rw [List.length_append]; lia) ?_ fun h' tk' m' T k own9 hr9 hs9 F9 N9 hv9 hR9 hl9 => ?_
    case r1 => exact hr1
    case r2 => exact hs1
    case r3 => rfl
    case r4 => rfl
    case r5 => rfl
    · intro e he
      rcases List.mem_append.mp he with he | he
      · exact hne2 e (List.mem_append_left _ he)
      rcases List.mem_append.mp he with he | he
      · exact hne2 e (List.mem_append_right _ he)
      · exact low e he
    rw [List.append_assoc rvs wvs] at N9
    refine FEnd.of F9 N9 ((R, _) :: ((own9 ++ own2) ++ ((D2, W.listOf (zs.drop 1).toArray 0) :: (DM, W.listOf mvs.toArray km) :: (DL, W.listOf zs.toArray kz) :: (own ++ rest)))) (fun e he => rows_out he) ?_ (hJ9 _ _ ⟨hr9, hs9, wvs ++ [.ref T], _, _, rfl, ?_, ?_, ?_, ?_⟩)
    · intro e he
      rcases List.mem_cons.mp he with rfl | he
      · exact hoff (R, W.listOf (rvs ++ wvs).toArray kw) List.mem_cons_self
      rcases List.mem_append.mp he with he | he
      · rcases List.mem_append.mp he with he | he
        · intro hm
          obtain ⟨o, ho⟩ := hwr _ hm
          exact Nat.lt_irrefl _ (hl9 e he (e.1, o) (List.mem_append_right _ (List.mem_append_right _ ho)))
        · exact hoff e (List.mem_cons_of_mem _ (List.mem_append_left _ he))
      · exact hoff e (List.mem_cons_of_mem _ (List.mem_append_right _ he))
    · rw [rowsL_next hp hl1 hl2]
      exact (hrv.mono fun e he => List.mem_append_right _ he).snoc (hv9.mono fun e he => List.mem_append_left _ he)
    · rw [List.length_append, hwl]; rfl
    · intro e he q hq
      rcases List.mem_append.mp he with he | he
      · exact hl9 e he q (List.mem_append_right _ (List.mem_append_left _ (rows_rest hq)))
      · exact hlt2 e he q hq
    · intro e he
      rcases List.mem_append.mp he with he | he
      · rcases List.mem_append.mp he with he | he
        · exact Nat.ne_of_gt (hR9 e he)
        · exact hne2 e (List.mem_append_left _ he)
      · exact hne2 e (List.mem_append_right _ he)
  case done =>
    rintro h1 tk1 m1 news1 htk1 F6 N6 ⟨hr1, hs1, wvs, kw, own2, rfl, hrv, hwl, hlt2, hne2⟩
    rw [rows_min hmv hzn hz1] at hrv hwl
    clear F4 N4
    walk_at "steps"
    exact hQ _ _ _ _ _ _ _ _ (Nat.le_trans (Nat.le_succ _) htk1) hr1 hs1 F6 N6 hrv hwl hne2 hlt2
end
-- T20
section
local macro_rules | `(tactic| walk_at "pad0") => `(tactic| fail)
local macro_rules | `(tactic| walk_at "steps to comp") => `(tactic| repeat' ((fail_if_success (with_reducible show wpAny _ _ (exec (PySem.Stmt.Assign _ (PySem.Expr.ListComp _ _ _ _) _) _) _ _ _)); first | (k_unfold; (try dsimp only)) | (k_end; wrow_close) | (walk1; all_goals (try dsimp only)) | (dsimp only; walk1) | (leave1; walk_say "STEP leave1"; try dsimp only)))
local macro_rules | `(tactic| k_all) => `(tactic| assumption)
local macro_rules | `(tactic| walk_at "eval Name") => `(tactic| (k_here; k_dflt (refine' nameX_L ?F ?v ?_ ?a ?b; (case F => k_asm); (case a => rfl); (case b => rfl); (case v => assumption); k_whole)))
noncomputable def piece (x : Str) (p q : Int) : List Nat := (x.cps.toList.drop p.toNat).take (q.toNat - p.toNat)
noncomputable def LJ (P : Params) (x : Str) (a b : Int) (base : Led) (i : Nat) (zs : List Value) (nw : Led) : Prop :=
  ∃ own, nw = own ++ base ∧ Fresh own base ∧ zs.length = i ∧ ∀ j v, zs[j]? = some v → ∃ p q, (marksS a b)[j]? = some p ∧ (marksS a b)[j + 1]? = some q ∧ LeadAt P own v (leadS (piece x p q))
theorem dup2 {g h : Heap} {L : Addr} {a b c d : Addr × Obj} {t r : Led} (N : News g L h (c :: d :: (t ++ r))) (ha : a ∈ c :: d :: (t ++ r)) (hb : b ∈ c :: d :: (t ++ r)) : News g L h (a :: b :: c :: d :: (t ++ r)) := fun p hp => by
  rcases List.mem_cons.mp hp with rfl | hp
  · exact N _ ha
  · rcases List.mem_cons.mp hp with rfl | hp
    · exact N _ hb
    · exact N _ hp
theorem strs_drop : ∀ {vs : List Value} {ys : List Str} (k : Nat), StrsAre vs ys → StrsAre (vs.drop k) (ys.drop k)
  | _, _, 0, h => h
  | _, _, _ + 1, .nil => .nil
  | _, _, k + 1, .cons _ _ h => strs_drop k h
theorem strs_take : ∀ {vs : List Value} {ys : List Str} (k : Nat), StrsAre vs ys → StrsAre (vs.take k) (ys.take k)
  | _, _, 0, _ => .nil
  | _, _, _ + 1, .nil => .nil
  | _, _, k + 1, .cons a b h => .cons a b (strs_take k h)
theorem strs_piece {x : Str} {ys : List Value} {p q : Int} (h : StrsAre ys (x.cps.toList.map cellS)) : StrsAre ((ys.drop p.toNat).take (q.toNat - p.toNat)) ((piece x p q).map cellS) := by
  have := strs_take (q.toNat - p.toNat) (strs_drop p.toNat h)
  rw [← List.map_drop, ← List.map_take] at this
  exact this
theorem perm7 {W own r : Led} {p a b c d e : Addr × Obj} (hp : p ∈ d :: e :: (own ++ (W ++ r))) : p ∈ W ++ (a :: b :: c :: d :: e :: (own ++ r)) := by simp only [List.mem_append, List.mem_cons] at hp ⊢; grind
noncomputable def piecesL (x : Str) (a b : Int) : List (List Nat) := (List.range ((marksS a b).length - 1)).map fun j => piece x ((marksS a b).getD j 0) ((marksS a b).getD (j + 1) 0)
noncomputable def turnD (x : Str) (a b : Int) : List PyData := rowsL (marksS a b) b (piecesL x a b) ((marksS a b).length - 2)
noncomputable def marksB2 (a b : Int) : Bool := decide (2 ≤ (marksS a b).length) && (List.range 10).all fun i => match (marksS a b)[i]?, (marksS a b)[i + 1]? with
  | some p, some q => decide (p < q)
  | _, _ => true
theorem marks_lt {a b : Int} (ha : 1 ≤ a ∧ a ≤ b) (hb : 1 ≤ b ∧ b ≤ 4) : marksB2 a b = true := by
  have hb' : b = 1 ∨ b = 2 ∨ b = 3 ∨ b = 4 := by lia
  have ha' : a = 1 ∨ a = 2 ∨ a = 3 ∨ a = 4 := by lia
  rcases hb' with rfl | rfl | rfl | rfl <;> rcases ha' with rfl | rfl | rfl | rfl <;> first | (exfalso; lia) | decide
theorem marks_len2 {a b : Int} (ha : 1 ≤ a ∧ a ≤ b) (hb : 1 ≤ b ∧ b ≤ 4) : 2 ≤ (marksS a b).length := of_decide_eq_true (Bool.and_eq_true_iff.mp (marks_lt ha hb)).1
theorem marks_inc {a b p q : Int} {i : Nat} (ha : 1 ≤ a ∧ a ≤ b) (hb : 1 ≤ b ∧ b ≤ 4) (hp : (marksS a b)[i]? = some p) (hq : (marksS a b)[i + 1]? = some q) : p < q := by
  have h1 := (Bool.and_eq_true_iff.mp (marks_lt ha hb)).2
  have hi : i < 10 := by
    have := (List.getElem?_eq_some_iff.mp hp).1
    have := (marks_all ha hb).2.1
    lia
  have h := List.all_eq_true.mp h1 i (List.mem_range.mpr hi)
  rw [hp, hq] at h
  exact of_decide_eq_true h
theorem pieces_get {x : Str} {a b p q : Int} {j : Nat} (hp : (marksS a b)[j]? = some p) (hq : (marksS a b)[j + 1]? = some q) : (piecesL x a b)[j]? = some (piece x p q) := by
  unfold piecesL
  have hj := (List.getElem?_eq_some_iff.mp hq).1
  rw [List.getElem?_map, List.getElem?_range (by lia)]
  simp only [Option.map_some, List.getD_eq_getElem?_getD, hp, hq, Option.getD_some]
theorem pieces_all {x : Str} {a b : Int} (ha : 1 ≤ a ∧ a ≤ b) (hb : 1 ≤ b ∧ b ≤ 4) (hx : ∀ c ∈ x.cps.toList, c = 102 ∨ c = 105 ∨ c = 108) (hl : x.cps.size = 8) : ∀ l ∈ piecesL x a b, l.length ≤ 4 ∧ 1 ≤ l.length ∧ ∀ c ∈ l, Letter c := by
  intro l h
  obtain ⟨j, hj, rfl⟩ := List.mem_map.mp h
  have hj := List.mem_range.mp hj
  obtain ⟨p, hp⟩ : ∃ p, (marksS a b)[j]? = some p := ⟨_, List.getElem?_eq_getElem (by lia)⟩
  obtain ⟨q, hq⟩ : ∃ q, (marksS a b)[j + 1]? = some q := ⟨_, List.getElem?_eq_getElem (by lia)⟩
  simp only [List.getD_eq_getElem?_getD, hp, hq, Option.getD_some]
  obtain ⟨h0, h1, h2, h3⟩ := marks_ok ha hb hp hq
  have h4 := marks_inc ha hb hp hq
  have hlx : x.cps.toList.length = 8 := by rw [Array.length_toList, hl]
  refine ⟨?_, ?_, fun c hc => hx c (List.mem_of_mem_drop (List.mem_of_mem_take hc))⟩
  · unfold piece; rw [List.length_take]; lia
  · unfold piece; rw [List.length_take, List.length_drop]; lia
theorem fin_perm {e d6 d2 dm r : Addr × Obj} {ow rest : Led} (h : e ∈ r :: dm :: d6 :: (ow ++ (d2 :: rest))) : e ∈ d6 :: (ow ++ d2 :: dm :: r :: rest) := by simp only [List.mem_cons, List.mem_append] at h ⊢; grind
theorem fin_perm2 {e d6 d2 dm dx r a b : Addr × Obj} {o2 ow rest : Led} (h : e ∈ r :: (o2 ++ (a :: b :: rest))) : e ∈ r :: (o2 ++ (dx :: dm :: d6 :: (ow ++ (d2 :: a :: b :: rest)))) := by simp only [List.mem_cons, List.mem_append] at h ⊢; grind
theorem fin_perm3 {e d6 d2 dm dx a b : Addr × Obj} {o2 ow rest : Led} (h : e ∈ o2 ++ (a :: b :: rest)) : e ∈ o2 ++ (dx :: dm :: d6 :: (ow ++ (d2 :: a :: b :: rest))) := by simp only [List.mem_cons, List.mem_append] at h ⊢; grind
theorem told_turn (w : World) (x : Str) (hx : ∀ c ∈ x.cps.toList, c = 102 ∨ c = 105 ∨ c = 108) (hl : x.cps.size = 8) (a b : Int) (ha : 1 ≤ a ∧ a ≤ b) (hb : 1 ≤ b ∧ b ≤ 4) (ta tb : Tok) (R D : Addr) (oc : Obj) (hoc : oc.data = .cell (some (.ref D))) (rvs ys : List Value) (kr : Nat) (rest : Led)
    (mean : ExcName → Option Value) (mg mb : Str → Option Value) (dp un : Nat) (gd : Option (List Code)) (cn : Str) (cs : Scope) (a' : Addr) (ccd : Value) (cl : List (Str × Addr)) (outer : List Env) (base g : Heap) (L L' : Addr)
    (m : Str → Option Value) (s : Shared) (Q : Flow → Shared → Prop) (E : Value → Shared → Prop) (hys : StrsAre ys (x.cps.toList.map cellS))
    (hE : PassesOwn (model rr.prog w) ((ktrTop dp un gd cn cs L a' ccd cl outer).deeper (envOfC (Str.ofString "_law_told") C20 L' 210 (.ref 209))) (envOfC (Str.ofString "_law_told") C20 L' 210 (.ref 209)) E)
    (hr : m (Str.ofString "rows") = some (.ref R)) (hs : m (Str.ofString "size") = some (.int b tb)) (hf : m (Str.ofString "first") = some (.int a ta)) :
    Below (ktrTop dp un gd cn cs L a' ccd cl outer) base (envX cn cs L a' ccd cl :: outer) g → Fr g L' s.heap m → (KK w.params).In g → News g L' s.heap ((R, W.listOf rvs.toArray kr) :: (D, lst ys) :: (L' + 1, oc) :: rest) → Top qv (looseW qv loose) mean mg mb g → cs.kind = .function →
    dp + 200 < recursionLimit → un + 2048 < cLine → AllBare s.gens → (∀ p ∈ (D, lst ys) :: (L' + 1, oc) :: rest, p.1 ≠ R) → rvs.length ≤ 500 →
    (∀ h' tk G m' ws k own2, AllBare G → m' (Str.ofString "rows") = some (.ref R) → m' (Str.ofString "size") = some (.int b tb) → Fr g L' h' m' → News g L' h' ((R, W.listOf (rvs ++ ws).toArray k) :: (own2 ++ ((D, lst ys) :: (L' + 1, oc) :: rest))) → RVA own2 ws (turnD x a b) → ws.length = (marksS a b).length - 2 → (∀ p ∈ own2 ++ ((D, lst ys) :: (L' + 1, oc) :: rest), p.1 ≠ R) → (∀ p ∈ own2, ∀ q ∈ rest, @LT.lt Nat _ q.1 p.1) → Q .next { s with heap := h', toks := tk, gens := G }) →
      wpAny (model rr.prog w) ((ktrTop dp un gd cn cs L a' ccd cl outer).deeper (envOfC (Str.ofString "_law_told") C20 L' 210 (.ref 209))) (execs tB (envOfC (Str.ofString "_law_told") C20 L' 210 (.ref 209))) Q E s := by
  w_on
  k_fill
  intro B' F X' N T' hk hd hu hB hne hrl hQ
  walk_at "steps to call"
  refine (spec_marks w a b _ _ _ ha hb).use (by k_asm) F (by k_asm) N (by k_asm) rfl (by ktr_room) (by ktr_units) trivial hB ?_
  rintro r1 nw1 h1 tk1 G1 ⟨DM, mvs, km, rfl, rfl, hmv, hfm⟩ hB1 F1 N1
  dsimp only [List.cons_append, List.nil_append] at N1 ⊢
  clear F N
  walk_at "steps to comp"
  rename Fr _ _ _ _ => F2
  rename News _ _ _ _ => N2
  refine Assign_ListComp_T F2 rfl (by with_unfolding_all rfl) (by with_unfolding_all rfl) (by decide) (by with_unfolding_all rfl) (by decide) (by rfl) (by rfl) ?_
  walk_at "steps to slice"
  refine slice_led g L' ?_
  walk_at "steps"
  refine ⟨DM, mvs.toArray, _, _, _, _, _, rfl, F2, N2, List.mem_cons_self, ?_, .int _ _, .none, fun D2 h3 F3 N3 l3 => ?_⟩
  · rw [List.size_toArray, IntsAre.length hmv]; have := (marks_all ha hb).2.1; lia
  clear F2 N2
  walk_at "steps to zip"
  rename Fr _ _ _ _ => F4
  rename News _ _ _ _ => N4
  refine zip2_block (ys := [(Str.ofString "start", _), (Str.ofString "end", _)]) (by rfl) F4 N4 (by k_dflt k_mem) (by k_dflt k_mem) ?hsz rfl (by rfl) ?hy (LJ w.params x a b _) ⟨[], rfl, (fun p hp => nomatch hp), rfl, fun j v hv => by simp at hv⟩ ?step ?hlen ?fin
  case hsz => rw [List.size_toArray, IntsAre.length hmv]; have := (marks_all ha hb).2.1; lia
  case hy =>
    intro y hy
    simp only [List.mem_cons, List.not_mem_nil, or_false] at hy
    rcases hy with rfl | rfl <;> rfl
  case step =>
    rintro wr i xv uv oC C Dz m' zs news₁ h5 tk5 own E' hxv huv htk ⟨ow, rfl, hfr, hlen, hle⟩ hwr hoC F5 N5 hCD hoff g5 t5
    obtain ⟨p, q, ⟨tp, tq, rfl, rfl⟩, hp, hq⟩ : ∃ p q, (∃ tp tq, xv = .int p tp ∧ uv = .int q tq) ∧ (marksS a b)[i]? = some p ∧ (marksS a b)[i + 1]? = some q := marks_pair hmv hxv huv
    obtain ⟨hp0, hpq, hq8, hq4⟩ := marks_ok ha hb hp hq
    have hms : (bindNames [Str.ofString "start", Str.ofString "end"] [.int p tp, .int q tq] m') (Str.ofString "start") = some (.int p tp) := rfl
    have hme : (bindNames [Str.ofString "start", Str.ofString "end"] [.int p tp, .int q tq] m') (Str.ofString "end") = some (.int q tq) := rfl
    replace hoC : PyProof.Rows.LCg.NsObj oC (bindNames [Str.ofString "start", Str.ofString "end"] [.int p tp, .int q tq] m') := hoC
    generalize bindNames [Str.ofString "start", Str.ofString "end"] [Value.int p tp, Value.int q tq] m' = m₂ at hoC hms hme
    clear F4 N4
    have N6 : News g L' h5 ((D, lst ys) :: (L' + 1, oc) :: (C, oC) :: (Dz, lst zs) :: (own ++ (ow ++ _))) := dup2 N5 (List.mem_cons_of_mem _ (List.mem_cons_of_mem _ (List.mem_append_right _ (List.mem_append_right _ (by k_dflt k_mem))))) (List.mem_cons_of_mem _ (List.mem_cons_of_mem _ (List.mem_append_right _ (List.mem_append_right _ (by k_dflt k_mem)))))
    refine wpAny_tests_nil ?_
    walk_at "steps to slice"
    refine slice_led g L' ?_
    walk_at "steps"
    refine ⟨D, ys.toArray, _, _, _, _, _, rfl, F5, N6, List.mem_cons_self, ?_, .int _ _, .int _ _, fun Dl h7 F7 N7 l7 => ?_⟩
    · rw [List.size_toArray, StrsAre.length hys, List.length_map, Array.length_toList, hl]; decide
    clear F5 N6
    have hys8 : ys.length = 8 := by rw [StrsAre.length hys, List.length_map, Array.length_toList, hl]
    have epick : slicePick ys.toArray (some p) (some q) none = ((ys.drop p.toNat).take (q.toNat - p.toNat)).toArray := by
      have e1 : p = (p.toNat : Int) := by lia
      have e2 : q = (q.toNat : Int) := by lia
      rw [e1, e2, slicePick_run _ _ _ (by rw [List.size_toArray]; lia) (by lia)]
      rfl
    rw [epick] at N7
    have hst : StrsAre ((ys.drop p.toNat).take (q.toNat - p.toNat)) ((piece x p q).map cellS) := strs_piece hys
    have hpl : (piece x p q).length ≤ 4 := by unfold piece; rw [List.length_take]; lia
    have hpx : ∀ c ∈ piece x p q, Letter c := fun c hc => hx c (List.mem_of_mem_drop (List.mem_of_mem_take hc))
    walk_at "steps"
    refine join_list (D := Dl) ⟨_, (N7 _ List.mem_cons_self).1, rfl, _, rfl⟩ hst ?_ fun t4 k4 => ?_
    · have h1 := cells_sum (piece x p q)
      have h3 : (Str.ofString "").length = 0 := rfl
      rw [h3]
      lia
    rw [join_cat]
    walk_at "steps"
    refine SB.add (fun t5' k5 => ?_) (line_small ?_ (by show 1 ≤ _; decide))
    · walk_at "steps to call"
      refine (spec_ws w (leadS (piece x p q)) _ _ (lead_signs _ hpx) (lead_size _ (by lia)) (lead_good _ hpx)).use (by k_asm) F7 (by k_asm) N7 (by k_asm) rfl (by ktr_room) (by ktr_units) ?_
      rintro r9 nw9 h9 tk9 ⟨⟨x9, rfl, W9⟩, hf9⟩ F9 N9
      k_unfold
      refine ⟨h9, tk9, _ ++ (ow ++ _), rfl, F9, fun e he => N9 e (perm7 he), fun e he => ?_, ?_⟩
      · rcases List.mem_append.mp he with he | he
        · refine ⟨fun z => Nat.lt_irrefl _ (z ▸ hf9 e he (C, oC) (by simp)), fun z => Nat.lt_irrefl _ (z ▸ hf9 e he (Dz, lst zs) (by simp)), fun hm => ?_⟩
          obtain ⟨o, ho⟩ := hwr _ hm
          exact Nat.lt_irrefl _ (hf9 e he (e.1, o) (by simp only [List.mem_cons, List.mem_append]; exact .inr (.inr (.inr (.inr (.inr (.inl ho)))))))
        · exact hoff e he
      · refine ⟨_ ++ ow, (List.append_assoc _ _ _).symm, ?_, by rw [List.length_append, hlen]; rfl, fun j v hv => ?_⟩
        · intro e he r hr
          rcases List.mem_append.mp he with he | he
          · exact hf9 e he r (by simp only [List.mem_cons, List.mem_append]; exact .inr (.inr (.inr (.inr (.inr (.inr (.inr (by simpa only [List.mem_cons] using hr))))))))
          · exact hfr e he r hr
        · by_cases hj : j < zs.length
          · rw [List.getElem?_append_left hj] at hv
            obtain ⟨p', q', h1, h2, x', e1, W'⟩ := hle j v hv
            exact ⟨p', q', h1, h2, x', e1, W'.mono fun e he => List.mem_append_right _ he⟩
          · rw [List.getElem?_append_right (Nat.le_of_not_lt hj)] at hv
            have hj0 : j - zs.length = 0 := by
              cases hk : j - zs.length with
              | zero => rfl
              | succ k => rw [hk] at hv; cases hv
            rw [hj0] at hv
            cases hv
            have hji : j = i := by lia
            subst hji
            exact ⟨p, q, hp, hq, x9, rfl, W9.mono fun e he => List.mem_append_left _ he⟩
    · exact Nat.le_trans (cat_len _ (by lia)) (by decide)
  case hlen =>
    rintro i zs nw ⟨ow, rfl, hfr, hlen, hle⟩
    exact Nat.le_of_eq hlen
  case fin =>
    rintro g5 zs nw ⟨ow, rfl, hfr, hlen, hle⟩
    intro D6 h6 tk6 F6 N6 hD6
    have hml : mvs.length = (marksS a b).length := IntsAre.length hmv
    have hm2 := marks_len2 ha hb
    have hm10 := (marks_all ha hb).2.1
    have esl : slicePick mvs.toArray (some 1) none none = (mvs.drop 1).toArray := by
      have e := slicePick_from mvs.toArray 1 (by rw [List.size_toArray]; lia)
      rw [show ((1 : Nat) : Int) = 1 from rfl] at e
      exact e
    have hzl : zs.length = (marksS a b).length - 1 := by
      rw [hlen, esl, List.size_toArray, List.size_toArray, List.length_drop, hml]; lia
    have hRM : @LT.lt Nat _ R DM := hfm _ List.mem_cons_self (R, W.listOf rvs.toArray kr) List.mem_cons_self
    have hD6R : R ≠ D6 := hD6 (R, W.listOf rvs.toArray kr) (List.mem_append_right _ (List.mem_cons_of_mem _ (List.mem_cons_of_mem _ List.mem_cons_self)))
    have hRD2 : @LT.lt Nat _ R D2 := l3 (R, W.listOf rvs.toArray kr) (List.mem_cons_of_mem _ List.mem_cons_self)
    refine told_rows w b tb R DM D6 (marksS a b) (piecesL x a b) (pieces_all ha hb hx hl) hm10 rvs mvs zs kr km _ hmv (by lia) (by lia) (by lia) hrl ow ?_ ((D2, W.listOf (slicePick mvs.toArray (some 1) none none) 0) :: (D, lst ys) :: (L' + 1, oc) :: rest) mean mg mb dp un gd cn cs a' ccd cl outer base g L L' _ _ _ _ ?_ ?_ (?_) (?_) rfl rfl B' F6 X' (fun e he => N6 e (fin_perm he)) T' hk hd hu ?_
    · intro j v hv
      obtain ⟨p, q, h1, h2, h3⟩ := hle j v hv
      exact ⟨_, pieces_get h1 h2, h3⟩
    · exact hE
    · intro e he
      simp only [List.mem_cons, List.mem_append] at he
      rcases he with rfl | rfl | he | rfl | rfl | rfl | he
      · exact fun z => Nat.lt_irrefl R (z ▸ hRM)
      · exact fun z => hD6R z.symm
      · exact fun z => Nat.lt_irrefl R (z ▸ hfr e he (R, W.listOf rvs.toArray kr) (by simp))
      · exact fun z => Nat.lt_irrefl R (z ▸ hRD2)
      · exact hne (D, lst ys) List.mem_cons_self
      · exact hne (L' + 1, oc) (List.mem_cons_of_mem _ List.mem_cons_self)
      · exact hne e (List.mem_cons_of_mem _ (List.mem_cons_of_mem _ he))
    · exact hr
    · exact hs
    · rintro h' tk' m' ws k own2 Dx o2 htk1 hr1 hs1 F7 N7 hrv hwl hne2 hlt2
      have ez : zs.length - 1 = (marksS a b).length - 2 := by lia
      rw [ez] at hrv hwl
      refine hQ h' tk' G1 m' ws k own2 hB1 hr1 hs1 F7 (fun e he => N7 e (fin_perm2 he)) hrv hwl (fun e he => hne2 e (fin_perm3 he)) fun p hp q hq => hlt2 p hp q (List.mem_cons_of_mem _ (List.mem_cons_of_mem _ (List.mem_cons_of_mem _ hq)))
end
-- T18
section
local macro_rules | `(tactic| k_all) => `(tactic| assumption)
local macro_rules | `(tactic| walk_at "eval Name") => `(tactic| (k_here; k_dflt (refine' nameX_L ?F ?v ?_ ?a ?b; (case F => k_asm); (case a => rfl); (case b => rfl); (case v => assumption); k_whole)))
theorem strs_snoc' {x y : Str} {t : Tok} : ∀ {vs : List Value} {ys : List Str}, StrsAre vs ys → x = y → StrsAre (vs ++ [.str x t]) (ys ++ [y])
  | _, _, .nil, e => e ▸ .cons _ _ .nil
  | _, _, .cons a b r, e => .cons a b (strs_snoc' r e)
theorem RVA.append {l : Led} {vs : List Value} {ds : List PyData} (r : RVA l vs ds) : ∀ {ws : List Value} {es : List PyData}, RVA l ws es → ws.length = es.length → RVA l (vs ++ ws) (ds ++ es)
  | ws, es, r2, he => fun h hh => by
    obtain ⟨as, ra⟩ := r h hh
    obtain ⟨bs, rb⟩ := r2 h hh
    clear r r2 he
    have gen : ∀ {vs : List Value} {ds : List PyData} {as : List Addr}, ReadsAll h vs ds as → ∃ cs, ReadsAll h (vs ++ ws) (ds ++ es) cs := by
      intro vs
      induction vs with
      | nil => intro ds as ra; cases ra; exact ⟨_, rb⟩
      | cons v vs ih =>
        intro ds as ra
        cases ra with
        | cons hv hr =>
          obtain ⟨cs, hc⟩ := ih hr
          exact ⟨_, .cons hv hc⟩
    exact gen ra
noncomputable def firstsD (x : Str) (b : Int) (k : Nat) : List PyData := (List.range k).flatMap fun (j : Nat) => turnD x (1 + (j : Int)) b
noncomputable def toldD (x : Str) (k : Nat) : List PyData := (List.range k).flatMap fun (j : Nat) => firstsD x (1 + (j : Int)) (j + 1)
theorem firstsD_next (x : Str) (b : Int) (k : Nat) : firstsD x b (k + 1) = firstsD x b k ++ turnD x (1 + (k : Int)) b := by
  unfold firstsD; rw [List.range_succ, List.flatMap_append]; simp
theorem toldD_next (x : Str) (k : Nat) : toldD x (k + 1) = toldD x k ++ firstsD x (1 + (k : Int)) (k + 1) := by
  unfold toldD; rw [List.range_succ, List.flatMap_append]; simp
theorem turnD_len (x : Str) (a b : Int) : (turnD x a b).length = (marksS a b).length - 2 := by
  unfold turnD rowsL; rw [List.length_map, List.length_range]
theorem turnD_le (x : Str) (a b : Int) (ha : 1 ≤ a ∧ a ≤ b) (hb : 1 ≤ b ∧ b ≤ 4) : (turnD x a b).length ≤ 8 := by
  rw [turnD_len]; have := (marks_all ha hb).2.1; lia
theorem firstsD_le (x : Str) (b : Int) (hb : 1 ≤ b ∧ b ≤ 4) : ∀ k : Nat, (k : Int) ≤ b → (firstsD x b k).length ≤ 8 * k
  | 0, _ => by simp [firstsD]
  | k + 1, hk => by
    rw [firstsD_next, List.length_append]
    have h1 := firstsD_le x b hb k (by lia)
    have h2 := turnD_le x (1 + (k : Int)) b ⟨by lia, by lia⟩ hb
    lia
theorem toldD_le (x : Str) : ∀ k : Nat, k ≤ 4 → (toldD x k).length ≤ 32 * k
  | 0, _ => by simp [toldD]
  | k + 1, hk => by
    rw [toldD_next, List.length_append]
    have h1 := toldD_le x k (by lia)
    have h2 := firstsD_le x (1 + (k : Int)) ⟨by lia, by lia⟩ (k + 1) (by lia)
    lia
/-- a list that grows, its items' own objects, and what stands by -/
inductive RJ (R : Addr) (ds : List PyData) (base : Led) (O : List Addr) (nw : Led) : Prop
  | mk (ws : List Value) (k : Nat) (own : Led)
    (q1 : nw = (R, W.listOf ws.toArray k) :: (own ++ base)) (q2 : RVA own ws ds) (q3 : ws.length = ds.length) (q4 : (∀ p ∈ own ++ base, p.1 ≠ R)) (q5 : ∀ p ∈ own, p.1 ∉ O) : RJ R ds base O nw
theorem rj_perm {e r d c i j : Addr × Obj} {own rest : Led} (h : e ∈ r :: d :: c :: (own ++ (rest ++ [i, j]))) : e ∈ (r :: (own ++ (d :: c :: rest ++ [i]))) ++ [j] := by simp only [List.mem_cons, List.mem_append, List.not_mem_nil, or_false] at h ⊢; grind
theorem rj_perm2 {e r d c i j : Addr × Obj} {o2 own rest : Led} (h : e ∈ [j] ++ (r :: ((o2 ++ own) ++ (d :: c :: rest ++ [i])))) : e ∈ r :: (o2 ++ (d :: c :: (own ++ (rest ++ [i, j])))) := by simp only [List.mem_cons, List.mem_append, List.not_mem_nil, or_false] at h ⊢; grind
theorem rj_perm3 {e d c i j : Addr × Obj} {o2 own rest : Led} (h : e ∈ (o2 ++ own) ++ (d :: c :: rest ++ [i])) : e ∈ o2 ++ (d :: c :: (own ++ (rest ++ [i, j]))) := by simp only [List.mem_cons, List.mem_append, List.not_mem_nil, or_false] at h ⊢; grind
theorem lt_of_all {d : Nat} : ∀ {l : Led}, AllLt d l → ∀ p ∈ l, @LT.lt Nat _ p.1 d
  | [], _, _, hp => nomatch hp
  | _ :: _, h, p, hp => by
    rcases List.mem_cons.mp hp with rfl | hp
    · exact h.1
    · exact lt_of_all h.2 p hp
theorem range_i {i : Nat} (hi : i < 4) : Builtin.Range.small 1 (1 + (i : Int) + 1) 1 = true ∧ Builtin.Range.rangeSize 1 (1 + (i : Int) + 1) 1 = ((i + 1 : Nat) : Int) := by
  match i, hi with
  | 0, _ => exact ⟨by decide +kernel, by decide +kernel⟩
  | 1, _ => exact ⟨by decide +kernel, by decide +kernel⟩
  | 2, _ => exact ⟨by decide +kernel, by decide +kernel⟩
  | 3, _ => exact ⟨by decide +kernel, by decide +kernel⟩
theorem rj_perm4 {e d c i j : Addr × Obj} {own rest : Led} (h : e ∈ d :: c :: (own ++ (rest ++ [i, j]))) : e ∈ own ++ (d :: c :: rest ++ [i]) ∨ e ∈ [j] := by simp only [List.mem_cons, List.mem_append, List.not_mem_nil, or_false] at h ⊢; grind
inductive ToldR (x : Str) (r : Value) (nw : Led) : Prop
  | mk (R : Addr) (vs : List Value) (k : Nat) (own : Led)
    (q1 : r = .ref R) (q2 : nw = (R, W.listOf vs.toArray k) :: own) (q3 : RVA own vs (toldD x 4)) (q4 : vs.length = (toldD x 4).length) : ToldR x r nw
theorem spec_told (w : World) (x : Str) (tx : Tok) (news : Led) (hx : ∀ c ∈ x.cps.toList, c = 102 ∨ c = 105 ∨ c = 108) (hl : x.cps.size = 8) : SpecG w 210 [.str x tx] news (fun n => 0 < n) (ToldR x) 220 2100 := by
  w_on
  unfold SpecG
  k_fill
  intros; rename_i hpos hB hret
  refine wpAny_call ?_
  k_dflt (refine' code_defCT ?k1 ?k2 ?k3 ?k4 ?k5 ?kA ?kF ?kK ?k6 ?k7 ?k8 ?k9 ?kB ?kD ?_ ?c2 ?c3 ?c4; (case kA => exact rfl); (case kF => exact rfl); (case kK => assumption); (case k1 => k_asm); (case k2 => k_asm); (case k3 => k_asm); (case k4 => k_asm); (case k5 => k_asm); (case k6 => k_is); (case k7 => k_is); (case k8 => ktr_room); (case k9 => exact BindsTo.of_eq rfl); (case kB => exact rfl); (case kD => decide +kernel); (case c2 => exact rfl); (case c3 => exact rfl); (case c4 => exact rfl))
  intro g' L' h' tk' cells' FG' F' N' Y' B' X' T' l1 htk
  k_cells Y'
  (try simp only [List.cons_append, List.nil_append] at N')
  (try dsimp only)
  (try k_lift B')
  (try k_fold)
  walk_at "steps to block"
  rename Fr _ _ _ _ => F1
  rename News _ _ _ _ => N1
  refine ListComp_T F1 (by with_unfolding_all rfl) (by decide) (by with_unfolding_all rfl) (by decide) ?_
  walk_at "steps"
  refine block_str (by rfl) (by rfl) (by with_unfolding_all rfl) F1 N1 (by rw [hl, sizeLine_eq]; decide) (fun i ys nw => nw = _ ∧ StrsAre ys ((x.cps.toList.take i).map cellS)) ⟨rfl, .nil⟩ ?_ ?_ ?_
  · rintro i c u oC C D I m₂ ys news₁ h tk own E' hc hm₂ hu1 hu2 ⟨rfl, hys⟩ hown hoC F2 N2 hCD hoff g
    have hu0 : 0 < u := Nat.lt_of_lt_of_le hpos (Nat.le_trans htk hu1)
    have hcx := hx c (Array.mem_toList_iff.mpr (Array.mem_of_getElem? hc))
    refine wpAny_tests_nil ?_
    walk_at "steps to call"
    refine (spec_ix w c _ u _ hcx).use (by k_asm) F2 (by k_asm) N2 (by k_asm) rfl (by ktr_room) (by ktr_units) ⟨hu0, Nat.lt_of_lt_of_le hu2 (by first | exact Nat.le_refl _ | exact Nat.le_add_right _ _ | exact Nat.le_add_right _ 2)⟩ ?_
    rintro r nw h1 tk1 ⟨rfl, ti, rfl⟩ F3 N3
    dsimp only [List.nil_append] at N3 ⊢
    walk_at "steps to call"
    refine (spec_mul w (ixS c) (Str.ofString "") _ _ _ (by rcases hcx with rfl | rfl | rfl <;> simp [ixS])).use (by k_asm) F3 (by k_asm) N3 (by k_asm) rfl (by ktr_room) (by ktr_units) ?_
    rintro r nw h2 tk2 ⟨rfl, tm, rfl⟩ F4 N4
    dsimp only [List.nil_append] at N4 ⊢
    walk_at "steps"
    refine SB.add (fun _ _ => ?_) (line_small (by show (Array.replicate _ _).size ≤ _; rw [Array.size_replicate]; rcases hcx with rfl | rfl | rfl <;> decide) (by show 1 ≤ _; decide))
    refine ⟨_, _, _, rfl, F4, N4, hoff, rfl, ?_⟩
    rw [take_snoc hc, List.map_append]
    refine strs_snoc' hys ?_
    rcases hcx with rfl | rfl | rfl <;> rfl
  · rintro i ys nw ⟨_, h⟩
    rw [StrsAre.length h, List.length_map]
    exact List.length_take_le _ _
  · rintro g ys nw ⟨rfl, h⟩
    intro D h3 tk3 F5 N5 hD
    rw [← Array.length_toList, List.take_length] at h
    have hDc : @Ne Nat (L' + 1) D := hD (L' + 1, _) List.mem_cons_self
    have hnc : ∀ p ∈ news, p.1 ≠ L' + 1 := fun p hp => Nat.ne_of_lt (Nat.lt_succ_of_lt (l1 p hp))
    walk_at "steps to for"
    rename Fr _ _ _ _ => F6
    rename News _ _ _ _ => N6
    obtain ⟨m6, F6, hr6⟩ : ∃ m6 : Str → Option Value, Fr g' L' _ m6 ∧ m6 (Str.ofString "rows") = some (.ref _) := ⟨_, F6, rfl⟩
    refine For_G AllBare (fun _ _ => True) F6 ?_
    walk_at "steps"
    rename IsRange _ _ _ _ _ _ _ _ => hr
    rename Fr _ _ _ m6 => F7
    rename News _ _ _ _ => N7
    rename _ = Data.cell _ => hoc
    rename _ ∧ _ ∧ _ ∧ AllLt _ news => ltD'
    rename _ ∧ _ ∧ AllLt _ news => ltR
    obtain ⟨R, D2, oc, oT, hr6, hoc, ⟨dR, dD, dC, dn⟩, ⟨rD, rC, rn⟩, N7⟩ : ∃ (R D2 : Addr) (oc oT : Obj), m6 (Str.ofString "rows") = some (.ref R) ∧ oc.data = .cell (some (.ref D)) ∧ (@LT.lt Nat _ R D2 ∧ @LT.lt Nat _ D D2 ∧ @LT.lt Nat _ (L' + 1) D2 ∧ AllLt D2 news) ∧ (@LT.lt Nat _ D R ∧ @LT.lt Nat _ (L' + 1) R ∧ AllLt R news) ∧ News g' L' _ ((D2, oT) :: (R, W.listOf #[] 0) :: (D, lst ys) :: (L' + 1, oc) :: news) := ⟨_, _, _, _, hr6, hoc, ltD', ltR, N7⟩
    refine loopG_range (n := 4) (by rfl) hr rfl rfl (by rfl) (by rfl) hB F7 (news := (R, W.listOf #[] 0) :: ([] ++ ((D, lst ys) :: (L' + 1, oc) :: ((D2, oT) :: news)))) (fun p hp => N7 p ?pm) (J := fun i m nw => m (Str.ofString "rows") = some (.ref R) ∧ RJ R (toldD x i) ((D, lst ys) :: (L' + 1, oc) :: ((D2, oT) :: news)) [] nw) ⟨hr6, [], 0, [], rfl, RVA.nil, rfl, ?off, fun p hp => nomatch hp⟩ ?step ?done
    case pm => simp only [List.mem_cons, List.nil_append] at hp ⊢; grind
    case off =>
      intro p hp
      simp only [List.mem_cons, List.nil_append] at hp
      rcases hp with rfl | rfl | rfl | hp
      · exact Nat.ne_of_lt rD
      · exact Nat.ne_of_lt rC
      · exact Nat.ne_of_gt dR
      · exact Nat.ne_of_lt (lt_of_all rn p hp)
    case step =>
      rintro I oI i u m₁ news₁ h5 tk5 G hi htk5 hBG ⟨hr1, ws, kw, own, rfl, hrv, hwl, hne, -⟩ hoff F8 N8 g5 t5 G5
      have hs1 : (fun z => if z = Str.ofString "size" then some (.int (1 + (i : Int)) u) else m₁ z) (Str.ofString "size") = some (Value.int (1 + (i : Int)) u) := rfl
      have hr2 : (fun z => if z = Str.ofString "size" then some (Value.int (1 + (i : Int)) u) else m₁ z) (Str.ofString "rows") = some (.ref R) := hr1
      generalize (fun z => if z = Str.ofString "size" then some (Value.int (1 + (i : Int)) u) else m₁ z) = m₂ at F8 hs1 hr2
      clear F7
      walk_at "steps to for"
      refine For_G AllBare (fun _ _ => True) F8 ?_
      walk_at "steps"
      rename IsRange _ _ _ _ _ _ _ _ => hr3
      rename Fr _ _ _ m₂ => F9
      rename News _ _ _ _ => N9
      have hIR : (I, oI).1 ≠ R := fun e => hoff (R, W.listOf ws.toArray kw) List.mem_cons_self (List.mem_singleton.mpr (show R = I from e.symm))
      refine loopG_range (n := i + 1) (by rfl) hr3 (range_i hi).1 (range_i hi).2 (by rfl) (by rfl) hBG F9 N9 (J := fun j m nw => m (Str.ofString "rows") = some (.ref R) ∧ m (Str.ofString "size") = some (.int (1 + (i : Int)) u) ∧ RJ R (toldD x i ++ firstsD x (1 + (i : Int)) j) ((D, lst ys) :: (L' + 1, oc) :: ((D2, oT) :: news) ++ [(I, oI)]) [I] nw) ⟨hr2, hs1, ws, kw, own, by rw [List.cons_append, List.append_assoc], by rw [show firstsD x (1 + (i : Int)) 0 = [] from rfl, List.append_nil]; exact hrv, by rw [show firstsD x (1 + (i : Int)) 0 = [] from rfl, List.append_nil]; exact hwl, ?off2, fun p hp => hoff p (List.mem_cons_of_mem _ (List.mem_append_left _ hp))⟩ ?step2 ?done2
      case off2 =>
        intro p hp
        rw [← List.append_assoc] at hp
        rcases List.mem_append.mp hp with hp | hp
        · exact hne p hp
        · rw [List.mem_singleton.mp hp]; exact hIR
      case step2 =>
        rintro I2 o2 j u2 m₃ news₃ h6 tk6 G6 hj htk6 hBG6 ⟨hr3, hs3, ws3, k3, own3, rfl, hrv3, hwl3, hne3, hI3⟩ hoff3 F10 N10 g6 t6 G7
        have hf4 : (fun z => if z = Str.ofString "first" then some (.int (1 + (j : Int)) u2) else m₃ z) (Str.ofString "first") = some (Value.int (1 + (j : Int)) u2) := rfl
        have hr4 : (fun z => if z = Str.ofString "first" then some (Value.int (1 + (j : Int)) u2) else m₃ z) (Str.ofString "rows") = some (.ref R) := hr3
        have hs4 : (fun z => if z = Str.ofString "first" then some (Value.int (1 + (j : Int)) u2) else m₃ z) (Str.ofString "size") = some (.int (1 + (i : Int)) u) := hs3
        generalize (fun z => if z = Str.ofString "first" then some (Value.int (1 + (j : Int)) u2) else m₃ z) = m₄ at F10 hf4 hr4 hs4
        have hI2R : (I2, o2).1 ≠ R := fun e => hoff3 (R, W.listOf ws3.toArray k3) List.mem_cons_self (List.mem_singleton.mpr (show R = I2 from e.symm))
        have hle3 : ws3.length ≤ 500 := by
          rw [hwl3, List.length_append]
          have h1 := toldD_le x i (by lia)
          have h2 := firstsD_le x (1 + (i : Int)) ⟨by lia, by lia⟩ j (by lia)
          lia
        refine told_turn w x hx hl (1 + (j : Int)) (1 + (i : Int)) ⟨by lia, by lia⟩ ⟨by lia, by lia⟩ u2 u R D oc hoc ws3 ys k3 (own3 ++ (((D2, oT) :: news) ++ [(I, oI), (I2, o2)])) _ _ _ _ _ _ _ _ _ _ _ _ _ _ _ _ _ _ _ _ h (by passes_own) hr4 hs4 hf4 (by k_asm) F10 (by k_asm) (fun e he => N10 e (rj_perm he)) (by k_asm) (by k_asm) (by lia) (by lia) hBG6 ?ne5 hle3 ?fin5
        case ne5 =>
          intro p hp
          rcases rj_perm4 hp with hp | hp
          · exact hne3 p hp
          · rw [List.mem_singleton.mp hp]; exact hI2R
        case fin5 =>
          rintro h7 tk7 G8 m₅ ws5 k5 own5 hBG8 hr5 hs5 F11 N11 hrv5 hwl5 hne5 hlt5
          refine FEndG.of F11 N11 hBG8 ((R, W.listOf (ws3 ++ ws5).toArray k5) :: ((own5 ++ own3) ++ ((D, lst ys) :: (L' + 1, oc) :: ((D2, oT) :: news) ++ [(I, oI)]))) (fun e he => rj_perm2 he) ?_ ⟨hr5, hs5, ws3 ++ ws5, k5, own5 ++ own3, rfl, ?_, ?_, fun p hp => hne5 p (rj_perm3 hp), ?_⟩
          · intro p hp
            rcases List.mem_cons.mp hp with rfl | hp
            · exact hoff3 (R, W.listOf ws3.toArray k3) List.mem_cons_self
            rcases List.mem_append.mp hp with hp | hp
            · rcases List.mem_append.mp hp with hp | hp
              · intro hm
                exact Nat.lt_irrefl I2 ((List.mem_singleton.mp hm) ▸ hlt5 p hp (I2, o2) (by simp only [List.mem_append, List.mem_cons, or_true, true_or]))
              · exact hoff3 p (List.mem_cons_of_mem _ (List.mem_append_left _ hp))
            · exact hoff3 p (List.mem_cons_of_mem _ (List.mem_append_right _ hp))
          · rw [firstsD_next, ← List.append_assoc]
            exact (hrv3.mono fun e he => List.mem_append_right _ he).append (hrv5.mono fun e he => List.mem_append_left _ he) (by rw [hwl5, turnD_len])
          · rw [firstsD_next, ← List.append_assoc, List.length_append, List.length_append, hwl3, hwl5, turnD_len]
          · intro p hp
            rcases List.mem_append.mp hp with hp | hp
            · intro hm
              exact Nat.lt_irrefl I ((List.mem_singleton.mp hm) ▸ hlt5 p hp (I, oI) (by simp only [List.mem_append, List.mem_cons, or_true, true_or]))
            · exact hI3 p hp
      case done2 =>
        rintro h6 tk6 G6 m₃ news₃ htk6 hBG6 F10 N10 ⟨hr3, hs3, ws3, k3, own3, rfl, hrv3, hwl3, hne3, hI3⟩
        walk_at "steps"
        rename Fr _ _ _ m₃ => F11
        rename News _ _ _ _ => N11
        refine FEndG.of F11 N11 hBG6 ((R, W.listOf ws3.toArray k3) :: (own3 ++ ((D, lst ys) :: (L' + 1, oc) :: ((D2, oT) :: news)))) ?_ ?_ ⟨hr3, ws3, k3, own3, rfl, by rw [toldD_next]; exact hrv3, by rw [toldD_next]; exact hwl3, fun p hp => hne3 p ?_, fun p hp => List.not_mem_nil⟩
        · intro e he
          simp only [List.mem_append, List.mem_cons, List.not_mem_nil, or_false] at he ⊢
          grind
        · intro p hp
          rcases List.mem_cons.mp hp with rfl | hp
          · exact hoff (R, W.listOf ws.toArray kw) List.mem_cons_self
          rcases List.mem_append.mp hp with hp | hp
          · exact hI3 p hp
          · exact hoff p (List.mem_cons_of_mem _ (List.mem_append_right _ hp))
        · rw [← List.append_assoc]; exact List.mem_append_left _ hp
    case done =>
      rintro h5 tk5 G m₁ news₁ htk5 hBG F8 N8 ⟨hr1, ws, kw, own, rfl, hrv, hwl, hne, -⟩
      walk_at "steps"
      rename Fr _ _ _ _ => F9
      rename News _ _ _ _ => N9
      refine hret _ ((R, W.listOf ws.toArray kw) :: own) _ _ _ ⟨R, ws, kw, own, rfl, rfl, hrv, hwl⟩ hBG F9 (fun p hp => N9 p ?_)
      simp only [List.mem_append, List.mem_cons] at hp ⊢
      grind
end
-- S1
section
section
variable {prog : Program} {w : World} {A : Around} {E : Value → Shared → Prop} {s : Shared} {h₀ : Heap} {L : Addr} {m : Str → Option Value} {news : Led}
noncomputable def signsOf (x : Str) : List Str := x.cps.toList.map fun c => (⟨#[c]⟩ : Str)
theorem items_signs {x : Str} : ∀ (ns : List Nat) (vs : List Value), vs.length = ns.length → (∀ (j : Nat) (v : Value), vs[j]? = some v → ∃ c u, ns[j]? = some c ∧ v = .str ⟨#[c]⟩ u) → StrsAre vs (ns.map fun c => (⟨#[c]⟩ : Str))
  | [], [], _, _ => .nil
  | n :: ns, v :: vs, hl, h => by
    obtain ⟨c, u, hc, rfl⟩ := h 0 v rfl
    cases hc
    exact .cons _ _ (items_signs (x := x) ns vs (Nat.succ.inj hl) fun j v hj => h (j + 1) v hj)
  | [], _ :: _, hl, _ => nomatch hl
  | _ :: _, [], hl, _ => nomatch hl
/-- sorted of a text -/
theorem sorted_sign {x : Str} {t : Tok} {Q : Value → Shared → Prop} (hh : A.handled = none) (h8 : x.cps.size ≤ 8) (F : Fr h₀ L s.heap m) (N : News h₀ L s.heap news)
    (h : ∀ (D : Addr) (vs : List Value) (ss : List Str) (e : Nat) (h' : Heap) (tk : Nat), Fr h₀ L h' m → News h₀ L h' ((D, seqObj "list" vs.toArray e) :: news) → (∀ q ∈ news, @LT.lt Nat _ q.1 D) → StrsAre vs ss → ss.Perm (signsOf x) → sortedS ss = true → Q (.ref D) { s with heap := h', toks := tk }) :
    wpAny (model prog w) A (call (.builtin "sorted") [.str x t]) Q E s := by
  refine Calls.call_function_entry kind_sorted plain_sorted entry_sorted (args_sorted1 _) ?_
  unfold Builtin.«sorted»
  refine wpAny_bind (m := checkCount "sorted" 1 1 _) (wpAny_pure ?_)
  refine wpAny_bind (wpAny_collect_str (by exact hh) x t ?_ (by rw [sizeLine_eq]; lia))
  rintro ⟨g1, gens, dr, tk, os⟩ acc up e1 e2 e3 hacc
  dsimp only at up e1 e2 e3 ⊢
  subst e1 e2 e3
  have hS : StrsAre acc.toList (signsOf x) := items_signs (x := x) _ _ (by rw [Array.length_toList, Array.length_toList]; exact hacc.1) fun j v hj => by
    obtain ⟨c, u, hc, hv⟩ := hacc.2 j v (by rw [Array.getElem?_toList] at hj; exact hj)
    exact ⟨c, u, by rw [Array.getElem?_toList]; exact hc, hv⟩
  have hlen : acc.toList.length ≤ 8 := by rw [Array.length_toList, hacc.1]; exact h8
  generalize acc.toList = vs at hS hlen
  refine wpAny_bind (wpAny_newList ?_ (by rw [sizeLine_eq]; lia))
  have F1 := F.kept up
  have hoL : (g1.push (seqObj "list" vs.toArray 0)).get? g1.objs.size = some (seqObj "list" vs.toArray 0) := Heap.get?_push_size _ rfl
  show wpAny _ _ _ _ _ { s with heap := g1.push (seqObj "list" vs.toArray 0), toks := tk }
  refine wpAny_bind (wpAny_holding (wpAny_call_entry slot_list_sort ⟨_, hoL, rfl⟩ entry_list_sort (list_sort_treeK strKind_oneLt hoL hS.keysOf (fun v₁ v₂ rest e => keyKind_strs (by rw [← e]; exact hS)) (by lia) fun st' a1 a2 => ⟨_, rfl, ?_⟩) (args_list_sort _)))
  obtain ⟨ss', b1, b2, b3⟩ := sorted_out_str hS a1 a2
  obtain ⟨e, he⟩ := sortedHeap_at (out := (arrOf st').map (·.2)) hoL
  have k : ∀ b o, s.heap.get? b = some o → (sortedHeap (g1.push (seqObj "list" vs.toArray 0)) g1.objs.size vs ((arrOf st').map (·.2))).get? b = some o := fun b o q => by
    have q1 := up b o q
    have hlt : @LT.lt Nat _ b g1.objs.size := Heap.lt_size q1
    rw [sortedHeap_old (Nat.ne_of_lt hlt) (by rw [size_push']; exact Nat.lt_succ_of_lt hlt)]
    exact Heap.get?_push_of_some _ q1
  have he' : (sortedHeap (g1.push (seqObj "list" vs.toArray 0)) g1.objs.size vs ((arrOf st').map (·.2))).get? g1.objs.size = some (seqObj "list" ((arrOf st').map (·.2)).toList.toArray e) := by rw [Array.toArray_toList]; exact he
  refine wpAny_pure ⟨_, rfl, h g1.objs.size ((arrOf st').map (·.2)).toList ss' e _ tk (F.kept k) (fun p hp => ?_) (fun q hq => Heap.lt_size (up _ _ (N q hq).1)) b1 b2 b3⟩
  rcases List.mem_cons.mp hp with rfl | hp
  · obtain ⟨oL, _, _, hL, _⟩ := F1.ns
    refine ⟨he', Nat.ne_of_gt (Heap.lt_size hL), ?_⟩
    cases hq : h₀.get? g1.objs.size with
    | none => rfl
    | some o' => exact absurd (Heap.lt_size (F1.keep _ _ hq)) (Nat.lt_irrefl _)
  · exact ⟨k _ _ (N p hp).1, (N p hp).2.1, (N p hp).2.2⟩
end
end
-- S2
section
noncomputable abbrev leS (a b : Str) : Prop := Spec.ltCps b.cps.toList a.cps.toList = false
theorem leS_trans {a b c : Str} (h1 : leS a b) (h2 : leS b c) : leS a c := by
  unfold leS at *
  rw [ltCps_eq] at *
  simp only [decide_eq_false_iff_not] at *
  exact List.not_lt.mpr (List.le_trans (List.not_lt.mp h1) (List.not_lt.mp h2))
theorem leS_anti {a b : Str} (h1 : leS a b) (h2 : leS b a) : a = b := by
  unfold leS at *
  rw [ltCps_eq] at *
  simp only [decide_eq_false_iff_not] at *
  have e := List.le_antisymm (List.not_lt.mp h1) (List.not_lt.mp h2)
  cases a; cases b; simp only [Str.mk.injEq]
  exact Array.toList_inj.mp e
theorem rising_pw : ∀ (l : List Str) (p : Str), risingS p l = true → (p :: l).Pairwise leS
  | [], p, _ => List.pairwise_singleton _ _
  | x :: r, p, h => by
    have h' : (!Spec.ltCps x.cps.toList p.cps.toList && risingS x r) = true := h
    rw [Bool.and_eq_true] at h'
    have h1 : leS p x := by simpa using h'.1
    have ih := rising_pw r x h'.2
    refine List.pairwise_cons.mpr ⟨fun y hy => ?_, ih⟩
    rcases List.mem_cons.mp hy with rfl | hy
    · exact h1
    · exact leS_trans h1 ((List.pairwise_cons.mp ih).1 y hy)
theorem sorted_pw : ∀ (l : List Str), sortedS l = true → l.Pairwise leS
  | [], _ => List.Pairwise.nil
  | x :: r, h => rising_pw r x h
theorem sorted_eq {x y : Str} {ss ts : List Str} (hs : ss.Perm (signsOf x)) (hs' : sortedS ss = true) (ht : ts.Perm (signsOf y)) (ht' : sortedS ts = true) :
    decide (ss = ts) = decide (x.cps.toList.Perm y.cps.toList) := by
  have back : ∀ l : List Nat, (l.map fun c => (⟨#[c]⟩ : Str)).map (fun s => s.cps.toList.headD 0) = l := fun l => by
    rw [List.map_map]
    conv => rhs; rw [← List.map_id l]
    rfl
  have iff : ss = ts ↔ x.cps.toList.Perm y.cps.toList := by
    constructor
    · intro e
      have h : (signsOf x).Perm (signsOf y) := hs.symm.trans (e ▸ ht)
      have h2 := h.map (fun s => s.cps.toList.headD 0)
      unfold signsOf at h2
      rw [back, back] at h2
      exact h2
    · intro h
      exact List.Perm.eq_of_pairwise (fun a b _ _ h1 h2 => leS_anti h1 h2) (sorted_pw _ hs') (sorted_pw _ ht') (hs.trans ((h.map _).trans ht.symm))
  exact decide_eq_decide.mpr iff
theorem strs_rva {l : Led} : ∀ {vs : List Value} {ss : List Str}, StrsAre vs ss → RVA l vs (ss.map PyData.str)
  | _, _, .nil => RVA.nil
  | _, _, .cons x t h => RVA.cons (RV.str x t) (strs_rva h)
noncomputable def okS (ss : List Str) : Prop := ∀ x ∈ ss, PyData.strOk x = true
theorem canLayS : ∀ ss : List Str, okS ss → PyData.canLayAll0 (ss.map PyData.str) = true
  | [], _ => rfl
  | x :: r, h => by
    have h1 := h x List.mem_cons_self
    have h2 := canLayS r fun y hy => h y (List.mem_cons_of_mem _ hy)
    simp [PyData.canLayAll0, PyData.canLay0, h1, h2]
theorem depthS : ∀ ss : List Str, PyData.depthAll (ss.map PyData.str) = 0
  | [] => rfl
  | _ :: r => by simp [PyData.depthAll, PyData.depth, depthS r]
theorem shapedS (ss : List Str) (h : okS ss) : SeqAt.shaped (.list (ss.map PyData.str)) = true := by
  simp [SeqAt.shaped, PyData.canLay0, PyData.depth, canLayS ss h, depthS]
theorem okS_sorted {x : Str} {ss : List Str} (hx : ∀ c ∈ x.cps.toList, c < 1000) (h : ss.Perm (signsOf x)) : okS ss := fun y hy => by
  obtain ⟨c, hc, rfl⟩ := List.mem_map.mp (h.mem_iff.mp hy)
  have := hx c hc
  show ((#[c] : Array Nat).all (· < 0x110000)) = true
  simp
  lia
theorem eqvAllS : ∀ ss ts : List Str, PyData.eqvAll (ss.map PyData.str) (ts.map PyData.str) = decide (ss = ts)
  | [], [] => by simp [PyData.eqvAll]
  | [], _ :: _ => by simp [PyData.eqvAll]
  | _ :: _, [] => by simp [PyData.eqvAll]
  | a :: r, b :: t => by
    simp only [List.map_cons, PyData.eqvAll, PyData.eqv, eqvAllS r t]
    by_cases h : a = b <;> by_cases h' : r = t <;> simp [h, h']
theorem eqvS (ss ts : List Str) : PyData.eqv (.list (ss.map PyData.str)) (.list (ts.map PyData.str)) = decide (ss = ts) := by
  simp [PyData.eqv, eqvAllS]
end
-- C14
section
section
variable {prog : Program} {w : World} {A : Around} {E : Value → Shared → Prop} {s : Shared} {h₀ : Heap} {L : Addr} {m : Str → Option Value} {env : Env}
end
end
-- Z6
section
section
variable {prog : Program} {w : World} {A : Around} {E : Value → Shared → Prop} {s : Shared}
theorem nextOf_tup_item {it t : Addr} {i : Nat} {items} {x : Value} {Q : Value → Shared → Prop} (hit : s.heap.IsTupleIter it t i) (ht : s.heap.IsTuple t items) (hx : items[i]? = some x)
    (hQ : ∀ h', h'.IsTupleIter it t (i + 1) → Heap.SameBut it s.heap h' → Q x { s with heap := h' }) : wpAny (model prog w) A (Builtin.SmallTypes.nextOf (.ref it)) Q E s := by
  obtain ⟨o, ho, hc, hd⟩ := id hit
  obtain ⟨ol, hol, _, nl, hdl⟩ := ht
  unfold Builtin.SmallTypes.nextOf
  refine wpAny_bind (wpAny_callSpecial?_slot (name := Str.ofString "__next__") hit.typeIs F.slot_tuple_iterator_next
    (wpAny_call_entry F.slot_tuple_iterator_next hit.typeIs F.entry_tuple_iterator_next ?_ (F.args_tuple_iterator_next_1 _)))
  show wpAny _ _ (field (.ref it) 0 >>= _) _ _ s
  refine wpAny_bind (wpAny_field ho hd (x := .ref t) rfl ?_)
  show wpAny _ _ (if (Value.ref t == Value.none) = true then _ else _) _ _ s
  rw [if_neg (show ¬ ((Value.ref t == Value.none) = true) from Bool.false_ne_true)]
  show wpAny _ _ (field (.ref it) 1 >>= _) _ _ s
  refine wpAny_bind (wpAny_field ho hd (x := .int i 0) rfl ?_)
  show wpAny _ _ (seqItems? (.ref t) >>= _) _ _ s
  refine wpAny_bind (wpAny_seqItems hol hdl ?_)
  simp only [Int.toNat_natCast, hx]
  refine wpAny_bind (wpAny_setField ho hd (by simp) (wpAny_pure ⟨x, rfl, wpAny_pure (hQ _ ?_ (Heap.SameBut.update ..))⟩))
  exact ⟨_, Heap.get?_update_self _ ho (Obj.isFreed_of_fields (Obj.data_mapFields hd _)), (Obj.cls_mapFields ..).trans hc, by
    rw [Obj.data_mapFields hd]; simp [rawInt]⟩
theorem nextOf_tup_end {it t : Addr} {i : Nat} {items} {Q : Value → Shared → Prop} (hh : A.handled = none) (hit : s.heap.IsTupleIter it t i) (ht : s.heap.IsTuple t items) (hx : items[i]? = none)
    (hE : ∀ h' e, Heap.ExtBut it s.heap h' → (∃ o, h'.get? e = some o ∧ o.cls = .type "StopIteration") → E (.ref e) { s with heap := h' }) : wpAny (model prog w) A (Builtin.SmallTypes.nextOf (.ref it)) Q E s := by
  obtain ⟨o, ho, hc, hd⟩ := id hit
  obtain ⟨ol, hol, _, nl, hdl⟩ := ht
  unfold Builtin.SmallTypes.nextOf
  refine wpAny_bind (wpAny_callSpecial?_slot (name := Str.ofString "__next__") hit.typeIs F.slot_tuple_iterator_next
    (wpAny_call_entry F.slot_tuple_iterator_next hit.typeIs F.entry_tuple_iterator_next ?_ (F.args_tuple_iterator_next_1 _)))
  show wpAny _ _ (field (.ref it) 0 >>= _) _ _ s
  refine wpAny_bind (wpAny_field ho hd (x := .ref t) rfl ?_)
  show wpAny _ _ (if (Value.ref t == Value.none) = true then _ else _) _ _ s
  rw [if_neg (show ¬ ((Value.ref t == Value.none) = true) from Bool.false_ne_true)]
  show wpAny _ _ (field (.ref it) 1 >>= _) _ _ s
  refine wpAny_bind (wpAny_field ho hd (x := .int i 0) rfl ?_)
  show wpAny _ _ (seqItems? (.ref t) >>= _) _ _ s
  refine wpAny_bind (wpAny_seqItems hol hdl ?_)
  simp only [Int.toNat_natCast, hx]
  refine wpAny_bind (wpAny_rule (wpAny_bind (wpAny_setField ho hd (by simp) ?_)))
  show wpAny _ _ (newExc (.type "StopIteration") [] >>= _) _ _ _
  refine wpAny_bind ?_
  simp only [newExc, newTuple]
  refine wpAny_bind (wpAny_newObj_type ?_ (by size_fits))
  refine wpAny_bind (m := firstArgMember _ _) (wpAny_of_eq (a := Value.none) (by first | rfl | (simp only [firstArgMember]; rfl)) ?_)
  refine wpAny_newObj_type ?_ (by size_fits)
  simp only [raiseNew]
  refine wpAny_bind (wpAny_handled ?_)
  first | rw [show A.in1.handled = none from hh] | rw [hh]
  refine wpAny_bind (wpAny_pure (wpAny_throw ?_))
  exact hE _ _ (((Heap.SameBut.update ..).extBut.push _).push _) ⟨_, Heap.get?_push_size _ rfl, rfl⟩
noncomputable abbrev zipB (TI TO : Addr) (x : Value) (b : Bool) : Obj := { cls := .type "zip", dict := none, data := .fields #[x, .bool b, .bool false, .ref TI, .ref TO], slots := #[] }
noncomputable abbrev IsZipB (h : Heap) (z TI TO : Addr) (x : Value) (b : Bool) : Prop := h.get? z = some (zipB TI TO x b)
theorem alive_or {a : Addr} {Q : Option Obj → Shared → Prop} (h : Q (s.heap.get? a) s) : wpAny (model prog w) A (loadIfAlive a) Q E s := fun _ _ _ => h
/-- is the last tuple let go -/
theorem zip_free {z TI TO : Addr} {x : Value} {b : Bool} {Q : Bool → Shared → Prop} (hx : x = .none ∨ ∃ T : Nat, x = rawInt T) (hz : IsZipB s.heap z TI TO x b)
    (h1 : Q true s) (h2 : ∀ h₁, Heap.SameBut z s.heap h₁ → IsZipB h₁ z TI TO x true → Q false { s with heap := h₁ }) : wpAny (model prog w) A (Builtin.SmallTypes.ownedTupleIsFree (.ref z)) Q E s := by
  unfold Builtin.SmallTypes.ownedTupleIsFree
  refine wpAny_bind (wpAny_field hz rfl (x := x) rfl ?_)
  rcases hx with rfl | ⟨T, rfl⟩
  · exact wpAny_pure h1
  · show wpAny _ _ (loadIfAlive ((T : Int).toNat) >>= _) _ _ _
    refine wpAny_bind (alive_or ?_)
    cases hT : s.heap.get? ((T : Int).toNat) with
    | none => exact wpAny_pure h1
    | some o =>
      show wpAny _ _ (field (.ref z) 1 >>= _) _ _ _
      refine wpAny_bind (wpAny_field hz rfl (x := .bool b) rfl ?_)
      cases b with
      | true =>
        exact wpAny_pure (h2 s.heap (Heap.SameBut.refl ..) hz)
      | false =>
        refine wpAny_bind (wpAny_setField_rec hz (by simp) fun h₁ hz₁ hs₁ => ?_)
        exact wpAny_pure (h2 h₁ hs₁ hz₁)
end
end
-- Z7
section
section
variable {prog : Program} {w : World} {A : Around} {E : Value → Shared → Prop} {s : Shared}
noncomputable def ZipEB (z TI TO : Addr) (f : Bool) (E : Value → Shared → Prop) (e : Value) (s' : Shared) : Prop := IsZipB s'.heap z TI TO .ellipsis f ∧ ∀ h', IsZipB h' z TI TO .none f → Heap.SameBut z s'.heap h' → E e { s' with heap := h' }
noncomputable def ZipQB (z TI TO : Addr) (f : Bool) (vs : Array Value) (Q : Value → Shared → Prop) (s₄ : Shared) : Prop :=
  IsZipB s₄.heap z TI TO .ellipsis f ∧ ∀ h₅, IsZip h₅ z TI TO (rawInt s₄.heap.objs.size) → IsTupL h₅ TO vs → IsTupL h₅ s₄.heap.objs.size vs → (∀ c o, c ≠ z → c ≠ TO → s₄.heap.get? c = some o → h₅.get? c = some o) → Q (.ref s₄.heap.objs.size) { s₄ with heap := h₅ }
theorem zip_outB {z TI TO : Addr} {f : Bool} {vs : Array Value} {Q : Value → Shared → Prop} (hv : vs.size ≤ 8) (hTz : TO ≠ z) (hTO : IsTupL s.heap TO vs) (hz : IsZipB s.heap z TI TO .ellipsis f)
    (h : ∀ h₅, IsZip h₅ z TI TO (rawInt s.heap.objs.size) → IsTupL h₅ TO vs → IsTupL h₅ s.heap.objs.size vs → (∀ c o, c ≠ z → s.heap.get? c = some o → h₅.get? c = some o) → Q (.ref s.heap.objs.size) { s with heap := h₅ }) :
    wpAny (model prog w) A (do
      let result ← newTuple vs.toList
      Builtin.SmallTypes.ownedTupleHandOut (.ref z) result
      return ← ret result) (fun fin s' => ∃ v, fin = Fin.done (.ret v) ∧ Q v s') E s := by
  refine wpAny_bind (wpAny_newTuple ?_ (by rw [Array.length_toList, sizeLine_eq]; lia))
  have hlt : z < s.heap.objs.size := Heap.lt_size hz
  show wpAny _ _ (Builtin.SmallTypes.ownedTupleHandOut (.ref z) (.ref s.heap.objs.size) >>= _) _ _ _
  refine wpAny_bind ?_
  unfold Builtin.SmallTypes.ownedTupleHandOut
  have hT : IsTupL (s.heap.push { cls := .type "tuple", data := .seq vs.toList.toArray }) s.heap.objs.size vs := by
    exact Heap.get?_push_size _ rfl
  have hz₆ : IsZipB (s.heap.push { cls := .type "tuple", data := .seq vs.toList.toArray }) z TI TO .ellipsis f := Heap.get?_push_of_some _ hz
  refine wpAny_bind (wpAny_setField_rec hz₆ (by simp) fun h₇ hz₇ hs₇ => ?_)
  replace hz₇ : IsZipB h₇ z TI TO (rawInt s.heap.objs.size) f := hz₇
  refine wpAny_setField_rec hz₇ (by simp) fun h₈ hz₈ hs₈ => ?_
  replace hz₈ : IsZip h₈ z TI TO (rawInt s.heap.objs.size) := hz₈
  have k : Stays z (s.heap.push { cls := .type "tuple", data := .seq vs.toList.toArray }) h₈ := (Stays.of hs₇).trans (Stays.of hs₈)
  refine wpAny_pure ⟨_, rfl, h h₈ hz₈ (k _ _ hTz (Heap.get?_push_of_some _ hTO)) (k _ _ (Nat.ne_of_gt hlt) hT) fun c o hc e => k c o hc (Heap.get?_push_of_some _ e)⟩
theorem zip3_any {z TI TO i1 i2 i3 : Addr} {a b c x₀ : Value} {f : Bool} {Q : Value → Shared → Prop} (hTOz : TO ≠ z) (hx₀ : x₀ = .none ∨ ∃ T : Nat, x₀ = rawInt T)
    (hz : IsZipB s.heap z TI TO x₀ f) (hTI : IsTupL s.heap TI #[.ref i1, .ref i2, .ref i3])
    (h : ∀ h₁, Heap.SameBut z s.heap h₁ → IsZipB h₁ z TI TO .ellipsis f → wpAny (model prog w) A (Builtin.SmallTypes.nextOf (.ref i1)) (fun x s₂ => IsTupL s₂.heap TO #[a, b, c] ∧ ∀ h₃, IsTupL h₃ TO #[x, b, c] → Heap.SameBut TO s₂.heap h₃ →
      wpAny (model prog w) A (Builtin.SmallTypes.nextOf (.ref i2)) (fun y s₄ => IsTupL s₄.heap TO #[x, b, c] ∧ ∀ h₅, IsTupL h₅ TO #[x, y, c] → Heap.SameBut TO s₄.heap h₅ →
      wpAny (model prog w) A (Builtin.SmallTypes.nextOf (.ref i3)) (fun u s₆ => IsTupL s₆.heap TO #[x, y, c] ∧ ZipQB z TI TO f #[x, y, u] Q s₆) (ZipEB z TI TO f E) { s₄ with heap := h₅ }) (ZipEB z TI TO f E) { s₂ with heap := h₃ }) (ZipEB z TI TO f E) { s with heap := h₁ })
    (busy : ∀ h₁, Heap.SameBut z s.heap h₁ → IsZipB h₁ z TI TO x₀ true → wpAny (model prog w) A (Builtin.SmallTypes.nextOf (.ref i1)) (fun x s₂ => wpAny (model prog w) A (Builtin.SmallTypes.nextOf (.ref i2)) (fun y s₄ =>
      wpAny (model prog w) A (Builtin.SmallTypes.nextOf (.ref i3)) (fun u s₆ => Q (.ref s₆.heap.objs.size) { s₆ with heap := s₆.heap.push { cls := .type "tuple", data := .seq #[x, y, u] } }) E s₄) E s₂) E { s with heap := h₁ }) :
    wpAny (model prog w) A (Builtin.«zip.__next__» ⟨[.ref z], []⟩) (fun fin s' => ∃ v, fin = .done (.ret v) ∧ Q v s') E s := by
  show wpAny _ _ (field (.ref z) 2 >>= _) _ _ _
  refine wpAny_bind (wpAny_field hz rfl (x := .bool false) rfl ?_)
  show wpAny _ _ (field (.ref z) 3 >>= _) _ _ _
  refine wpAny_bind (wpAny_field hz rfl (x := .ref TI) rfl ?_)
  refine wpAny_bind (wpAny_seqItems hTI rfl ?_)
  show wpAny _ _ (Builtin.SmallTypes.ownedTupleIsFree (.ref z) >>= _) _ _ _
  refine wpAny_bind ?_
  refine zip_free hx₀ hz ?_ fun h₁ hs₁ hz₁ => ?_
  rotate_left
  · simp only [Bool.false_eq_true, if_false]
    simp only [List.forIn_toArray, List.forIn_cons, List.forIn_nil]
    refine wpAny_bind (wpAny_bind (wpAny_bind (wpAny_holding ?_)))
    show wpAny _ _ (Builtin.SmallTypes.nextOf (.ref i1) >>= _) _ _ _
    refine wpAny_bind (wpAny_mono (busy h₁ hs₁ hz₁) (fun x s₂ hx => wpAny_pure (wpAny_pure ?_)) fun _ _ e => e)
    refine wpAny_bind (wpAny_bind (wpAny_holding ?_))
    show wpAny _ _ (Builtin.SmallTypes.nextOf (.ref i2) >>= _) _ _ _
    refine wpAny_bind (wpAny_mono hx (fun y s₄ hy => wpAny_pure (wpAny_pure ?_)) fun _ _ e => e)
    refine wpAny_bind (wpAny_bind (wpAny_holding ?_))
    show wpAny _ _ (Builtin.SmallTypes.nextOf (.ref i3) >>= _) _ _ _
    refine wpAny_bind (wpAny_mono hy (fun u s₆ hu => wpAny_pure (wpAny_pure (wpAny_pure ?_))) fun _ _ e => e)
    refine wpAny_bind (wpAny_newTuple ?_ (by rw [sizeLine_eq]; show 3 ≤ _; decide))
    exact wpAny_pure ⟨_, rfl, hu⟩
  simp only [if_true]
  refine wpAny_bind (wpAny_rule ?_)
  refine wpAny_bind (wpAny_field hz rfl (x := .ref TO) rfl ?_)
  refine wpAny_bind (wpAny_setField_rec hz (by simp) fun h₁ hz₁ hs₁ => ?_)
  replace hz₁ : IsZipB h₁ z TI TO .ellipsis f := hz₁
  refine wpAny_bind ?_
  simp only [List.zipIdx_cons, List.zipIdx_nil, List.forIn_cons, List.forIn_nil]
  have fails : ∀ e s', ZipEB z TI TO f E e s' → wpAny (model prog w) A (setField (.ref z) 0 .none) (fun _ s'' => E e s'') E s' := fun e s' he =>
    wpAny_setField_rec he.1 (by simp) fun h' hz' hs' => he.2 h' hz' hs'
  refine wpAny_bind (wpAny_bind (wpAny_onRaise ?_))
  show wpAny _ _ (Builtin.SmallTypes.nextOf (.ref i1) >>= _) _ _ _
  refine wpAny_bind (wpAny_mono (h h₁ hs₁ hz₁) (fun x s₂ hx => wpAny_pure ?_) fails)
  obtain ⟨hTO₂, hx⟩ := hx
  refine wpAny_bind (wpAny_seqItems hTO₂ rfl ?_)
  refine wpAny_bind (upd_tup (by simp) hTO₂ fun h₃ hTO₃ hs₃ => ?_)
  refine wpAny_bind (wpAny_letGo (wpAny_pure ?_))
  refine wpAny_bind (wpAny_bind (wpAny_onRaise ?_))
  show wpAny _ _ (Builtin.SmallTypes.nextOf (.ref i2) >>= _) _ _ _
  refine wpAny_bind (wpAny_mono (hx h₃ hTO₃ hs₃) (fun y s₄ hy => wpAny_pure ?_) fails)
  obtain ⟨hTO₄, hy⟩ := hy
  refine wpAny_bind (wpAny_seqItems hTO₄ rfl ?_)
  refine wpAny_bind (upd_tup (by simp) hTO₄ fun h₅ hTO₅ hs₅ => ?_)
  refine wpAny_bind (wpAny_letGo (wpAny_pure ?_))
  refine wpAny_bind (wpAny_bind (wpAny_onRaise ?_))
  show wpAny _ _ (Builtin.SmallTypes.nextOf (.ref i3) >>= _) _ _ _
  refine wpAny_bind (wpAny_mono (hy h₅ hTO₅ hs₅) (fun u s₆ hu => wpAny_pure ?_) fails)
  obtain ⟨hTO₆, hz₆, hq⟩ := hu
  refine wpAny_bind (wpAny_seqItems hTO₆ rfl ?_)
  refine wpAny_bind (upd_tup (by simp) hTO₆ fun h₇ hTO₇ hs₇ => ?_)
  refine wpAny_bind (wpAny_letGo (wpAny_pure (wpAny_pure ?_)))
  refine wpAny_bind (wpAny_seqItems hTO₇ rfl ?_)
  refine zip_outB (by simp) hTOz hTO₇ (hs₇.extBut _ _ hTOz.symm hz₆) fun h₈ hz₈ hTO₈ hT₈ hk₈ => ?_
  have hsz : h₇.objs.size = s₆.heap.objs.size := hs₇.1
  rw [show ({ s₆ with heap := h₇ } : Shared).heap.objs.size = s₆.heap.objs.size from hsz] at hz₈ hT₈ ⊢
  exact hq h₈ hz₈ hTO₈ hT₈ fun e o c1 c2 q => hk₈ e o c1 (hs₇.extBut e o c2 q)
end
end
-- Z8
section
section
variable {prog : Program} {w : World} {A : Around} {E : Value → Shared → Prop} {s : Shared}
theorem pyNext_zipB {z TI TO : Addr} {x : Value} {f : Bool} {Q : Option Value → Shared → Prop} (hz : IsZipB s.heap z TI TO x f)
    (h : wpAny (model prog w) A.in1 (Builtin.«zip.__next__» ⟨[.ref z], []⟩) (fun fin s' => ∃ v, fin = .done (.ret v) ∧ Q (some v) s') (StopAt (Q none)) s) : wpAny (model prog w) A (pyNext (.ref z)) Q E s := by
  have hT : s.TypeIs (.ref z) "zip" := ⟨_, hz, rfl⟩
  unfold pyNext
  refine wpAny_bind (wpAny_attempt (wpAny_callSpecial?_slot (name := Str.ofString "__next__") hT F.slot_zip_next (wpAny_call_entry F.slot_zip_next hT F.entry_zip_next (wpAny_mono h (fun fin s' hv => ?_) fun e s' he => ?_) (F.args_zip_next_1 _))))
  · obtain ⟨v, rfl, hq⟩ := hv
    exact ⟨v, rfl, wpAny_pure hq⟩
  · obtain ⟨a, o, rfl, ho, hc, hq⟩ := he
    exact wpAny_bind (wpAny_isInstance (T := "StopIteration") (b := true) ⟨o, ho, hc⟩ isSubtype_stop (wpAny_pure hq))
theorem pyIter_zipB {z TI TO : Addr} {x : Value} {f : Bool} {Q : Value → Shared → Prop} (hz : IsZipB s.heap z TI TO x f) (h : Q (.ref z) s) : wpAny (model prog w) A (pyIter (.ref z)) Q E s := by
  have hT : s.TypeIs (.ref z) "zip" := ⟨_, hz, rfl⟩
  refine wpAny_pyIter_slot hT F.slot_zip_iter (wpAny_call_entry F.slot_zip_iter hT F.entry_zip_iter ?_ (F.args_zip_iter_1 _))
  show wpAny _ _ (ret (.ref z)) _ _ s
  exact wpAny_pure ⟨_, rfl, "zip", _, hT, F.slot_zip_next.lookup, h⟩
noncomputable def Z6B (TI TO i1 i2 i3 l1 l2 l3 : Addr) (xs ys us : Array Value) (i : Nat) (h : Heap) : Prop :=
  IsTupL h TI #[.ref i1, .ref i2, .ref i3] ∧ (∃ a b c, IsTupL h TO #[a, b, c]) ∧ h.IsTupleIter i1 l1 i ∧ h.IsListIter i2 l2 i ∧ h.IsListIter i3 l3 i ∧ h.IsTuple l1 xs ∧ h.IsList l2 ys ∧ h.IsList l3 us
noncomputable def Z6S (z TI TO i1 i2 i3 l1 l2 l3 : Addr) (xs ys us : Array Value) (i : Nat) (h : Heap) : Prop := (∃ x f, (x = .none ∨ ∃ T : Nat, x = rawInt T) ∧ IsZipB h z TI TO x f) ∧ Z6B TI TO i1 i2 i3 l1 l2 l3 xs ys us i h
noncomputable def XL6 (xs ys us : Array Value) (i : Nat) : Value → Led
  | .ref T => [(T, { cls := .type "tuple", data := .seq #[xs.getD i .none, ys.getD i .none, us.getD i .none] })]
  | _ => []
theorem Z6B.at {TI TO i1 i2 i3 l1 l2 l3 : Addr} {xs ys us : Array Value} {i : Nat} {h h' : Heap} (b : Z6B TI TO i1 i2 i3 l1 l2 l3 xs ys us i h) (k : ∀ c ∈ [TI, TO, i1, i2, i3, l1, l2, l3], ∀ o, h.get? c = some o → h'.get? c = some o) : Z6B TI TO i1 i2 i3 l1 l2 l3 xs ys us i h' := by
  obtain ⟨hTI, ⟨x, y, u, hTO⟩, h1, h2, h3, hl1, hl2, hl3⟩ := b
  exact ⟨k TI (by simp) _ hTI, ⟨x, y, u, k TO (by simp) _ hTO⟩, h1.at fun o e => k i1 (by simp) o e, h2.at fun o e => k i2 (by simp) o e, h3.at fun o e => k i3 (by simp) o e, hl1.at fun o e => k l1 (by simp) o e, hl2.at fun o e => k l2 (by simp) o e, hl3.at fun o e => k l3 (by simp) o e⟩
theorem getD_at {xs : Array Value} {i : Nat} (h : i < xs.size) : xs[i]? = some (xs.getD i .none) := by
  rw [Array.getElem?_eq_getElem h]; simp [Array.getD, h]
theorem z6_item {z TI TO i1 i2 i3 l1 l2 l3 : Addr} {xs ys us : Array Value} {i : Nat} {Q : Option Value → Shared → Prop} (D : Z3Apart z TI TO i1 i2 i3 l1 l2 l3) (hix : i < xs.size) (hiy : i < ys.size) (hiu : i < us.size)
    (st : Z6S z TI TO i1 i2 i3 l1 l2 l3 xs ys us i s.heap)
    (hQ : ∀ T h', Z6S z TI TO i1 i2 i3 l1 l2 l3 xs ys us (i + 1) h' → (∀ p ∈ XL6 xs ys us i (.ref T), p.1 ∉ [z, TO, i1, i2, i3] ∧ s.heap.get? p.1 = none ∧ h'.get? p.1 = some p.2) → (∀ b o, b ∉ [z, TO, i1, i2, i3] → s.heap.get? b = some o → h'.get? b = some o) → Q (some (.ref T)) { s with heap := h' }) :
    wpAny (model prog w) A (pyNext (.ref z)) Q E s := by
  obtain ⟨⟨x₀, f, hx₀, hz⟩, hTI, ⟨a, b, c, hTO⟩, h1, h2, h3, hl1, hl2, hl3⟩ := st
  obtain ⟨⟨zTI, zTO, z1, z2, z3⟩, ⟨tTO, t1, t2, t3⟩, ⟨o1, o2, o3⟩, ⟨i12, i13⟩, i23⟩ := D.ne
  have nl := fun l (hl : l ∈ [l1, l2, l3]) => show l ≠ z ∧ l ≠ TO ∧ l ≠ i1 ∧ l ≠ i2 ∧ l ≠ i3 by simpa using D.ls l hl
  obtain ⟨l1z, l1o, l11, l12, l13⟩ := nl l1 (by simp)
  obtain ⟨l2z, l2o, l21, l22, l23⟩ := nl l2 (by simp)
  obtain ⟨l3z, l3o, l31, l32, l33⟩ := nl l3 (by simp)
  have lts : ∀ c o, s.heap.get? c = some o → @LT.lt Nat _ c s.heap.objs.size := fun c o e => Heap.lt_size e
  have gT1 : ∃ o, s.heap.get? i1 = some o := let ⟨o, ho, _⟩ := h1; ⟨o, ho⟩
  have gT2 : ∃ o, s.heap.get? i2 = some o := let ⟨o, ho, _⟩ := h2; ⟨o, ho⟩
  have gT3 : ∃ o, s.heap.get? i3 = some o := let ⟨o, ho, _⟩ := h3; ⟨o, ho⟩
  have wlt : ∀ c ∈ [z, TO, i1, i2, i3], @LT.lt Nat _ c s.heap.objs.size := by
    intro c hc
    simp only [List.mem_cons, List.not_mem_nil, or_false] at hc
    rcases hc with rfl | rfl | rfl | rfl | rfl
    · exact lts _ _ hz
    · exact lts _ _ hTO
    · exact lts _ _ gT1.choose_spec
    · exact lts _ _ gT2.choose_spec
    · exact lts _ _ gT3.choose_spec
  refine pyNext_zipB hz (zip3_any (a := a) (b := b) (c := c) zTO.symm hx₀ hz hTI (fun h₁ hs₁ hz₁ => ?_) fun h₁ hs₁ hz₁ => ?_)
  · refine nextOf_tup_item (h1.extBut hs₁.extBut z1.symm) (hl1.extBut hs₁.extBut l1z) (getD_at hix) fun h₂ I1 hs₂ => ⟨hs₂.extBut _ _ o1 (hs₁.extBut _ _ zTO.symm hTO), fun h₃ hTO₃ hs₃ => ?_⟩
    have k₃ : ∀ c o, c ≠ z → c ≠ i1 → c ≠ TO → s.heap.get? c = some o → h₃.get? c = some o := fun c o c1 c2 c3 e => hs₃.extBut c o c3 (hs₂.extBut c o c2 (hs₁.extBut c o c1 e))
    refine wpAny_nextOf_list_item (h2.at fun o e => k₃ i2 o z2.symm i12.symm o2.symm e) (hl2.at fun o e => k₃ l2 o l2z l21 l2o e) (getD_at hiy) fun h₄ I2 hs₄ => ⟨hs₄.extBut _ _ o2 hTO₃, fun h₅ hTO₅ hs₅ => ?_⟩
    have k₅ : ∀ c o, c ≠ z → c ≠ i1 → c ≠ TO → c ≠ i2 → s.heap.get? c = some o → h₅.get? c = some o := fun c o c1 c2 c3 c4 e => hs₅.extBut c o c3 (hs₄.extBut c o c4 (k₃ c o c1 c2 c3 e))
    refine wpAny_nextOf_list_item (h3.at fun o e => k₅ i3 o z3.symm i13.symm o3.symm i23.symm e) (hl3.at fun o e => k₅ l3 o l3z l31 l3o l32 e) (getD_at hiu) fun h₆ I3 hs₆ => ?_
    have k₆ : ∀ c o, c ≠ z → c ≠ i1 → c ≠ TO → c ≠ i2 → c ≠ i3 → s.heap.get? c = some o → h₆.get? c = some o := fun c o c1 c2 c3 c4 c5 e => hs₆.extBut c o c5 (k₅ c o c1 c2 c3 c4 e)
    have hz₆ : IsZipB h₆ z TI TO .ellipsis f := hs₆.extBut _ _ z3 (hs₅.extBut _ _ zTO (hs₄.extBut _ _ z2 (hs₃.extBut _ _ zTO (hs₂.extBut _ _ z1 hz₁))))
    have sz₆ : h₆.objs.size = s.heap.objs.size := hs₆.1.trans (hs₅.1.trans (hs₄.1.trans (hs₃.1.trans (hs₂.1.trans hs₁.1))))
    refine ⟨hs₆.extBut _ _ o3 hTO₅, hz₆, fun h₇ hz₇ hTO₇ hT₇ hk₇ => ?_⟩
    refine hQ h₆.objs.size h₇ ⟨⟨_, false, .inr ⟨_, rfl⟩, hz₇⟩, hk₇ _ _ zTI.symm tTO (k₆ _ _ zTI.symm t1 tTO t2 t3 hTI), ⟨_, _, _, hTO₇⟩, ?_, ?_, ?_, ?_, ?_, ?_⟩ ?_ ?_
    · exact ((I1.extBut hs₃.extBut o1.symm).extBut hs₄.extBut i12).at fun o e => hk₇ i1 o z1.symm o1.symm (hs₆.extBut _ _ i13 (hs₅.extBut _ _ o1.symm e))
    · exact (I2.extBut hs₅.extBut o2.symm).at fun o e => hk₇ i2 o z2.symm o2.symm (hs₆.extBut _ _ i23 e)
    · exact I3.at fun o e => hk₇ i3 o z3.symm o3.symm e
    · exact hl1.at fun o e => hk₇ l1 o l1z l1o (k₆ l1 o l1z l11 l1o l12 l13 e)
    · exact hl2.at fun o e => hk₇ l2 o l2z l2o (k₆ l2 o l2z l21 l2o l22 l23 e)
    · exact hl3.at fun o e => hk₇ l3 o l3z l3o (k₆ l3 o l3z l31 l3o l32 l33 e)
    · intro p hp
      rw [List.mem_singleton.mp hp]
      refine ⟨fun hm => ?_, Heap.get?_none_of_le (Nat.le_of_eq sz₆.symm), hT₇⟩
      have := wlt _ hm
      rw [sz₆] at this
      exact Nat.lt_irrefl _ this
    · intro q o hq e
      simp only [List.mem_cons, not_or, List.not_mem_nil, or_false] at hq
      obtain ⟨c1, c2, c3, c4, c5⟩ := hq
      exact hk₇ q o c1 c2 (k₆ q o c1 c3 c2 c4 c5 e)
  · refine nextOf_tup_item (h1.extBut hs₁.extBut z1.symm) (hl1.extBut hs₁.extBut l1z) (getD_at hix) fun h₂ I1 hs₂ => ?_
    have k₂ : ∀ c o, c ≠ z → c ≠ i1 → s.heap.get? c = some o → h₂.get? c = some o := fun c o c1 c2 e => hs₂.extBut c o c2 (hs₁.extBut c o c1 e)
    refine wpAny_nextOf_list_item (h2.at fun o e => k₂ i2 o z2.symm i12.symm e) (hl2.at fun o e => k₂ l2 o l2z l21 e) (getD_at hiy) fun h₄ I2 hs₄ => ?_
    have k₄ : ∀ c o, c ≠ z → c ≠ i1 → c ≠ i2 → s.heap.get? c = some o → h₄.get? c = some o := fun c o c1 c2 c4 e => hs₄.extBut c o c4 (k₂ c o c1 c2 e)
    refine wpAny_nextOf_list_item (h3.at fun o e => k₄ i3 o z3.symm i13.symm i23.symm e) (hl3.at fun o e => k₄ l3 o l3z l31 l32 e) (getD_at hiu) fun h₆ I3 hs₆ => ?_
    have k₆ : ∀ c o, c ≠ z → c ≠ i1 → c ≠ i2 → c ≠ i3 → s.heap.get? c = some o → h₆.get? c = some o := fun c o c1 c2 c4 c5 e => hs₆.extBut c o c5 (k₄ c o c1 c2 c4 e)
    have hz₆ : IsZipB h₆ z TI TO x₀ true := hs₆.extBut _ _ z3 (hs₄.extBut _ _ z2 (hs₂.extBut _ _ z1 hz₁))
    have sz₆ : h₆.objs.size = s.heap.objs.size := hs₆.1.trans (hs₄.1.trans (hs₂.1.trans hs₁.1))
    have up : ∀ (ob : Obj) c o, h₆.get? c = some o → (h₆.push ob).get? c = some o := fun ob c o e => Heap.get?_push_of_some _ e
    refine hQ h₆.objs.size _ ⟨⟨x₀, true, hx₀, up _ _ _ hz₆⟩, up _ _ _ (k₆ _ _ zTI.symm t1 t2 t3 hTI), ⟨_, _, _, up _ _ _ (k₆ _ _ zTO.symm o1 o2 o3 hTO)⟩, ?_, ?_, ?_, ?_, ?_, ?_⟩ ?_ ?_
    · exact I1.at fun o e => up _ _ _ (hs₆.extBut _ _ i13 (hs₄.extBut _ _ i12 e))
    · exact I2.at fun o e => up _ _ _ (hs₆.extBut _ _ i23 e)
    · exact I3.at fun o e => up _ _ _ e
    · exact hl1.at fun o e => up _ _ _ (k₆ l1 o l1z l11 l12 l13 e)
    · exact hl2.at fun o e => up _ _ _ (k₆ l2 o l2z l21 l22 l23 e)
    · exact hl3.at fun o e => up _ _ _ (k₆ l3 o l3z l31 l32 l33 e)
    · intro p hp
      rw [List.mem_singleton.mp hp]
      refine ⟨fun hm => ?_, Heap.get?_none_of_le (Nat.le_of_eq sz₆.symm), Heap.get?_push_size _ rfl⟩
      have := wlt _ hm
      rw [sz₆] at this
      exact Nat.lt_irrefl _ this
    · intro q o hq e
      simp only [List.mem_cons, not_or, List.not_mem_nil, or_false] at hq
      obtain ⟨c1, c2, c3, c4, c5⟩ := hq
      exact up _ _ _ (k₆ q o c1 c3 c4 c5 e)
theorem z6_done {z TI TO i1 i2 i3 l1 l2 l3 : Addr} {xs ys us : Array Value} {Q : Option Value → Shared → Prop} (hh : A.handled = none) (D : Z3Apart z TI TO i1 i2 i3 l1 l2 l3)
    (st : Z6S z TI TO i1 i2 i3 l1 l2 l3 xs ys us xs.size s.heap)
    (hQ : ∀ h', (∀ b o, b ∉ [z, TO, i1, i2, i3] → s.heap.get? b = some o → h'.get? b = some o) → Q none { s with heap := h' }) : wpAny (model prog w) A (pyNext (.ref z)) Q E s := by
  obtain ⟨⟨x₀, f, hx₀, hz⟩, hTI, ⟨a, b, c, hTO⟩, h1, h2, h3, hl1, hl2, hl3⟩ := st
  obtain ⟨⟨zTI, zTO, z1, z2, z3⟩, ⟨tTO, t1, t2, t3⟩, ⟨o1, o2, o3⟩, ⟨i12, i13⟩, i23⟩ := D.ne
  have nl := fun l (hl : l ∈ [l1, l2, l3]) => show l ≠ z ∧ l ≠ TO ∧ l ≠ i1 ∧ l ≠ i2 ∧ l ≠ i3 by simpa using D.ls l hl
  obtain ⟨l1z, l1o, l11, l12, l13⟩ := nl l1 (by simp)
  have hz0 : s.heap.get? z ≠ none := fun e => by rw [hz] at e; cases e
  refine pyNext_zipB hz (zip3_any (a := a) (b := b) (c := c) zTO.symm hx₀ hz hTI (fun h₁ hs₁ hz₁ => ?_) fun h₁ hs₁ hz₁ => ?_)
  · refine nextOf_tup_end hh (h1.extBut hs₁.extBut z1.symm) (hl1.extBut hs₁.extBut l1z) (Array.getElem?_eq_none (Nat.le_refl _)) fun h₂ e hx₂ ho => ?_
    obtain ⟨o, ho, hc⟩ := ho
    refine ⟨hx₂ _ _ z1 hz₁, fun h₃ hz₃ hs₃ => ⟨e, o, rfl, hs₃.extBut _ _ (fun q => ?_) ho, hc, hQ h₃ fun q o' hq e' => ?_⟩⟩
    · rw [q, hx₂ _ _ z1 hz₁] at ho
      injection ho with ho
      rw [← ho] at hc
      injection hc with hc
      exact absurd hc (by decide)
    · simp only [List.mem_cons, not_or, List.not_mem_nil, or_false] at hq
      exact hs₃.extBut _ _ hq.1 (hx₂ _ _ hq.2.2.1 (hs₁.extBut _ _ hq.1 e'))
  · refine nextOf_tup_end hh (h1.extBut hs₁.extBut z1.symm) (hl1.extBut hs₁.extBut l1z) (Array.getElem?_eq_none (Nat.le_refl _)) fun h₂ e hx₂ ho => ?_
    obtain ⟨o, ho, hc⟩ := ho
    refine ⟨e, o, rfl, ho, hc, hQ h₂ fun q o' hq e' => ?_⟩
    simp only [List.mem_cons, not_or, List.not_mem_nil, or_false] at hq
    exact hx₂ _ _ hq.2.2.1 (hs₁.extBut _ _ hq.1 e')
end
end
-- C15
section
section
variable {prog : Program} {w : World} {A : Around} {E : Value → Shared → Prop} {s : Shared} {h₀ : Heap} {L : Addr} {m : Str → Option Value} {env : Env}
/-- what a new zip of a tuple and two lists brings -/
noncomputable def zipLed (z TI TO i1 i2 i3 l1 l2 l3 : Addr) : Led :=
  [(z, zipB TI TO .none false), (TI, { cls := .type "tuple", data := .seq #[.ref i1, .ref i2, .ref i3] }), (TO, { cls := .type "tuple", data := .seq #[.none, .none, .none] }),
   (i1, { cls := .type "tuple_iterator", data := .fields #[.ref l1, .int 0 0] }), (i2, { cls := .type "list_iterator", data := .fields #[.ref l2, .int 0 0] }), (i3, { cls := .type "list_iterator", data := .fields #[.ref l3, .int 0 0] })]
theorem zip6_new {l1 l2 l3 : Addr} {xs us ts : Array Value} {k1 k2 k3 : Nat} {news : Led} {Q : Value → Shared → Prop} (F : Fr h₀ L s.heap m) (N : News h₀ L s.heap news)
    (hl1 : (l1, ({ cls := .type "tuple", data := .seq xs k1 } : Obj)) ∈ news) (hl2 : (l2, W.listOf us k2) ∈ news) (hl3 : (l3, W.listOf ts k3) ∈ news)
    (h : ∀ z TI TO i1 i2 i3 h', Z3Apart z TI TO i1 i2 i3 l1 l2 l3 → Fr h₀ L h' m → News h₀ L h' (zipLed z TI TO i1 i2 i3 l1 l2 l3 ++ news) → (∀ p ∈ zipLed z TI TO i1 i2 i3 l1 l2 l3, ∀ q ∈ news, @LT.lt Nat _ q.1 p.1) → Q (.ref z) { s with heap := h' }) :
    wpAny (model prog w) A (call (.type "zip") [.ref l1, .ref l2, .ref l3]) Q E s := by
  have e1 := N _ hl1
  have e2 := N _ hl2
  have e3 := N _ hl3
  have lt1 : @LT.lt Nat _ l1 s.heap.objs.size := Heap.lt_size e1.1
  have lt2 : @LT.lt Nat _ l2 s.heap.objs.size := Heap.lt_size e2.1
  have lt3 : @LT.lt Nat _ l3 s.heap.objs.size := Heap.lt_size e3.1
  have hLlt : @LT.lt Nat _ L s.heap.objs.size := F.ns.lt
  have L1 : s.heap.IsTuple l1 xs := ⟨_, e1.1, rfl, _, rfl⟩
  have L2 : s.heap.IsList l2 us := ⟨_, e2.1, rfl, _, rfl⟩
  have L3 : s.heap.IsList l3 ts := ⟨_, e3.1, rfl, _, rfl⟩
  refine call_zip3 (wpAny_pyIter_tuple L1 (wpAny_pyIter_list (L2.push _) (wpAny_pyIter_list ((L3.push _).push _) fun h' hz hTI hTO hk => ?_)))
  have z1 : (s.heap.push { cls := .type "tuple_iterator", data := .fields #[.ref l1, .int 0 0] }).objs.size = s.heap.objs.size + 1 := Heap.size_push ..
  have z2 : ((s.heap.push { cls := .type "tuple_iterator", data := .fields #[.ref l1, .int 0 0] }).push { cls := .type "list_iterator", data := .fields #[.ref l2, .int 0 0] }).objs.size = s.heap.objs.size + 2 := by rw [Heap.size_push, z1]
  have z3 : (((s.heap.push { cls := .type "tuple_iterator", data := .fields #[.ref l1, .int 0 0] }).push { cls := .type "list_iterator", data := .fields #[.ref l2, .int 0 0] }).push { cls := .type "list_iterator", data := .fields #[.ref l3, .int 0 0] }).objs.size = s.heap.objs.size + 3 := by rw [Heap.size_push, z2]
  dsimp only at hz hTI hTO hk ⊢
  rw [z3] at hz hTI hTO
  rw [z1, z2] at hTI
  rw [z3]
  have I3 : h'.get? (s.heap.objs.size + 2) = some { cls := .type "list_iterator", data := .fields #[.ref l3, .int 0 0] } := hk _ _ (by rw [← z2]; exact Heap.get?_push_size _ rfl)
  have I2 : h'.get? (s.heap.objs.size + 1) = some { cls := .type "list_iterator", data := .fields #[.ref l2, .int 0 0] } := hk _ _ (Heap.get?_push_of_some _ (by rw [← z1]; exact Heap.get?_push_size _ rfl))
  have I1 : h'.get? s.heap.objs.size = some { cls := .type "tuple_iterator", data := .fields #[.ref l1, .int 0 0] } := hk _ _ (Heap.get?_push_of_some _ (Heap.get?_push_of_some _ (Heap.get?_push_size _ rfl)))
  have up : ∀ c o, s.heap.get? c = some o → h'.get? c = some o := fun c o e => hk c o (Heap.get?_push_of_some _ (Heap.get?_push_of_some _ (Heap.get?_push_of_some _ e)))
  clear hk
  generalize hn : s.heap.objs.size = n at *
  have fr : ∀ c, @LE.le Nat _ n c → h₀.get? c = none := fun c hc => fresh_none F (by rw [hn]; exact hc)
  refine h (n + 3 + 2) (n + 3) (n + 3 + 1) n (n + 1) (n + 2) h' (z3apart_new lt1 lt2 lt3) (F.keeps up) (fun p hp => ?_) fun p hp q hq => ?_
  · rcases List.mem_append.mp hp with hp | hp
    · have hge : @LE.le Nat _ n p.1 := six_ge n p.1 (List.mem_map_of_mem (f := (·.1)) hp)
      refine ⟨?_, fun e => Nat.lt_irrefl _ (Nat.lt_of_lt_of_le hLlt (e ▸ hge)), fr _ hge⟩
      simp only [zipLed, List.mem_cons, List.not_mem_nil, or_false] at hp
      rcases hp with rfl | rfl | rfl | rfl | rfl | rfl
      · exact hz
      · exact hTI
      · exact hTO
      · exact I1
      · exact I2
      · exact I3
    · exact ⟨up _ _ (N p hp).1, (N p hp).2⟩
  · have hq' : @LT.lt Nat _ q.1 n := by rw [← hn]; exact Heap.lt_size (N q hq).1
    exact Nat.lt_of_lt_of_le hq' (six_ge n p.1 (List.mem_map_of_mem (f := (·.1)) hp))
inductive BlockZ (prog : Program) (w : World) (A : Around) (h₀ : Heap) (L : Addr) (m : Str → Option Value) (env : Env) (elt : PySem.Expr) (y : Str) (ifs : List PySem.Expr) (scope : Scope) (cl : List (Str × Addr)) (Fin : Shared → List Value → Led → Prop) (xv : Value) (s : Shared) : Prop
  | mk (z TI TO i1 i2 i3 l1 l2 l3 : Addr) (xs us ts : Array Value) (k1 k2 k3 : Nat) (news : Led) (J : Nat → List Value → Led → Prop)
    (q1 : xv = .ref z) (q2 : Z3Apart z TI TO i1 i2 i3 l1 l2 l3) (q3 : Fr h₀ L s.heap m) (q4 : News h₀ L s.heap (zipLed z TI TO i1 i2 i3 l1 l2 l3 ++ news)) (q5 : (∀ p ∈ news, p.1 ∉ [z, TO, i1, i2, i3])) (q6 : (l1, ({ cls := .type "tuple", data := .seq xs k1 } : Obj)) ∈ news) (q7 : (l2, W.listOf us k2) ∈ news) (q8 : (l3, W.listOf ts k3) ∈ news) (q9 : us.size = xs.size) (q10 : ts.size = xs.size) (q11 : xs.size ≤ 100) (q12 : J 0 [] news) (q13 : (∀ i T oC C D m₂ zs news₁ h tk own (E' : Value → Shared → Prop), i < xs.size → m₂ y = some (.ref T) → s.toks ≤ tk → J i zs news₁ → NsObj oC m₂ → Fr h₀ L h m → News h₀ L h ((C, oC) :: (D, lst zs) :: (own ++ ((T, ({ cls := .type "tuple", data := .seq #[xs.getD i .none, us.getD i .none, ts.getD i .none] } : Obj)) :: news₁))) → C ≠ D → OffT C D [z, TO, i1, i2, i3] news₁ → OffT C D [z, TO, i1, i2, i3] [(T, ({ cls := .type "tuple", data := .seq #[xs.getD i .none, us.getD i .none, ts.getD i .none] } : Obj))] → (∀ q ∈ news₁, T ≠ q.1) → ∀ g t, TestsAt prog w A ifs (compEnvC scope cl C env) (fun ok s₃ => if ok = true then wpAny (model prog w) A (eval elt (compEnvC scope cl C env)) (fun y s₄ => TEnd h₀ L m { s with heap := g, toks := t } C oC D (lst zs) [z, TO, i1, i2, i3] own (J (i + 1) (zs ++ [y])) s₄) E' s₃ else TEnd h₀ L m { s with heap := g, toks := t } C oC D (lst zs) [z, TO, i1, i2, i3] own (J (i + 1) zs) s₃) E' { s with heap := h, toks := tk })) (q14 : (∀ i zs nw, J i zs nw → zs.length ≤ i)) (q15 : ∀ zs nw, J xs.size zs nw → Fin s zs nw) : BlockZ prog w A h₀ L m env elt y ifs scope cl Fin xv s
theorem all5 {P : Addr → Prop} {a b c d e : Addr} (h1 : P a) (h2 : P b) (h3 : P c) (h4 : P d) (h5 : P e) : ∀ x ∈ [a, b, c, d, e], P x := by
  intro x hx
  simp only [List.mem_cons, List.not_mem_nil, or_false] at hx
  rcases hx with rfl | rfl | rfl | rfl | rfl <;> assumption
theorem all9 {P : Addr → Prop} {a b c d e f g h i : Addr} (h1 : P a) (h2 : P b) (h3 : P c) (h4 : P d) (h5 : P e) (h6 : P f) (h7 : P g) (h8 : P h) (h9 : P i) : ∀ x ∈ [a, b, c, d, e, f, g, h, i], P x := by
  intro x hx
  simp only [List.mem_cons, List.not_mem_nil, or_false] at hx
  rcases hx with rfl | rfl | rfl | rfl | rfl | rfl | rfl | rfl | rfl <;> assumption
theorem sub59 {x z TI TO i1 i2 i3 l1 l2 l3 : Addr} (h : x ∈ [z, TO, i1, i2, i3]) : x ∈ [z, TI, TO, i1, i2, i3, l1, l2, l3] :=
  all5 (P := fun x => x ∈ [z, TI, TO, i1, i2, i3, l1, l2, l3]) (by simp) (by simp) (by simp) (by simp) (by simp) x h
theorem zip_news {h : Heap} {z TI TO i1 i2 i3 l1 l2 l3 : Addr} {news : Led} (N : News h₀ L h (zipLed z TI TO i1 i2 i3 l1 l2 l3 ++ news)) :
    (h.get? z = some (zipB TI TO .none false) ∧ z ≠ L ∧ h₀.get? z = none) ∧ (h.get? TI = some { cls := .type "tuple", data := .seq #[.ref i1, .ref i2, .ref i3] } ∧ TI ≠ L ∧ h₀.get? TI = none) ∧ (h.get? TO = some { cls := .type "tuple", data := .seq #[.none, .none, .none] } ∧ TO ≠ L ∧ h₀.get? TO = none) ∧
      (h.get? i1 = some { cls := .type "tuple_iterator", data := .fields #[.ref l1, .int 0 0] } ∧ i1 ≠ L ∧ h₀.get? i1 = none) ∧ (h.get? i2 = some { cls := .type "list_iterator", data := .fields #[.ref l2, .int 0 0] } ∧ i2 ≠ L ∧ h₀.get? i2 = none) ∧ (h.get? i3 = some { cls := .type "list_iterator", data := .fields #[.ref l3, .int 0 0] } ∧ i3 ≠ L ∧ h₀.get? i3 = none) :=
  ⟨N _ (.head _), N _ (.tail _ (.head _)), N _ (.tail _ (.tail _ (.head _))), N _ (.tail _ (.tail _ (.tail _ (.head _)))), N _ (.tail _ (.tail _ (.tail _ (.tail _ (.head _))))), N _ (.tail _ (.tail _ (.tail _ (.tail _ (.tail _ (.head _))))))⟩
theorem z6_frame {z TI TO i1 i2 i3 l1 l2 l3 : Addr} {xs us ts : Array Value} : ∀ i h h', Z6S z TI TO i1 i2 i3 l1 l2 l3 xs us ts i h → (∀ b ∈ [z, TI, TO, i1, i2, i3, l1, l2, l3], ∀ o, h.get? b = some o → h'.get? b = some o) → Z6S z TI TO i1 i2 i3 l1 l2 l3 xs us ts i h' :=
  fun i h h' ⟨⟨x, f, hx, hz⟩, hb⟩ hk => ⟨⟨x, f, hx, hk z (by simp) _ hz⟩, hb.at fun c hc o e => hk c (List.mem_cons_of_mem _ hc) o e⟩
theorem ListComp_Z {elt iter : PySem.Expr} {y : Str} {py : Pos} {ifs : List PySem.Expr} {scope : Scope} {cl : List (Str × Addr)} {pos : Pos} {Q : Value → Shared → Prop} (hh : A.handled = none) (F₀ : Fr h₀ L s.heap m)
    (hclos : closureFor scope env = pure cl) (hcell : ∀ y ∈ scope.names, y.2 ≠ .cell) (hkind : scope.kind = .function)
    (hnames : ∀ y ∈ scope.names, y.2 = .local → scope.names.lookup y.1 = some .local) (hy : scope.names.lookup y = some .local)
    (h : wpAny (model prog w) A (eval iter env) (BlockZ prog w A h₀ L m env elt y ifs scope cl (FinTE h₀ L m Q)) E s)
    (hs : ∀ x, foldedSetIterable iter env x = pure x := by intro _; rfl) :
    wpAny (model prog w) A (eval (.ListComp elt [⟨.Name y py, iter, ifs, 0⟩] scope pos) env) Q E s := by
  rw [eval_ListComp]
  refine wpAny_comprehension_free (use := none) rfl hs hclos hkind hnames (wpAny_mono h (fun xv s₂ h₂ => ?_) fun _ _ e => e)
  obtain ⟨z, TI, TO, i1, i2, i3, l1, l2, l3, xs, us, ts, k1, k2, k3, news, J, rfl, D, F, N, hoff, hl1, hl2, hl3, hu, ht, hsz, h0, step, hlen, fin⟩ := h₂
  have Nn : News h₀ L s₂.heap news := fun p hp => N p (List.mem_append_right _ hp)
  obtain ⟨hz, hTI, hTO, h1, h2, h3⟩ := zip_news N
  have st : Z6S z TI TO i1 i2 i3 l1 l2 l3 xs us ts 0 s₂.heap := ⟨⟨_, _, .inl rfl, hz.1⟩, hTI.1, ⟨_, _, _, hTO.1⟩, ⟨_, h1.1, rfl, rfl⟩, ⟨_, h2.1, rfl, rfl⟩, ⟨_, h3.1, rfl, rfl⟩, ⟨_, (Nn _ hl1).1, rfl, _, rfl⟩, ⟨_, (Nn _ hl2).1, rfl, _, rfl⟩, ⟨_, (Nn _ hl3).1, rfl, _, rfl⟩⟩
  refine pyIter_zipB hz.1 ?_
  have hitem : ∀ i (s : Shared) (Q : Option Value → Shared → Prop) (E : Value → Shared → Prop), i < xs.size → Z6S z TI TO i1 i2 i3 l1 l2 l3 xs us ts i s.heap → s₂.toks ≤ s.toks →
      (∀ v h' tk, (∃ T, v = Value.ref T) → Z6S z TI TO i1 i2 i3 l1 l2 l3 xs us ts (i + 1) h' → s₂.toks ≤ tk → (∀ p ∈ XL6 xs us ts i v, p.1 ∉ [z, TO, i1, i2, i3] ∧ s.heap.get? p.1 = none ∧ h'.get? p.1 = some p.2) → (∀ b o, b ∉ [z, TO, i1, i2, i3] → s.heap.get? b = some o → h'.get? b = some o) → Q (some v) { s with heap := h', toks := tk }) → wpAny (model prog w) A (pyNext (.ref z)) Q E s :=
    fun i s Q E hi hst htk hQ => z6_item D hi (by lia) (by lia) hst fun T h' hst' hX hk => hQ (.ref T) h' s.toks ⟨T, rfl⟩ hst' htk hX hk
  refine block_TX (P := fun i v _ _ => ∃ T, v = Value.ref T) (Md := fun i v h tk => (∃ T, v = Value.ref T) ∧ Z6S z TI TO i1 i2 i3 l1 l2 l3 xs us ts (i + 1) h) (St := Z6S z TI TO i1 i2 i3 l1 l2 l3 xs us ts) (XL6 xs us ts)
    (fp := [z, TI, TO, i1, i2, i3, l1, l2, l3]) (wr := [z, TO, i1, i2, i3]) (n := xs.size)
    ⟨fun b hb => sub59 hb, z6_frame, fun i s Q E hi hst hn hQ => hitem i s Q E hi hst hn fun v h' tk hP hst' htk _ hk => hQ v h' tk ⟨hP, hst'⟩ htk hk, fun i v s Q E hm hQ => go_name (hQ s.heap hm.1 hm.2 fun _ _ _ e => e), fun s Q E hst hQ => z6_done hh D hst fun h' hk => hQ h' s.toks hk⟩
    (fun i s QQ R E E2 hi hst htk hR hQ => hitem i s R E hi hst htk fun v h' tk a b c d e => hR v _ (go_name (hQ v h' tk a b c d e))) (fun s' Q E hst hq => by obtain ⟨⟨x, f, _, hz⟩, _⟩ := hst; exact pyIter_zipB hz hq) (by rw [sizeLine_eq]; lia) hcell hkind st ?hfp F Nn ?hLf ?hwr hoff J h0
    (V := fun i v m₃ tk => m₃ y = some v ∧ ∃ T, v = Value.ref T) (asg_name (P := fun i v _ => ∃ T, v = Value.ref T) (fun _ _ _ h => h) hkind hy) ?step hlen ?fin
  case hfp => exact all9 (P := fun b => b < s₂.heap.objs.size) (Heap.lt_size hz.1) (Heap.lt_size hTI.1) (Heap.lt_size hTO.1) (Heap.lt_size h1.1) (Heap.lt_size h2.1) (Heap.lt_size h3.1) (Heap.lt_size (Nn _ hl1).1) (Heap.lt_size (Nn _ hl2).1) (Heap.lt_size (Nn _ hl3).1)
  case hLf => exact fun hm => all9 (P := fun b => b ≠ L) hz.2.1 hTI.2.1 hTO.2.1 h1.2.1 h2.2.1 h3.2.1 (Nn _ hl1).2.1 (Nn _ hl2).2.1 (Nn _ hl3).2.1 L hm rfl
  case hwr => exact all5 (P := fun b => h₀.get? b = none) hz.2.2 hTO.2.2 h1.2.2 h2.2.2 h3.2.2
  case step =>
    rintro i v oC C D' m₂ zs news₁ h tk own E' hi ⟨hv, T, rfl⟩ htk hJ hown hmem hst hoC F' N' hCD hof hofX hnew
    exact step i T oC C D' m₂ zs news₁ h tk own E' hi hv htk hJ hoC F' N' hCD hof hofX (fun q hq => hnew (T, _) List.mem_cons_self q hq) h tk
  case fin =>
    intro D' C h' tk m' zs news' F' N' o1 hn hC₀ hD₀ hCL hDL hCD offC hJ
    refine ⟨m', hn, fun h'' hs'' => fin zs _ hJ D' h'' tk (F'.change hs'' hCL hC₀) (fun p hp => ?_) o1⟩
    refine ⟨hs''.extBut _ _ ?_ (N' p hp).1, (N' p hp).2⟩
    rcases List.mem_cons.mp hp with rfl | hp
    · exact Ne.symm hCD
    · exact offC p hp
end
end
-- C16
section
section
variable {prog : Program} {w : World} {A : Around} {E : Value → Shared → Prop} {s : Shared} {h₀ : Heap} {env : Env}
/-- a loop over a range with a step -/
theorem loop_rangeC {y : Str} {py : Pos} {body orelse : List Stmt} {r : Addr} {a₀ b₀ c₀ : Int} {t₀ u₀ v₀ : Tok} {n : Nat} {m : Str → Option Value} {news : Led} {Q : Flow → Shared → Prop}
    (hh : A.handled = none) (hr : IsRange s.heap r a₀ b₀ c₀ t₀ u₀ v₀) (hsmall : Builtin.Range.small a₀ b₀ c₀ = true) (hn : Builtin.Range.rangeSize a₀ b₀ c₀ = (n : Int)) (hy : env.kindOf y = some .local) (hp : (env.scope.kind == .class || (env.scope.kind == .module && env.locals != env.globals)) = false)
    (F : Fr h₀ env.locals s.heap m) (N : News h₀ env.locals s.heap news) (J : Nat → (Str → Option Value) → Led → Prop) (h0 : J 0 m news)
    (step : ∀ (I : Addr) (oI : Obj) i u m₁ news₁ h tk, i < n → s.toks ≤ tk → J i m₁ news₁ → (∀ p ∈ news₁, p.1 ∉ [I]) → Fr h₀ env.locals h (fun z => if z = y then some (.int (a₀ + (i : Int) * c₀) u) else m₁ z) → News h₀ env.locals h (news₁ ++ [(I, oI)]) →
      ∀ g t, wpAny (model prog w) A (execs body env) (FEnd h₀ env.locals { s with heap := g, toks := t } [I] [(I, oI)] (J (i + 1)) Q) E { s with heap := h, toks := tk })
    (done : ∀ h' tk m' news', s.toks ≤ tk → Fr h₀ env.locals h' m' → News h₀ env.locals h' news' → J n m' news' → wpAny (model prog w) A (execs orelse env) Q E { s with heap := h', toks := tk }) :
    wpAny (model prog w) A (pyIter (.ref r)) (fun it s₂ => LoopT prog w A h₀ env (.Name y py) body orelse Q E it s₂) E s := by
  refine wpAny_pyIter_range hr hsmall ?_
  have hnew := next_is_new F
  have up : ∀ b o' o, s.heap.get? b = some o' → (s.heap.push o).get? b = some o' := fun b o' o e => Heap.get?_push_of_some _ e
  refine loop_of (P := fun i v _ => ∃ t, v = .int (a₀ + (i : Int) * c₀) t) (TTurns.ofK (KTurns.ofWalks (Walks.range hh s.heap.objs.size a₀ c₀ n) fun i v s Q E hst hQ => ?go) _) (fun _ _ _ h => h) hy hp ?_ ?_ ?_ ?_ (F.push _) (fun p hp => ⟨up _ _ _ (N p hp).1, (N p hp).2⟩) J h0 ?_ done
  case go => exact go_name hQ
  · intro hm
    exact absurd F.ns.lt ((List.mem_singleton.mp hm) ▸ Nat.lt_irrefl _)
  · intro b hb
    rw [List.mem_singleton.mp hb]
    exact hnew
  · intro p hp hI
    exact absurd (Heap.lt_size (N p hp).1) ((List.mem_singleton.mp hI) ▸ Nat.lt_irrefl _)
  · show IsRangeIter _ _ _ _ _
    rw [hn]
    simpa using Heap.get?_push_size _ rfl
  · rintro i v m₁ news₁ h tk own hi ⟨t, rfl⟩ htk hJ hown hmem hst' hoff F' N' g t'
    obtain ⟨oI, hI, N''⟩ := own_one (hmem _ (List.mem_singleton.mpr rfl) hnew _ hst') hown N'
    exact wpAny_mono (step s.heap.objs.size oI i t m₁ news₁ h tk hi htk hJ hoff F' N'' g t') (fun f s₂ h₂ => fend_own hI h₂) fun _ _ e => e
end
end
-- D2
section
local macro_rules | `(tactic| k_all) => `(tactic| assumption)
local macro_rules | `(tactic| walk_at "eval Name") => `(tactic| (k_here; k_dflt (refine' nameX_L ?F ?v ?_ ?a ?b; (case F => k_asm); (case a => rfl); (case b => rfl); (case v => assumption); k_whole)))
local macro_rules | `(tactic| walk_at "steps to sorted") => `(tactic| repeat' ((fail_if_success (with_reducible show wpAny _ _ (call (Value.builtin "sorted") _) _ _ _)); first | (k_unfold; (try dsimp only)) | (k_end; wrow_close) | (walk1; all_goals (try dsimp only)) | (dsimp only; walk1) | (leave1; walk_say "STEP leave1"; try dsimp only)))
local macro_rules | `(tactic| walk_at "steps to compare") => `(tactic| repeat' ((fail_if_success (with_reducible show wpAny _ _ (compareOp _ _ _) _ _ _)); first | (k_unfold; (try dsimp only)) | (k_end; wrow_close) | (walk1; all_goals (try dsimp only)) | (dsimp only; walk1) | (leave1; walk_say "STEP leave1"; try dsimp only)))
noncomputable def forBody2 : Stmt → List Stmt
  | .For _ _ b _ _ => b
  | _ => []
noncomputable def dB : List Stmt := (((((B22[1]?).elim [] forBody2)[0]?).elim [] forBody2)[0]?).elim [] forBody2
noncomputable def pcS (x : Str) (p q : Int) : Str := ⟨((x.cps.toList.drop p.toNat).take (q - p).toNat).toArray⟩
theorem slice_pc {x : Str} {p q : Int} (h : 0 ≤ p ∧ p ≤ q ∧ q ≤ x.cps.size) : Txt.slice x (some p) (some q) = pcS x p q :=
  (show Txt.slice x (some p) (some q) = StrLaws.sliceText x (some p) (some q) from rfl).trans (StrLaws.sliceText_plain ⟨h.1, h.2.1, by rw [Array.length_toList]; exact h.2.2⟩)
theorem pc_size {x : Str} {p q : Int} (h : 0 ≤ p ∧ p ≤ q ∧ q ≤ x.cps.size) : (pcS x p q).cps.size = (q - p).toNat := by
  show (((x.cps.toList.drop p.toNat).take (q - p).toNat).toArray).size = _
  rw [List.size_toArray, List.length_take, List.length_drop, Array.length_toList]
  lia
section
variable {prog : Program} {w : World} {A : Around} {E : Value → Shared → Prop} {value slice : PySem.Expr} {x : Str} {t : Tok} {h₀ h : Heap} {L : Addr} {m : Str → Option Value} {news : Led} {Q : Value → Shared → Prop} {i j : Int} {ui uj : Tok} {G : Array GenState} {dr : Drawn} {tk : Nat} {os : OsState}
theorem slice_sled (hF : Fr h₀ L h m) (hN : News h₀ L h news) (hb : 0 ≤ i ∧ i ≤ j ∧ j ≤ x.cps.size) (h8 : x.cps.size ≤ 1000) (hQ : ∀ h' t' k, Fr h₀ L h' m → News h₀ L h' news → Q (.str (pcS x i j) t') ⟨h', G, dr, k, os⟩)
    (hs : subscripted slice false (.str x t) (.ref h.objs.size) = operate [.ref h.objs.size, .str x t] (getItem (.str x t) (.ref h.objs.size)) := by with_unfolding_all rfl)
    (ht : ∀ r, letTemporaryGo value (.str x t) r = pure () := by intro _; with_unfolding_all rfl) :
    wpAny (model prog w) A (subscriptTail value slice (.str x t) (.ref h.objs.size)) Q E ⟨h.push { cls := .type "slice", data := .fields #[.int i ui, .int j uj, .none] }, G, dr, tk, os⟩ :=
  slice_strN_ss_len (s := ⟨h, G, dr, tk, os⟩) hF hN (fun h' t' k F N _ => by rw [slice_pc hb]; exact hQ h' t' k F N) hs ht (by rw [sizeLine_eq]; show x.cps.size ≤ _; lia)
end
theorem z_perm {e r d1 d2 d3 d4 : Addr × Obj} {Z rest : Led} (h : e ∈ r :: (Z ++ (d1 :: d2 :: d3 :: d4 :: rest))) : e ∈ Z ++ (d1 :: d2 :: d3 :: d4 :: r :: rest) := by
  simp only [List.mem_append, List.mem_cons] at h ⊢; grind
theorem pc_lt {x : Str} {p q : Int} (hx : ∀ c ∈ x.cps.toList, c < 1000) : ∀ c ∈ (pcS x p q).cps.toList, c < 1000 := fun c hc =>
  hx c (List.mem_of_mem_drop (List.mem_of_mem_take hc))
theorem z_perm2 {e r d1 d2 d3 d4 d8 d9 : Addr × Obj} {Z rest : Led} (h : e ∈ Z ++ (r :: d1 :: d2 :: d3 :: rest)) : e ∈ d9 :: d8 :: r :: (Z ++ (d1 :: d2 :: d3 :: d4 :: rest)) := by
  simp only [List.mem_append, List.mem_cons] at h ⊢; grind
theorem z_perm3 {e r d1 d2 d3 d4 : Addr × Obj} {rest : Led} (h : e ∈ r :: d1 :: d2 :: d3 :: rest) : e ∈ d1 :: d2 :: d3 :: d4 :: r :: rest := by
  simp only [List.mem_cons] at h ⊢; grind
theorem z_perm4 {e t c d : Addr × Obj} {a b : Led} (h : e ∈ t :: c :: d :: (a ++ b)) : e ∈ c :: d :: (a ++ (t :: b)) := by
  simp only [List.mem_append, List.mem_cons] at h ⊢; grind
theorem off_zip {z TI TO i1 i2 i3 l1 l2 l3 : Addr} {news : Led} (h : ∀ p ∈ zipLed z TI TO i1 i2 i3 l1 l2 l3, ∀ q ∈ news, @LT.lt Nat _ q.1 p.1) : ∀ q ∈ news, q.1 ∉ [z, TO, i1, i2, i3] := fun q hq hm => by
  simp only [List.mem_cons, List.not_mem_nil, or_false] at hm
  have k : ∀ p ∈ zipLed z TI TO i1 i2 i3 l1 l2 l3, q.1 ≠ p.1 := fun p hp e => Nat.lt_irrefl _ (show @LT.lt Nat _ p.1 p.1 from e ▸ h p hp q hq)
  rcases hm with e | e | e | e | e
  · exact k (z, zipB TI TO .none false) (by simp [zipLed]) e
  · exact k (TO, { cls := .type "tuple", data := .seq #[.none, .none, .none] }) (by simp [zipLed]) e
  · exact k (i1, { cls := .type "tuple_iterator", data := .fields #[.ref l1, .int 0 0] }) (by simp [zipLed]) e
  · exact k (i2, { cls := .type "list_iterator", data := .fields #[.ref l2, .int 0 0] }) (by simp [zipLed]) e
  · exact k (i3, { cls := .type "list_iterator", data := .fields #[.ref l3, .int 0 0] }) (by simp [zipLed]) e
noncomputable def colRow (k a c : Int) : List PyData := if a = c then [] else [.tuple [.int k, .int a, .int c]]
noncomputable def colR (p q : Int × Int) (i : Nat) : List PyData := (List.range i).flatMap fun j => if j = 0 then colRow 1 p.1 q.1 else colRow 2 p.2 q.2
theorem colRow_le (k a c : Int) : (colRow k a c).length ≤ 1 := by unfold colRow; split <;> simp
theorem colR_next (p q : Int × Int) (i : Nat) : colR p q (i + 1) = colR p q i ++ (if i = 0 then colRow 1 p.1 q.1 else colRow 2 p.2 q.2) := by
  unfold colR; rw [List.range_succ, List.flatMap_append]; simp
theorem colR_le (p q : Int × Int) : ∀ i, (colR p q i).length ≤ i
  | 0 => by simp [colR]
  | i + 1 => by
    rw [colR_next, List.length_append]
    have h1 := colR_le p q i
    have h2 := colRow_le 1 p.1 q.1
    have h3 := colRow_le 2 p.2 q.2
    split <;> lia
noncomputable def CJ (p q : Int × Int) (base : Led) (i : Nat) (zs : List Value) (nw : Led) : Prop := ∃ own, nw = own ++ base ∧ RVA own zs (colR p q i) ∧ zs.length = (colR p q i).length ∧ ∀ e ∈ own, ∀ r ∈ base, e.1 ≠ r.1
noncomputable def dueRow (p b : Int) (x y : Str) : PyData := .tuple [.int p, .int b, .bool (decide (x.cps.toList.Perm y.cps.toList)), .bool true, .bool false, .list (colR (colsS x) (colsS y) 2)]
theorem z_perm5 {e d r : Addr × Obj} {a b : Led} (h : e ∈ d :: r :: (a ++ b)) : e ∈ d :: (a ++ (r :: b)) := by
  simp only [List.mem_append, List.mem_cons] at h ⊢; grind
theorem z_perm6 {e t c d : Addr × Obj} {o a b : Led} (h : e ∈ c :: d :: (o ++ (t :: a ++ b))) : e ∈ t :: c :: d :: (o ++ (a ++ b)) := by
  simp only [List.mem_append, List.mem_cons] at h ⊢; grind
theorem z_perm7 {e r t d d5 d4 dt : Addr × Obj} {o b : Led} (h : e ∈ r :: ((t :: d :: o) ++ b)) : e ∈ t :: r :: d :: (o ++ (d5 :: d4 :: dt :: b)) := by
  simp only [List.mem_append, List.mem_cons] at h ⊢; grind
theorem lt_allD {d : Nat} : ∀ {l : Led}, AllLt d l → ∀ p ∈ l, @LT.lt Nat _ p.1 d
  | [], _, _, hp => nomatch hp
  | _ :: _, h, p, hp => by
    rcases List.mem_cons.mp hp with rfl | hp
    · exact h.1
    · exact lt_allD h.2 p hp
theorem z_perm8 {e r t d d5 d4 dt : Addr × Obj} {o b : Led} (h : e ∈ t :: r :: d :: (o ++ b)) : e ∈ t :: d :: r :: (o ++ (d5 :: d4 :: dt :: b)) := by
  simp only [List.mem_append, List.mem_cons] at h ⊢; grind
theorem z_perm9 {e r t d : Addr × Obj} {o b : Led} (h : e ∈ r :: ((t :: d :: o) ++ b)) : e ∈ t :: r :: d :: (o ++ b) := by
  simp only [List.mem_append, List.mem_cons] at h ⊢; grind
theorem due_turn (w : World) (x : Str) (tx : Tok) (hx : ∀ c ∈ x.cps.toList, c = 102 ∨ c = 105 ∨ c = 108) (hl : x.cps.size = 8) (p b : Int) (hp : 0 ≤ p ∧ p + 2 * b ≤ 8) (hb : 1 ≤ b ∧ b ≤ 4) (tp tb : Tok) (R : Addr) (rvs : List Value) (kr : Nat) (rest : Led)
    (mean : ExcName → Option Value) (mg mb : Str → Option Value) (dp un : Nat) (gd : Option (List Code)) (cn : Str) (cs : Scope) (a' : Addr) (ccd : Value) (cl : List (Str × Addr)) (outer : List Env) (base g : Heap) (L L' : Addr)
    (m : Str → Option Value) (s : Shared) (Q : Flow → Shared → Prop) (E : Value → Shared → Prop)
    (hE : PassesOwn (model rr.prog w) ((ktrTop dp un gd cn cs L a' ccd cl outer).deeper (envOf (Str.ofString "_law_due") C22 L' 222 (.ref 221))) (envOf (Str.ofString "_law_due") C22 L' 222 (.ref 221)) E)
    (hr : m (Str.ofString "rows") = some (.ref R)) (hw : m (Str.ofString "word") = some (.str x tx)) (hs : m (Str.ofString "size") = some (.int b tb)) (hst : m (Str.ofString "start") = some (.int p tp)) :
    Below (ktrTop dp un gd cn cs L a' ccd cl outer) base (envX cn cs L a' ccd cl :: outer) g → Fr g L' s.heap m → (KK w.params).In g → News g L' s.heap ((R, W.listOf rvs.toArray kr) :: rest) → Top qv (looseW qv loose) mean mg mb g → cs.kind = .function →
    dp + 190 < recursionLimit → un + 1480 < cLine → (∀ p ∈ rest, p.1 ≠ R) → rvs.length ≤ 500 →
    (∀ h' tk m' v k own2, m' (Str.ofString "rows") = some (.ref R) → m' (Str.ofString "word") = some (.str x tx) → m' (Str.ofString "size") = some (.int b tb) → Fr g L' h' m' → News g L' h' ((R, W.listOf (rvs ++ [v]).toArray k) :: (own2 ++ rest)) → RV own2 v (dueRow p b (pcS x p (p + b)) (pcS x (p + b) (p + 2 * b))) → (∀ e ∈ own2, ∀ q ∈ (R, W.listOf rvs.toArray kr) :: rest, e.1 ≠ q.1) → Q .next { s with heap := h', toks := tk }) →
      wpAny (model rr.prog w) ((ktrTop dp un gd cn cs L a' ccd cl outer).deeper (envOf (Str.ofString "_law_due") C22 L' 222 (.ref 221))) (execs dB (envOf (Str.ofString "_law_due") C22 L' 222 (.ref 221))) Q E s := by
  w_on
  k_fill
  intro B' F X' N T' hk hd hu hne0 hrl hQ
  walk_at "steps to subscriptTail"
  refine slice_sled F N ⟨by lia, by lia, by lia⟩ (by lia) fun h1 t1 k1 F1 N1 => ?_
  clear F N
  walk_at "steps to subscriptTail"
  refine slice_sled F1 N1 ⟨by lia, by lia, by lia⟩ (by lia) fun h2 t2 k2 F2 N2 => ?_
  clear F1 N1
  have hc1 : (pcS x p (p + b)).cps.size = (p + b - p).toNat := pc_size ⟨by lia, by lia, by lia⟩
  have hc2 : (pcS x (p + b) (p + 2 * b)).cps.size = (p + 2 * b - (p + b)).toNat := pc_size ⟨by lia, by lia, by lia⟩
  walk_at "steps to call"
  rename Fr _ _ _ _ => F3
  rename News _ _ _ _ => N3
  refine (spec_columns w (pcS x p (p + b)) t1 _ (by lia)).use (by k_asm) F3 (by k_asm) N3 (by k_asm) rfl (by ktr_room) (by ktr_units) ?_
  rintro r4 nw4 h4 tk4 ⟨D4, u1, u2, rfl, rfl⟩ F4 N4
  dsimp only [List.cons_append, List.nil_append] at N4 ⊢
  clear F3 N3
  walk_at "steps to call"
  refine (spec_columns w (pcS x (p + b) (p + 2 * b)) t2 _ (by lia)).use (by k_asm) F4 (by k_asm) N4 (by k_asm) rfl (by ktr_room) (by ktr_units) ?_
  rintro r5 nw5 h5 tk5 ⟨D5, u3, u4, rfl, rfl⟩ F5 N5
  dsimp only [List.cons_append, List.nil_append] at N5 ⊢
  clear F4 N4
  walk_at "steps to zip"
  refine zip6_new F5 N5 (by k_dflt k_mem) (by k_dflt k_mem) (by k_dflt k_mem) fun z TI TO i1 i2 i3 h6 DD F6 N6 lt6 => ?_
  replace N6 : News g L' h6 ((R, W.listOf rvs.toArray kr) :: (zipLed z TI TO i1 i2 i3 _ D4 D5 ++ _)) := fun e he => N6 e (z_perm he)
  clear F5 N5
  walk_at "steps to sorted"
  rename Fr _ _ _ _ => F7
  rename News _ _ _ _ => N7
  have hxs : ∀ c ∈ x.cps.toList, c < 1000 := fun c hc => by rcases hx c hc with rfl | rfl | rfl <;> decide
  refine sorted_sign (by rfl) (by lia) F7 N7 fun D8 vs8 ss8 e8 h8 tk8 F8 N8 lt8 hS8 hp8 hs8 => ?_
  clear F7 N7
  walk_at "steps to sorted"
  refine sorted_sign (by rfl) (by lia) F8 N8 fun D9 vs9 ss9 e9 h9 tk9 F9 N9 lt9 hS9 hp9 hs9 => ?_
  clear F8 N8
  walk_at "steps to compare"
  obtain ⟨as8, r8⟩ := RV.lst (l := _) (T := D8) (vs := vs8.toArray) (n := e8) (List.mem_cons_of_mem _ List.mem_cons_self) (strs_rva hS8) h9 (fun e he => (N9 e he).1)
  obtain ⟨as9, r9⟩ := RV.lst (l := _) (T := D9) (vs := vs9.toArray) (n := e9) List.mem_cons_self (strs_rva hS9) h9 (fun e he => (N9 e he).1)
  refine PyProof.Rows.eq_dataH r8 r9 (shapedS _ (okS_sorted (pc_lt hxs) hp8)) (shapedS _ (okS_sorted (pc_lt hxs) hp9)) (by ke_room) ?_
  rw [eqvS, sorted_eq hp8 hs8 hp9 hs9]
  walk_at "steps to block"
  obtain ⟨DT, ua, ub, N10, DD, lt10⟩ : ∃ (DT : Addr) (ua ub : Tok), News g L' h9 (zipLed z TI TO i1 i2 i3 DT D4 D5 ++ ((R, W.listOf rvs.toArray kr) :: (D5, W.listOf #[.int (colsS (pcS x (p + b) (p + 2 * b))).1 u3, .int (colsS (pcS x (p + b) (p + 2 * b))).2 u4] 0) :: (D4, W.listOf #[.int (colsS (pcS x p (p + b))).1 u1, .int (colsS (pcS x p (p + b))).2 u2] 0) :: (DT, { cls := .type "tuple", data := .seq #[.int 1 ua, .int 2 ub] }) :: rest)) ∧ Z3Apart z TI TO i1 i2 i3 DT D4 D5 ∧
      (∀ e ∈ zipLed z TI TO i1 i2 i3 DT D4 D5, ∀ q ∈ (R, W.listOf rvs.toArray kr) :: (D5, W.listOf #[.int (colsS (pcS x (p + b) (p + 2 * b))).1 u3, .int (colsS (pcS x (p + b) (p + 2 * b))).2 u4] 0) :: (D4, W.listOf #[.int (colsS (pcS x p (p + b))).1 u1, .int (colsS (pcS x p (p + b))).2 u2] 0) :: (DT, ({ cls := .type "tuple", data := .seq #[.int 1 ua, .int 2 ub] } : Obj)) :: rest, @LT.lt Nat _ q.1 e.1) :=
    ⟨_, _, _, fun e he => N9 e (z_perm2 he), DD, fun e he q hq => lt6 e he q (z_perm3 hq)⟩
  clear N9 lt6 lt8 lt9
  generalize hcA : colsS (pcS x p (p + b)) = cA at N10 lt10
  generalize hcB : colsS (pcS x (p + b) (p + 2 * b)) = cB at N10 lt10
  refine ListComp_Z (by rfl) F9 (by with_unfolding_all rfl) (by decide) (by with_unfolding_all rfl) (by decide) (by decide) ?_
  walk_at "steps"
  refine ⟨z, TI, TO, i1, i2, i3, DT, D4, D5, #[.int 1 ua, .int 2 ub], #[.int cA.1 u1, .int cA.2 u2], #[.int cB.1 u3, .int cB.2 u4], 0, 0, 0, _, CJ cA cB _, rfl, DD, F9, N10, off_zip lt10, by k_dflt k_mem, by k_dflt k_mem, by k_dflt k_mem, rfl, rfl, (show 2 ≤ 100 by decide), ⟨[], rfl, RVA.nil, rfl, fun e he => nomatch he⟩, ?step, ?hlen, ?fin⟩
  case hlen =>
    rintro i zs nw ⟨own, rfl, _, hl, _⟩
    rw [hl]; exact colR_le _ _ _
  case step =>
    rintro i T oC C D m₂ zs news₁ h tk own E' hi hm₂ htk ⟨own2, rfl, hrv, hlen, hne⟩ hoC F' N' hCD hof hofX hnew g' t'
    obtain ⟨k, a, c, w1, w2, w3, eT, eR⟩ : ∃ (k a c : Int) (w1 w2 w3 : Tok), (#[(#[Value.int 1 ua, Value.int 2 ub] : Array Value).getD i .none, (#[Value.int cA.1 u1, Value.int cA.2 u2] : Array Value).getD i .none, (#[Value.int cB.1 u3, Value.int cB.2 u4] : Array Value).getD i .none] : Array Value) = #[.int k w1, .int a w2, .int c w3] ∧ colR cA cB (i + 1) = colR cA cB i ++ colRow k a c := by
      match i, hi with
      | 0, _ => exact ⟨1, cA.1, cB.1, ua, u1, u3, rfl, colR_next _ _ 0⟩
      | 1, _ => exact ⟨2, cA.2, cB.2, ub, u2, u4, rfl, colR_next _ _ 1⟩
    rw [eT] at N' hofX
    replace N' := fun e he => N' e (z_perm4 he)
    walk_at "steps"
    · rename _ ≠ _ => hac
      refine ⟨_, _, (T, { cls := .type "tuple", data := .seq #[.int k w1, .int a w2, .int c w3] }) :: own2 ++ _, rfl, F', fun e he => N' e (z_perm6 he), ?_, ⟨_ :: own2, rfl, ?_, ?_, ?_⟩⟩
      · intro e he
        rcases List.mem_cons.mp he with rfl | he
        · exact hofX _ List.mem_cons_self
        · exact hof e he
      · rw [eR, colRow, if_neg hac]
        exact (hrv.mono fun e he => List.mem_cons_of_mem _ he).snoc (RV.tup List.mem_cons_self (.cons (.int _ _) (.cons (.int _ _) (.cons (.int _ _) .nil))))
      · rw [eR, List.length_append, List.length_append, hlen, colRow, if_neg hac]; rfl
      · intro e he r hr'
        rcases List.mem_cons.mp he with rfl | he
        · exact hnew r (List.mem_append_right _ hr')
        · exact hne e he r hr'
    · rename _ = _ => hac
      refine ⟨_, _, own2 ++ _, rfl, F', fun e he => N' e (List.mem_cons_of_mem _ he), hof, ⟨own2, rfl, ?_, ?_, hne⟩⟩
      · rw [eR, colRow, if_pos hac, List.append_nil]; exact hrv
      · rw [eR, colRow, if_pos hac, List.append_nil]; exact hlen
  case fin =>
    rintro zs nw ⟨own, rfl, hrv, hlen, hne⟩ D h tk F11 N11 hD
    replace N11 := fun e he => N11 e (z_perm5 he)
    walk_at "steps"
    rename_i T h13 F13 N13 l13
    obtain ⟨lD, hRT, lA⟩ := l13
    have lA' := lt_allD lA
    refine acc_append (r := (D, lst zs) :: (own ++ rest)) F13 (fun e he => N13 e (z_perm8 he)) hRT ?_ (by lia) fun h14 F14 N14 => ?_
    · intro e he
      rcases List.mem_cons.mp he with rfl | he
      · exact fun q => hD (R, W.listOf rvs.toArray kr) (by simp only [List.mem_append, List.mem_cons, true_or, or_true]) q.symm
      rcases List.mem_append.mp he with he | he
      · exact hne e he (R, _) List.mem_cons_self
      · exact hne0 e he
    walk_at "steps"
    refine hQ _ _ _ (.ref T) _ ((T, _) :: (D, lst zs) :: own) ?_ ?_ ?_ F14 (fun e he => N14 e (z_perm9 he)) ?_ ?_
    · exact hr
    · exact hw
    · exact hs
    · refine RV.tup List.mem_cons_self (.cons (.int _ _) (.cons (.int _ _) (.cons (.bool _) (.cons (.bool _) (.cons (.bool _) (.cons ?_ .nil))))))
      rw [hcA, hcB]
      exact RV.lst (List.mem_cons_of_mem _ List.mem_cons_self) (hrv.mono fun e he => List.mem_cons_of_mem _ (List.mem_cons_of_mem _ he))
    · intro e he q hq
      rcases List.mem_cons.mp he with rfl | he
      · intro z
        rcases List.mem_cons.mp hq with rfl | hq
        · exact Nat.ne_of_gt hRT z
        · exact Nat.ne_of_gt (lA' q (by simp only [List.mem_append, List.mem_cons, hq, or_true])) z
      rcases List.mem_cons.mp he with rfl | he
      · exact fun z => hD q (by simp only [List.mem_append, List.mem_cons] at hq ⊢; grind) z.symm
      · exact hne e he q (by simp only [List.mem_cons] at hq ⊢; grind)
end
-- D1
section
local macro_rules | `(tactic| k_all) => `(tactic| assumption)
local macro_rules | `(tactic| walk_at "eval Name") => `(tactic| (k_here; k_dflt (refine' nameX_L ?F ?v ?_ ?a ?b; (case F => k_asm); (case a => rfl); (case b => rfl); (case v => assumption); k_whole)))
noncomputable def dueN (a b : Int) : Nat := (Builtin.Range.rangeSize (a.fmod b) (9 - 2 * b) b).toNat
noncomputable def dueT (x : Str) (a b : Int) (k : Nat) : List PyData := (List.range k).map fun (j : Nat) => dueRow (a.fmod b + (j : Int) * b) b (pcS x (a.fmod b + (j : Int) * b) (a.fmod b + (j : Int) * b + b)) (pcS x (a.fmod b + (j : Int) * b + b) (a.fmod b + (j : Int) * b + 2 * b))
noncomputable def dueF (x : Str) (b : Int) (k : Nat) : List PyData := (List.range k).flatMap fun (j : Nat) => dueT x (1 + (j : Int)) b (dueN (1 + (j : Int)) b)
noncomputable def dueD (x : Str) (k : Nat) : List PyData := (List.range k).flatMap fun (j : Nat) => dueF x (1 + (j : Int)) (j + 1)
noncomputable def dueB (i j : Nat) : Bool := Builtin.Range.small ((1 + (j : Int)).fmod (1 + (i : Int))) (9 - 2 * (1 + (i : Int))) (1 + (i : Int)) && decide (Builtin.Range.rangeSize ((1 + (j : Int)).fmod (1 + (i : Int))) (9 - 2 * (1 + (i : Int))) (1 + (i : Int)) = ((dueN (1 + (j : Int)) (1 + (i : Int)) : Nat) : Int)) && decide (dueN (1 + (j : Int)) (1 + (i : Int)) ≤ 8) &&
  (List.range 8).all fun k => decide (k < dueN (1 + (j : Int)) (1 + (i : Int)) → 0 ≤ (1 + (j : Int)).fmod (1 + (i : Int)) + (k : Int) * (1 + (i : Int)) ∧ (1 + (j : Int)).fmod (1 + (i : Int)) + (k : Int) * (1 + (i : Int)) + 2 * (1 + (i : Int)) ≤ 8)
theorem due_all : ∀ i < 4, ∀ j < i + 1, dueB i j = true := by decide +kernel
theorem due_rng {i j : Nat} (hi : i < 4) (hj : j < i + 1) : Builtin.Range.small ((1 + (j : Int)).fmod (1 + (i : Int))) (9 - 2 * (1 + (i : Int))) (1 + (i : Int)) = true ∧ Builtin.Range.rangeSize ((1 + (j : Int)).fmod (1 + (i : Int))) (9 - 2 * (1 + (i : Int))) (1 + (i : Int)) = ((dueN (1 + (j : Int)) (1 + (i : Int)) : Nat) : Int) ∧ dueN (1 + (j : Int)) (1 + (i : Int)) ≤ 8 ∧
    ∀ k < dueN (1 + (j : Int)) (1 + (i : Int)), 0 ≤ (1 + (j : Int)).fmod (1 + (i : Int)) + (k : Int) * (1 + (i : Int)) ∧ (1 + (j : Int)).fmod (1 + (i : Int)) + (k : Int) * (1 + (i : Int)) + 2 * (1 + (i : Int)) ≤ 8 := by
  have h := due_all i hi j hj
  unfold dueB at h
  simp only [Bool.and_eq_true, decide_eq_true_eq, List.all_eq_true, List.mem_range] at h
  exact ⟨h.1.1.1, h.1.1.2, h.1.2, fun k hk => h.2 k (by lia) hk⟩
theorem dueT_next (x : Str) (a b : Int) (k : Nat) : dueT x a b (k + 1) = dueT x a b k ++ [dueRow (a.fmod b + (k : Int) * b) b (pcS x (a.fmod b + (k : Int) * b) (a.fmod b + (k : Int) * b + b)) (pcS x (a.fmod b + (k : Int) * b + b) (a.fmod b + (k : Int) * b + 2 * b))] := by
  unfold dueT; rw [List.range_succ, List.map_append]; rfl
theorem dueT_len (x : Str) (a b : Int) (k : Nat) : (dueT x a b k).length = k := by unfold dueT; rw [List.length_map, List.length_range]
theorem dueF_next (x : Str) (b : Int) (k : Nat) : dueF x b (k + 1) = dueF x b k ++ dueT x (1 + (k : Int)) b (dueN (1 + (k : Int)) b) := by
  unfold dueF; rw [List.range_succ, List.flatMap_append]; simp
theorem dueD_next (x : Str) (k : Nat) : dueD x (k + 1) = dueD x k ++ dueF x (1 + (k : Int)) (k + 1) := by
  unfold dueD; rw [List.range_succ, List.flatMap_append]; simp
theorem dueF_le (x : Str) {i : Nat} (hi : i < 4) : ∀ k : Nat, k ≤ i + 1 → (dueF x (1 + (i : Int)) k).length ≤ 8 * k
  | 0, _ => by simp [dueF]
  | k + 1, hk => by
    rw [dueF_next, List.length_append, dueT_len]
    have h1 := dueF_le x hi k (by lia)
    have h2 := (due_rng hi (j := k) (by lia)).2.2.1
    lia
theorem dueD_le (x : Str) : ∀ k : Nat, k ≤ 4 → (dueD x k).length ≤ 32 * k
  | 0, _ => by simp [dueD]
  | k + 1, hk => by
    rw [dueD_next, List.length_append]
    have h1 := dueD_le x k (by lia)
    have h2 := dueF_le x (i := k) (by lia) (k + 1) (by lia)
    lia
inductive DueR (x : Str) (r : Value) (nw : Led) : Prop
  | mk (R : Addr) (vs : List Value) (k : Nat) (own : Led)
    (q1 : r = .ref R) (q2 : nw = (R, W.listOf vs.toArray k) :: own) (q3 : RVA own vs (dueD x 4)) (q4 : vs.length = (dueD x 4).length) : DueR x r nw
theorem dj_perm {e r i j k : Addr × Obj} {own news : Led} (h : e ∈ r :: (own ++ (news ++ [i, j, k]))) : e ∈ (r :: (own ++ (news ++ [i] ++ [j]))) ++ [k] := by simp only [List.mem_cons, List.mem_append, List.not_mem_nil, or_false] at h ⊢; grind
theorem dj_perm2 {e r i j k : Addr × Obj} {o2 own news : Led} (h : e ∈ [k] ++ (r :: ((o2 ++ own) ++ (news ++ [i] ++ [j])))) : e ∈ r :: (o2 ++ (own ++ (news ++ [i, j, k]))) := by simp only [List.mem_cons, List.mem_append, List.not_mem_nil, or_false] at h ⊢; grind
theorem dj_perm3 {e i j k : Addr × Obj} {own news : Led} (h : e ∈ own ++ (news ++ [i, j, k])) : e ∈ own ++ (news ++ [i] ++ [j]) ∨ e = k := by simp only [List.mem_cons, List.mem_append, List.not_mem_nil, or_false] at h ⊢; grind
inductive DJ1 (R : Addr) (x : Str) (tx : Tok) (ds : List PyData) (base : Led) (O : List Addr) (m : Str → Option Value) (nw : Led) : Prop
  | mk (hr : m (Str.ofString "rows") = some (.ref R)) (hw : m (Str.ofString "word") = some (.str x tx)) (q : RJ R ds base O nw) : DJ1 R x tx ds base O m nw
inductive DJ2 (R : Addr) (x : Str) (tx : Tok) (b : Int) (u : Tok) (ds : List PyData) (base : Led) (O : List Addr) (m : Str → Option Value) (nw : Led) : Prop
  | mk (hr : m (Str.ofString "rows") = some (.ref R)) (hw : m (Str.ofString "word") = some (.str x tx)) (hs : m (Str.ofString "size") = some (.int b u)) (q : RJ R ds base O nw) : DJ2 R x tx b u ds base O m nw
theorem spec_due (w : World) (x : Str) (tx : Tok) (news : Led) (hx : ∀ c ∈ x.cps.toList, c = 102 ∨ c = 105 ∨ c = 108) (hl : x.cps.size = 8) : Spec w 222 [.str x tx] news (DueR x) 200 1500 := by
  w_on
  unfold Spec
  k_fill
  intros; rename_i hret
  refine wpAny_call ?_
  k_dflt cell_enter
  walk_at "steps to for"
  rename Fr _ _ _ _ => F6
  rename News _ _ _ _ => N6
  obtain ⟨R, m6, F6, hr6, hw6, N6, rn⟩ : ∃ (R : Addr) (m6 : Str → Option Value), Fr _ _ _ m6 ∧ m6 (Str.ofString "rows") = some (.ref R) ∧ m6 (Str.ofString "word") = some (.str x tx) ∧ News _ _ _ ((R, W.listOf #[] 0) :: news) ∧ (∀ e ∈ news, @LT.lt Nat _ e.1 R) := ⟨_, _, F6, rfl, rfl, N6, by assumption⟩
  refine For_T F6 ?_
  walk_at "steps"
  rename IsRange _ _ _ _ _ _ _ _ => hr
  rename Fr _ _ _ m6 => F7
  rename News _ _ _ _ => N7
  refine loop_range (n := 4) (by rfl) hr rfl rfl (by rfl) (by rfl) F7 (news := (R, W.listOf #[] 0) :: ([] ++ news)) (by rw [List.nil_append]; exact N7) (J := fun i => DJ1 R x tx (dueD x i) news []) ⟨hr6, hw6, [], 0, [], rfl, RVA.nil, rfl, fun p hp => Nat.ne_of_lt (rn p hp), fun p hp => nomatch hp⟩ ?step ?done
  case step =>
    rintro I oI i u m₁ news₁ h5 tk5 hi htk5 ⟨hr1, hw1, ws, kw, own, rfl, hrv, hwl, hne, -⟩ hoff F8 N8 g5 t5
    refine fend_gen fun Q8 J8 hJ8 => ?_
    have hs1 : (fun z => if z = Str.ofString "size" then some (.int (1 + (i : Int)) u) else m₁ z) (Str.ofString "size") = some (Value.int (1 + (i : Int)) u) := rfl
    have hr2 : (fun z => if z = Str.ofString "size" then some (Value.int (1 + (i : Int)) u) else m₁ z) (Str.ofString "rows") = some (.ref R) := hr1
    have hw2 : (fun z => if z = Str.ofString "size" then some (Value.int (1 + (i : Int)) u) else m₁ z) (Str.ofString "word") = some (.str x tx) := hw1
    generalize (fun z => if z = Str.ofString "size" then some (Value.int (1 + (i : Int)) u) else m₁ z) = m₂ at F8 hs1 hr2 hw2
    clear F7
    walk_at "steps to for"
    refine For_T F8 ?_
    walk_at "steps"
    rename IsRange _ _ _ _ _ _ _ _ => hr3
    rename Fr _ _ _ m₂ => F9
    rename News _ _ _ _ => N9
    have hIR : (I, oI).1 ≠ R := fun e => hoff (R, W.listOf ws.toArray kw) List.mem_cons_self (List.mem_singleton.mpr (show R = I from e.symm))
    refine loop_range (n := i + 1) (by rfl) hr3 (range_i hi).1 (range_i hi).2 (by rfl) (by rfl) F9 N9 (J := fun j => DJ2 R x tx (1 + (i : Int)) u (dueD x i ++ dueF x (1 + (i : Int)) j) (news ++ [(I, oI)]) [I]) ⟨hr2, hw2, hs1, ws, kw, own, by rw [List.cons_append, List.append_assoc], by rw [show dueF x (1 + (i : Int)) 0 = [] from rfl, List.append_nil]; exact hrv, by rw [show dueF x (1 + (i : Int)) 0 = [] from rfl, List.append_nil]; exact hwl, ?off2, fun p hp => hoff p (List.mem_cons_of_mem _ (List.mem_append_left _ hp))⟩ ?step2 ?done2
    case off2 =>
      intro p hp
      rw [← List.append_assoc] at hp
      rcases List.mem_append.mp hp with hp | hp
      · exact hne p hp
      · rw [List.mem_singleton.mp hp]; exact hIR
    case step2 =>
      rintro I2 o2 j u2 m₃ news₃ h6 tk6 hj htk6 ⟨hr3, hw3, hs3, ws3, k3, own3, rfl, hrv3, hwl3, hne3, hI3⟩ hoff3 F10 N10 g6 t6
      refine fend_gen fun Q10 J10 hJ10 => ?_
      have hf4 : (fun z => if z = Str.ofString "first" then some (.int (1 + (j : Int)) u2) else m₃ z) (Str.ofString "first") = some (Value.int (1 + (j : Int)) u2) := rfl
      have hr4 : (fun z => if z = Str.ofString "first" then some (Value.int (1 + (j : Int)) u2) else m₃ z) (Str.ofString "rows") = some (.ref R) := hr3
      have hw4 : (fun z => if z = Str.ofString "first" then some (Value.int (1 + (j : Int)) u2) else m₃ z) (Str.ofString "word") = some (.str x tx) := hw3
      have hs4 : (fun z => if z = Str.ofString "first" then some (Value.int (1 + (j : Int)) u2) else m₃ z) (Str.ofString "size") = some (.int (1 + (i : Int)) u) := hs3
      generalize (fun z => if z = Str.ofString "first" then some (Value.int (1 + (j : Int)) u2) else m₃ z) = m₄ at F10 hf4 hr4 hw4 hs4
      have hI2R : (I2, o2).1 ≠ R := fun e => hoff3 (R, W.listOf ws3.toArray k3) List.mem_cons_self (List.mem_singleton.mpr (show R = I2 from e.symm))
      clear F9
      walk_at "steps to for"
      refine For_T F10 ?_
      walk_at "steps"
      rename IsRange _ _ _ _ _ _ _ _ => hr5
      rename Fr _ _ _ m₄ => F11
      rename News _ _ _ _ => N11
      obtain ⟨d1, d2, d3, d4⟩ := due_rng hi hj
      refine loop_rangeC (n := dueN (1 + (j : Int)) (1 + (i : Int))) (by rfl) hr5 d1 d2 (by rfl) (by rfl) F11 N11 (J := fun k => DJ2 R x tx (1 + (i : Int)) u (dueD x i ++ dueF x (1 + (i : Int)) j ++ dueT x (1 + (j : Int)) (1 + (i : Int)) k) (news ++ [(I, oI)] ++ [(I2, o2)]) [I, I2]) ⟨hr4, hw4, hs4, ws3, k3, own3, by rw [List.cons_append, List.append_assoc], by rw [show dueT x (1 + (j : Int)) (1 + (i : Int)) 0 = [] from rfl, List.append_nil]; exact hrv3, by rw [show dueT x (1 + (j : Int)) (1 + (i : Int)) 0 = [] from rfl, List.append_nil]; exact hwl3, ?off3, ?off4⟩ ?step3 ?done3
      case off3 =>
        intro p hp
        rw [← List.append_assoc] at hp
        rcases List.mem_append.mp hp with hp | hp
        · exact hne3 p hp
        · rw [List.mem_singleton.mp hp]; exact hI2R
      case off4 =>
        intro p hp hm
        rcases List.mem_cons.mp hm with e | hm
        · exact hI3 p hp (List.mem_singleton.mpr e)
        · exact hoff3 p (List.mem_cons_of_mem _ (List.mem_append_left _ hp)) hm
      case step3 =>
        rintro I3 o3 k u3 m₅ news₅ h7 tk7 hk htk7 ⟨hr5, hw5, hs5, ws5, k5, own5, rfl, hrv5, hwl5, hne5, hI5⟩ hoff5 F12 N12 g7 t7
        refine fend_gen fun Q12 J12 hJ12 => ?_
        obtain ⟨p0, p8⟩ := d4 k hk
        generalize hp : (1 + (j : Int)).fmod (1 + (i : Int)) + (k : Int) * (1 + (i : Int)) = p at F12 p0 p8
        have hst6 : (fun z => if z = Str.ofString "start" then some (.int p u3) else m₅ z) (Str.ofString "start") = some (Value.int p u3) := rfl
        have hr6 : (fun z => if z = Str.ofString "start" then some (Value.int p u3) else m₅ z) (Str.ofString "rows") = some (.ref R) := hr5
        have hw6 : (fun z => if z = Str.ofString "start" then some (Value.int p u3) else m₅ z) (Str.ofString "word") = some (.str x tx) := hw5
        have hs6 : (fun z => if z = Str.ofString "start" then some (Value.int p u3) else m₅ z) (Str.ofString "size") = some (.int (1 + (i : Int)) u) := hs5
        generalize (fun z => if z = Str.ofString "start" then some (Value.int p u3) else m₅ z) = m₆ at F12 hst6 hr6 hw6 hs6
        have hI3R : (I3, o3).1 ≠ R := fun e => hoff5 (R, W.listOf ws5.toArray k5) List.mem_cons_self (List.mem_singleton.mpr (show R = I3 from e.symm))
        have hle5 : ws5.length ≤ 500 := by
          rw [hwl5, List.length_append, List.length_append, dueT_len]
          have h1 := dueD_le x i (by lia)
          have h2 := dueF_le x hi j (by lia)
          lia
        refine due_turn w x tx hx hl p (1 + (i : Int)) ⟨p0, p8⟩ ⟨by lia, by lia⟩ u3 u R ws5 k5 (own5 ++ (news ++ [(I, oI), (I2, o2), (I3, o3)])) _ _ _ _ _ _ _ _ _ _ _ _ _ _ _ _ _ _ _ _ (by passes_own) hr6 hw6 hs6 hst6 (by k_asm) F12 (by k_asm) (fun e he => N12 e (dj_perm he)) (by k_asm) (by k_asm) (by lia) (by lia) ?ne6 hle5 ?fin6
        case ne6 =>
          intro p hp
          rcases dj_perm3 hp with hp | rfl
          · exact hne5 p hp
          · exact hI3R
        case fin6 =>
          rintro h8 tk8 m₇ v k8 own8 hr7 hw7 hs7 F13 N13 hrv8 hne8
          refine FEnd.of F13 N13 ((R, W.listOf (ws5 ++ [v]).toArray k8) :: ((own8 ++ own5) ++ (news ++ [(I, oI)] ++ [(I2, o2)]))) (fun e he => dj_perm2 he) ?_ (hJ12 _ _ ⟨hr7, hw7, hs7, ws5 ++ [v], k8, own8 ++ own5, rfl, ?_, ?_, ?_, ?_⟩)
          · intro p hp
            rcases List.mem_cons.mp hp with rfl | hp
            · exact hoff5 (R, W.listOf ws5.toArray k5) List.mem_cons_self
            rcases List.mem_append.mp hp with hp | hp
            · rcases List.mem_append.mp hp with hp | hp
              · exact fun hm => hne8 p hp (I3, o3) (by simp only [List.mem_append, List.mem_cons, or_true, true_or]) (List.mem_singleton.mp hm)
              · exact hoff5 p (List.mem_cons_of_mem _ (List.mem_append_left _ hp))
            · exact hoff5 p (List.mem_cons_of_mem _ (List.mem_append_right _ hp))
          · rw [dueT_next, hp, ← List.append_assoc]
            exact (hrv5.mono fun e he => List.mem_append_right _ he).snoc (hrv8.mono fun e he => List.mem_append_left _ he)
          · rw [dueT_next, ← List.append_assoc, List.length_append, List.length_append, hwl5]; rfl
          · intro p hp
            rw [List.append_assoc] at hp
            rcases List.mem_append.mp hp with hp | hp
            · exact hne8 p hp (R, W.listOf ws5.toArray k5) List.mem_cons_self
            · exact hne5 p hp
          · intro p hp hm
            rcases List.mem_append.mp hp with hp | hp
            · rcases List.mem_cons.mp hm with e | hm
              · exact hne8 p hp (I, oI) (by simp only [List.mem_append, List.mem_cons, or_true, true_or]) e
              · exact hne8 p hp (I2, o2) (by simp only [List.mem_append, List.mem_cons, or_true, true_or]) (List.mem_singleton.mp hm)
            · exact hI5 p hp hm
      case done3 =>
        rintro h7 tk7 m₅ news₅ htk7 F12 N12 ⟨hr5, hw5, hs5, ws5, k5, own5, rfl, hrv5, hwl5, hne5, hI5⟩
        walk_at "steps"
        rename Fr _ _ _ m₅ => F13
        rename News _ _ _ _ => N13
        refine FEnd.of F13 N13 ((R, W.listOf ws5.toArray k5) :: (own5 ++ (news ++ [(I, oI)]))) ?_ ?_ (hJ10 _ _ ⟨hr5, hw5, hs5, ws5, k5, own5, rfl, by rw [dueF_next, ← List.append_assoc]; exact hrv5, by rw [dueF_next, ← List.append_assoc]; exact hwl5, fun p hp => hne5 p ?_, fun p hp hm => hI5 p hp (List.mem_cons.mpr (.inl (List.mem_singleton.mp hm)))⟩)
        · intro e he
          simp only [List.mem_append, List.mem_cons, List.not_mem_nil, or_false] at he ⊢
          grind
        · intro p hp
          rcases List.mem_cons.mp hp with rfl | hp
          · exact hoff3 (R, W.listOf ws3.toArray k3) List.mem_cons_self
          rcases List.mem_append.mp hp with hp | hp
          · exact fun hm => hI5 p hp (List.mem_cons_of_mem _ hm)
          · exact hoff3 p (List.mem_cons_of_mem _ (List.mem_append_right _ hp))
        · rw [← List.append_assoc]; exact List.mem_append_left _ hp
    case done2 =>
      rintro h6 tk6 m₃ news₃ htk6 F10 N10 ⟨hr3, hw3, hs3, ws3, k3, own3, rfl, hrv3, hwl3, hne3, hI3⟩
      walk_at "steps"
      rename Fr _ _ _ m₃ => F11
      rename News _ _ _ _ => N11
      refine FEnd.of F11 N11 ((R, W.listOf ws3.toArray k3) :: (own3 ++ news)) ?_ ?_ (hJ8 _ _ ⟨hr3, hw3, ws3, k3, own3, rfl, by rw [dueD_next]; exact hrv3, by rw [dueD_next]; exact hwl3, fun p hp => hne3 p ?_, fun p hp => List.not_mem_nil⟩)
      · intro e he
        simp only [List.mem_append, List.mem_cons, List.not_mem_nil, or_false] at he ⊢
        grind
      · intro p hp
        rcases List.mem_cons.mp hp with rfl | hp
        · exact hoff (R, W.listOf ws.toArray kw) List.mem_cons_self
        rcases List.mem_append.mp hp with hp | hp
        · exact hI3 p hp
        · exact hoff p (List.mem_cons_of_mem _ (List.mem_append_right _ hp))
      · rw [← List.append_assoc]; exact List.mem_append_left _ hp
  case done =>
    rintro h5 tk5 m₁ news₁ htk5 F8 N8 ⟨hr1, hw1, ws, kw, own, rfl, hrv, hwl, hne, -⟩
    walk_at "steps"
    rename Fr _ _ _ _ => F9
    rename News _ _ _ _ => N9
    refine hret _ ((R, W.listOf ws.toArray kw) :: own) _ _ ⟨R, ws, kw, own, rfl, rfl, hrv, hwl⟩ F9 (fun p hp => N9 p ?_)
    simp only [List.mem_append, List.mem_cons] at hp ⊢
    grind
end
-- B1
section
local macro_rules | `(tactic| k_all) => `(tactic| assumption)
local macro_rules | `(tactic| walk_at "eval Name") => `(tactic| (k_here; k_dflt (refine' nameX_L ?F ?v ?_ ?a ?b; (case F => k_asm); (case a => rfl); (case b => rfl); (case v => assumption); k_whole)))
local macro_rules | `(tactic| walk_at "steps to index") => `(tactic| repeat' ((fail_if_success (with_reducible show wpAny _ _ (call (Value.builtin "list.index") _) _ _ _)); first | (k_unfold; (try dsimp only)) | (k_end; wrow_close) | (walk1; all_goals (try dsimp only)) | (dsimp only; walk1) | (leave1; walk_say "STEP leave1"; try dsimp only)))
local macro_rules | `(tactic| walk_at "steps to compare") => `(tactic| repeat' ((fail_if_success (with_reducible show wpAny _ _ (compareOp _ _ _) _ _ _)); first | (k_unfold; (try dsimp only)) | (k_end; wrow_close) | (walk1; all_goals (try dsimp only)) | (dsimp only; walk1) | (leave1; walk_say "STEP leave1"; try dsimp only)))
noncomputable def sg (c : Nat) : Str := ⟨#[c]⟩
noncomputable def namesL (l : List Nat) : List Nat := l.foldl (fun ns c => if c ∈ ns then ns else ns ++ [c]) []
theorem namesL_snoc (l : List Nat) (c : Nat) : namesL (l ++ [c]) = if c ∈ namesL l then namesL l else namesL l ++ [c] := by
  unfold namesL; rw [List.foldl_append]; rfl
theorem any_sg (ns : List Nat) (c : Nat) : (ns.map sg).any (· == sg c) = decide (c ∈ ns) := by
  rw [Bool.eq_iff_iff]
  simp only [List.any_eq_true, List.mem_map, beq_iff_eq, decide_eq_true_eq]
  constructor
  · rintro ⟨s, ⟨a, ha, rfl⟩, e⟩
    have : a = c := by simpa [sg] using e
    exact this ▸ ha
  · intro h
    exact ⟨_, ⟨c, h, rfl⟩, rfl⟩
theorem lt_allB {d : Nat} : ∀ {l : Led}, AllLt d l → ∀ p ∈ l, @LT.lt Nat _ p.1 d
  | [], _, _, hp => nomatch hp
  | _ :: _, h, p, hp => by
    rcases List.mem_cons.mp hp with rfl | hp
    · exact h.1
    · exact lt_allB h.2 p hp
theorem strs_snocB {x : Str} {t : Tok} : ∀ {vs : List Value} {ys : List Str}, StrsAre vs ys → StrsAre (vs ++ [.str x t]) (ys ++ [x])
  | _, _, .nil => .cons _ _ .nil
  | _, _, .cons a b r => .cons a b (strs_snocB r)
theorem take_snocB {l : List Nat} {i c : Nat} (h : l[i]? = some c) : l.take (i + 1) = l.take i ++ [c] := by
  rw [List.take_succ, h]; rfl
theorem namesL_len (l : List Nat) : (namesL l).length ≤ l.length := by
  unfold namesL
  have gen : ∀ (l ns : List Nat), (l.foldl (fun ns c => if c ∈ ns then ns else ns ++ [c]) ns).length ≤ ns.length + l.length := by
    intro l
    induction l with
    | nil => intro ns; exact Nat.le_refl _
    | cons c l ih =>
      intro ns
      rw [List.foldl_cons]
      refine Nat.le_trans (ih _) ?_
      split <;> simp <;> lia
  simpa using gen l []
theorem namesL_mem (l : List Nat) : ∀ c ∈ l, c ∈ namesL l := by
  have mono : ∀ (l ns : List Nat) (c : Nat), c ∈ ns → c ∈ l.foldl (fun ns c => if c ∈ ns then ns else ns ++ [c]) ns := by
    intro l
    induction l with
    | nil => intro ns c h; exact h
    | cons d l ih => intro ns c h; rw [List.foldl_cons]; exact ih _ _ (by split <;> simp [h])
  have gen : ∀ (l ns : List Nat) (c : Nat), c ∈ l → c ∈ l.foldl (fun ns c => if c ∈ ns then ns else ns ++ [c]) ns := by
    intro l
    induction l with
    | nil => intro ns c h; cases h
    | cons d l ih =>
      intro ns c h
      rw [List.foldl_cons]
      rcases List.mem_cons.mp h with rfl | h
      · exact mono _ _ _ (by split <;> simp_all)
      · exact ih _ _ h
  exact fun c h => gen l [] c h
noncomputable def allN : List (List Nat) := [[], [102], [105], [108], [102, 105], [102, 108], [105, 102], [105, 108], [108, 102], [108, 105], [102, 105, 108], [102, 108, 105], [105, 102, 108], [105, 108, 102], [108, 102, 105], [108, 105, 102]]
theorem allN_step : ∀ ns ∈ allN, ∀ c ∈ [102, 105, 108], (if c ∈ ns then ns else ns ++ [c]) ∈ allN := by decide +kernel
theorem namesL_all (l : List Nat) (h : ∀ c ∈ l, c = 102 ∨ c = 105 ∨ c = 108) : namesL l ∈ allN := by
  have gen : ∀ (l ns : List Nat), ns ∈ allN → (∀ c ∈ l, c = 102 ∨ c = 105 ∨ c = 108) → l.foldl (fun ns c => if c ∈ ns then ns else ns ++ [c]) ns ∈ allN := by
    intro l
    induction l with
    | nil => intro ns h _; exact h
    | cons d l ih =>
      intro ns hn hl
      rw [List.foldl_cons]
      exact ih _ (allN_step ns hn d (by rcases hl d List.mem_cons_self with rfl | rfl | rfl <;> decide)) fun c hc => hl c (List.mem_cons_of_mem _ hc)
  exact gen l [] (by decide) h
theorem allN_len : ∀ ns ∈ allN, ns.length ≤ 3 := by decide +kernel
theorem idx_sg (ns : List Nat) (c : Nat) : (ns.map sg).idxOf (sg c) = ns.idxOf c := by
  induction ns with
  | nil => rfl
  | cons d ns ih =>
    rw [List.map_cons, List.idxOf_cons, List.idxOf_cons, ih]
    have : (sg d == sg c) = (d == c) := by
      rw [Bool.eq_iff_iff, beq_iff_eq, beq_iff_eq]
      exact ⟨fun e => by simpa [sg] using e, fun e => by rw [e]⟩
    rw [this]
theorem ne_lt_idxB {k : Str} : ∀ {ns : List Str} {j : Nat}, j < ns.idxOf k → ∀ (h2 : j < ns.length), (ns[j] == k) = false
  | [], _, _, h2 => absurd h2 (Nat.not_lt_zero _)
  | x :: r, j, h, h2 => by
    rw [List.idxOf_cons] at h
    cases hx : x == k with
    | true => rw [hx] at h; exact absurd h (Nat.not_lt_zero _)
    | false =>
      rw [hx] at h
      cases j with
      | zero => exact hx
      | succ j => exact ne_lt_idxB (ns := r) (by simpa using h) (Nat.lt_of_succ_lt_succ h2)
theorem len_sg (f : Nat → Nat) (l : List Nat) : ((l.map fun c => sg (f c)).map (·.length)).sum = l.length := by
  induction l with
  | nil => rfl
  | cons c l ih =>
    simp only [List.map_cons, List.sum_cons, List.length_cons] at ih ⊢
    rw [ih]
    show 1 + _ = _
    lia
section
variable {prog : Program} {w : World} {A : Around} {E : Value → Shared → Prop} {s : Shared}
theorem index_list_strs {l : Addr} {vs : List Value} {ys : List Str} {k : Str} {t : Tok} {Q : Value → Shared → Prop} (hl : s.heap.IsList l vs.toArray) (hi : StrsAre vs ys) (hn : ys.length ≤ 1000) (hk : k ∈ ys)
    (h : Q (.int (ys.idxOf k : Nat) s.toks) { s with toks := s.toks + 1 }) : wpAny (model prog w) A (call (.builtin "list.index") [.ref l, .str k t]) Q E s := by
  obtain ⟨⟨cls, dd, data, sl⟩, ho, hc, n, hd⟩ := id hl
  simp only at hc hd
  subst hc hd
  have hlen := hi.length
  have hj : ys.idxOf k < ys.length := List.idxOf_lt_length_iff.mpr hk
  have at' : ∀ {vs : List Value} {ys : List Str}, StrsAre vs ys → ∀ (j : Nat) (h1 : j < vs.length) (h2 : j < ys.length), isStrOf k vs[j] = (ys[j] == k) := by
    intro vs ys h
    induction h with
    | nil => intro j h1; cases h1
    | cons y t r ih =>
      intro j h1 h2
      cases j with
      | zero => rfl
      | succ j => exact ih j (by simpa using h1) (by simpa using h2)
  refine call_meets PySem.F.slot_list_index ⟨_, ho, rfl⟩ PySem.F.entry_list_index (PySem.F.args_list_index_2 _ _)
    (SeqAt.list_indexAt l vs.toArray n dd sl (.str k t) (isStrOf k) (ys.idxOf k) (by simpa [hlen] using hj) (by lia) ?_ ?_) ⟨ho, fun y hy => (eq_isStrOf k t hi y (by simpa using hy)).at _ _, h⟩
  · show isStrOf k vs[ys.idxOf k] = true
    rw [at' hi _ (by lia) hj]
    simpa using List.getElem_idxOf hj
  · intro j hjs hlt
    show isStrOf k vs[j] = false
    rw [at' hi j (by simpa using hjs) (by lia)]
    exact ne_lt_idxB hlt _
end
noncomputable def bareL (l : List Nat) : Bool := [[97, 98, 97, 99, 97, 98, 97], [97, 98, 97, 99, 98, 97, 98], [97, 98, 99, 98, 97, 98, 99]].any fun p => p == l.map fun c => 97 + (namesL l).idxOf c
theorem cat_sg (l : List Nat) : cat (l.map sg) = ⟨l.toArray⟩ := by
  unfold cat
  congr 1
  congr 1
  induction l with
  | nil => rfl
  | cons c l ih => rw [List.map_cons, List.flatMap_cons, ih]; rfl
theorem bare_any (l : List Nat) : ([Str.ofString "abacaba", Str.ofString "abacbab", Str.ofString "abcbabc"].any (· == cat (l.map fun c => sg (97 + (namesL l).idxOf c)))) = bareL l := by
  have e : (l.map fun c => sg (97 + (namesL l).idxOf c)) = (l.map fun c => 97 + (namesL l).idxOf c).map sg := by rw [List.map_map]; rfl
  rw [e, cat_sg]
  unfold bareL
  generalize (l.map fun c => 97 + (namesL l).idxOf c) = m
  have one : ∀ p : List Nat, ((⟨p.toArray⟩ : Str) == ⟨m.toArray⟩) = (p == m) := fun p => by
    rw [Bool.eq_iff_iff, beq_iff_eq, beq_iff_eq]
    exact ⟨fun h => by simpa using h, fun h => by rw [h]⟩
  have e1 : Str.ofString "abacaba" = ⟨[97, 98, 97, 99, 97, 98, 97].toArray⟩ := by decide +kernel
  have e2 : Str.ofString "abacbab" = ⟨[97, 98, 97, 99, 98, 97, 98].toArray⟩ := by decide +kernel
  have e3 : Str.ofString "abcbabc" = ⟨[97, 98, 99, 98, 97, 98, 99].toArray⟩ := by decide +kernel
  rw [e1, e2, e3]
  simp only [List.any_cons, List.any_nil, one]
theorem spec_bare (w : World) (x : Str) (tx : Tok) (news : Led) (hx : ∀ c ∈ x.cps.toList, c = 102 ∨ c = 105 ∨ c = 108) (hl : x.cps.size = 7) : Spec w 227 [.str x tx] news (fun r nw => nw = [] ∧ r = .bool (bareL x.cps.toList)) 60 512 := by
  w_on
  unfold Spec
  k_fill
  intros; rename_i hret
  refine wpAny_call ?_
  k_dflt (refine' code_defCT ?k1 ?k2 ?k3 ?k4 ?k5 ?kA ?kF ?kK ?k6 ?k7 ?k8 ?k9 ?kB ?kD ?_ ?c2 ?c3 ?c4; (case kA => exact rfl); (case kF => exact rfl); (case kK => assumption); (case k1 => k_asm); (case k2 => k_asm); (case k3 => k_asm); (case k4 => k_asm); (case k5 => k_asm); (case k6 => k_is); (case k7 => k_is); (case k8 => ktr_room); (case k9 => exact BindsTo.of_eq rfl); (case kB => exact rfl); (case kD => decide +kernel); (case c2 => exact rfl); (case c3 => exact rfl); (case c4 => exact rfl))
  intro g' L' h' tk' cells' FG' F' N' Y' B' X' T' l1 htk
  k_cells Y'
  (try simp only [List.cons_append, List.nil_append] at N')
  (try dsimp only)
  (try k_lift B')
  (try k_fold)
  have hnc : ∀ p ∈ news, p.1 ≠ L' + 1 := fun p hp => Nat.ne_of_lt (Nat.lt_succ_of_lt (l1 p hp))
  walk_at "steps to for"
  rename Fr _ _ _ _ => F1
  rename News _ _ _ _ => N1
  refine For_T F1 ?_
  walk_at "steps"
  obtain ⟨R, oc, rC, rn, N1, hoc⟩ : ∃ (R : Addr) (oc : Obj), @LT.lt Nat _ (L' + 1) R ∧ AllLt R news ∧ News g' L' _ ((R, W.listOf #[] 0) :: (L' + 1, oc) :: news) ∧ oc.data = .cell (some (.ref R)) := by
    rename _ ∧ AllLt _ news => ll
    exact ⟨_, _, ll.1, ll.2, N1, by assumption⟩
  refine loop_str (by rfl) (by rfl) (by rfl) F1 N1 (fun i m nw => m (Str.ofString "text") = some (.str x tx) ∧ ∃ vs k, nw = (R, W.listOf vs.toArray k) :: (L' + 1, oc) :: news ∧ StrsAre vs ((namesL (x.cps.toList.take i)).map sg)) ⟨rfl, [], 0, rfl, .nil⟩ ?step ?done
  case step =>
    rintro i c u m₁ news₁ h tk I oI hc hu1 hu2 ⟨hx1, vs, k, rfl, hvs⟩ hoff F2 N2 g
    have hl2 : (fun z => if z = Str.ofString "letter" then some (.str ⟨#[c]⟩ u) else m₁ z) (Str.ofString "letter") = some (Value.str ⟨#[c]⟩ u) := rfl
    have hx2 : (fun z => if z = Str.ofString "letter" then some (Value.str ⟨#[c]⟩ u) else m₁ z) (Str.ofString "text") = some (.str x tx) := hx1
    generalize (fun z => if z = Str.ofString "letter" then some (Value.str ⟨#[c]⟩ u) else m₁ z) = m₂ at F2 hl2 hx2
    clear F1 N1
    simp only [List.cons_append] at N2
    walk_at "steps"
    · rename _ = _ => ha
      have hmem : c ∈ namesL (x.cps.toList.take i) := by
        have h2 := any_sg (namesL (x.cps.toList.take i)) c
        rw [show (fun s => s == sg c) = (fun s : Str => s == ⟨#[c]⟩) from rfl, ha] at h2
        simpa using h2.symm
      refine FEnd.of F2 N2 ((R, W.listOf vs.toArray k) :: (L' + 1, oc) :: news) (fun e he => by simp only [List.mem_append, List.mem_cons, List.not_mem_nil, or_false] at he ⊢; grind) (fun e he hm => hoff e he (List.mem_singleton.mp hm)) ⟨hx2, vs, k, rfl, ?_⟩
      rw [take_snocB (by rw [Array.getElem?_toList]; exact hc), namesL_snoc, if_pos hmem]
      exact hvs
    · rename _ = _ => ha
      have hmem : c ∉ namesL (x.cps.toList.take i) := by
        have h2 := any_sg (namesL (x.cps.toList.take i)) c
        rw [show (fun s => s == sg c) = (fun s : Str => s == ⟨#[c]⟩) from rfl, ha] at h2
        simpa using h2.symm
      have hn7 : vs.length ≤ 1000 := by
        rw [StrsAre.length hvs, List.length_map]
        have := namesL_len (x.cps.toList.take i)
        have h2 := List.length_take_le i x.cps.toList
        have h3 : x.cps.toList.length = 7 := by rw [Array.length_toList]; exact hl
        have h4 := List.length_take_le' i x.cps.toList
        lia
      refine acc_append0 F2 N2 (fun e he => ?_) hn7 fun h3 F3 N3 => ?_
      · rcases List.mem_cons.mp he with rfl | he
        · exact Nat.ne_of_lt rC
        rcases List.mem_append.mp he with he | he
        · exact Nat.ne_of_lt (lt_allB rn e he)
        · rw [List.mem_singleton.mp he]; exact fun z => hoff (R, _) List.mem_cons_self z.symm
      walk_at "steps"
      refine FEnd.of F3 N3 ((R, W.listOf (vs ++ [Value.str ⟨#[c]⟩ u]).toArray (k + 1)) :: (L' + 1, oc) :: news) (fun e he => by simp only [List.mem_append, List.mem_cons, List.not_mem_nil, or_false] at he ⊢; grind) ?_ ⟨hx2, _, _, rfl, ?_⟩
      · intro e he hm
        rcases List.mem_cons.mp he with rfl | he
        · exact hoff (R, W.listOf vs.toArray k) List.mem_cons_self (List.mem_singleton.mp hm)
        · exact hoff e (List.mem_cons_of_mem _ he) (List.mem_singleton.mp hm)
      · rw [take_snocB (by rw [Array.getElem?_toList]; exact hc), namesL_snoc, if_neg hmem, List.map_append]
        exact strs_snocB hvs
  case done =>
    rintro h tk m₁ news₁ htk F2 N2 ⟨hx1, vs, k, rfl, hvs⟩
    clear F1 N1
    walk_at "steps to block"
    rw [← Array.length_toList, List.take_length] at hvs
    have hna : namesL x.cps.toList ∈ allN := namesL_all _ hx
    have hnm := namesL_mem x.cps.toList
    generalize hns : namesL x.cps.toList = ns at hvs hna hnm
    refine ListComp_T F2 (by with_unfolding_all rfl) (by decide) (by with_unfolding_all rfl) (by decide) ?_
    walk_at "steps"
    refine block_str (by rfl) (by rfl) (by with_unfolding_all rfl) F2 N2 (by rw [hl, sizeLine_eq]; decide) (fun i ys nw => nw = _ ∧ StrsAre ys ((x.cps.toList.take i).map fun c => sg (97 + ns.idxOf c))) ⟨rfl, .nil⟩ ?_ ?_ ?_
    · rintro i c u oC C D I m₂ ys news₁ h3 tk3 own E' hc hm₂ hu1 hu2 ⟨rfl, hys⟩ hown hoC F3 N3 hCD hoff g
      have hcm : c ∈ ns := hnm c (Array.mem_toList_iff.mpr (Array.mem_of_getElem? hc))
      replace N3 : News g' L' h3 ((R, W.listOf vs.toArray k) :: (L' + 1, oc) :: (C, oC) :: (D, lst ys) :: (own ++ news)) := fun e he => N3 e (by simp only [List.mem_append, List.mem_cons] at he ⊢; grind)
      refine wpAny_tests_nil ?_
      walk_at "steps to index"
      refine index_list_strs (l := R) (k := sg c) ⟨_, (N3 _ List.mem_cons_self).1, rfl, _, rfl⟩ hvs (by rw [List.length_map]; have := allN_len ns hna; lia) (List.mem_map.mpr ⟨c, hcm, rfl⟩) ?_
      rw [idx_sg]
      have hj : ns.idxOf c = 0 ∨ ns.idxOf c = 1 ∨ ns.idxOf c = 2 := by
        have h1 := List.idxOf_lt_length_iff.mpr hcm
        have h2 := allN_len ns hna
        lia
      have key : ∀ j t, ns.idxOf c = j → StrsAre (ys ++ [Value.str (sg (97 + j)) t]) ((x.cps.toList.take (i + 1)).map fun c => sg (97 + ns.idxOf c)) := fun j t hj => by
        rw [take_snocB (by rw [Array.getElem?_toList]; exact hc), List.map_append]
        simp only [List.map_cons, List.map_nil, hj]
        exact strs_snocB hys
      rcases hj with e | e | e
      all_goals
        rw [e]
        walk_at "steps"
        refine ⟨_, _, (R, W.listOf vs.toArray k) :: (L' + 1, oc) :: news, rfl, F3, fun e he => N3 e (by simp only [List.mem_append, List.mem_cons] at he ⊢; grind), hoff, rfl, key _ _ e⟩
    · rintro i ys nw ⟨_, h⟩
      rw [StrsAre.length h, List.length_map]
      exact List.length_take_le _ _
    · rintro g ys nw ⟨rfl, h⟩
      intro D h3 tk3 F5 N5 hD
      rw [← Array.length_toList, List.take_length] at h
      walk_at "steps"
      refine join_list (D := D) ⟨_, (N5 _ List.mem_cons_self).1, rfl, _, rfl⟩ h ?_ fun t4 k4 => ?_
      · rw [len_sg]; show _ + _ * 0 ≤ _; rw [List.length_map, Array.length_toList, hl]; decide
      rw [join_cat]
      dsimp only
      walk_at "steps to compare"
      rename Fr _ _ _ _ => F6
      rename News _ _ _ _ => N6
      refine in_tuple_strs ⟨_, (N6 _ List.mem_cons_self).1, rfl, _, rfl⟩ (.cons _ _ (.cons _ _ (.cons _ _ .nil))) ?_
      rw [← hns, bare_any]
      walk_at "steps"
      rename Fr _ _ _ _ => F7
      rename News _ _ _ _ => N7
      refine hret _ [] _ _ ⟨rfl, rfl⟩ F7 ?_
      · exact fun e he => N7 e (by simp only [List.nil_append] at he; simp only [List.mem_cons]; exact .inr (.inr (.inr (.inr he))))
end
-- L2
section
local macro_rules | `(tactic| walk_at "pad0") => `(tactic| fail)
local macro_rules | `(tactic| walk_at "steps to comp") => `(tactic| repeat' ((fail_if_success (with_reducible show wpAny _ _ (exec (PySem.Stmt.Assign [PySem.Expr.Name _ _] (PySem.Expr.ListComp _ _ _ _) _) _) _ _ _)); first | (k_unfold; (try dsimp only)) | (k_end; wrow_close) | (walk1; all_goals (try dsimp only)) | (dsimp only; walk1) | (leave1; walk_say "STEP leave1"; try dsimp only)))
local macro_rules | `(tactic| walk_at "steps to execs") => `(tactic| repeat' ((fail_if_success (with_reducible show wpAny _ _ (execs (PySem.Stmt.Assign _ _ _ :: _) _) _ _ _)); first | (k_unfold; (try dsimp only)) | (k_end; wrow_close) | (walk1; all_goals (try dsimp only)) | (dsimp only; walk1) | (leave1; walk_say "STEP leave1"; try dsimp only)))
local macro_rules | `(tactic| k_all) => `(tactic| assumption)
local macro_rules | `(tactic| walk_at "eval Name") => `(tactic| (k_here; k_dflt (refine' nameX_L ?F ?v ?_ ?a ?b; (case F => k_asm); (case a => rfl); (case b => rfl); (case v => assumption); k_whole)))
section
variable {prog : Program} {w : World} {A : Around} {E : Value → Shared → Prop} {s : Shared}
inductive SliceO (g : Heap) (L : Addr) (Q : Value → Shared → Prop) (o vl vu : Value) (s₃ : Shared) : Prop
  | mk (l : Addr) (items : Array Value) (lo hi : Option Int) (m : Str → Option Value) (news : Led)
    (q1 : o = .ref l) (q2 : Fr g L s₃.heap m) (q3 : News g L s₃.heap news) (q4 : s₃.heap.IsList l items) (q5 : items.size ≤ 1000) (q6 : IsPart vl lo) (q7 : IsPart vu hi) (q8 : ∀ D h', Fr g L h' m → News g L h' ((D, W.listOf (slicePick items lo hi none) 0) :: news) → (∀ p ∈ news, p.1 < D) → Q (.ref D) { s₃ with heap := h' }) : SliceO g L Q o vl vu s₃
/-- a slice of a list that stood before -/
theorem slice_old {env : Env} {value : PySem.Expr} {lower upper : Option PySem.Expr} {p pos : Pos} {Q : Value → Shared → Prop} (g : Heap) (L : Addr)
    (h : wpAny (model prog w) A (eval value env) (fun o s₁ => wpAny (model prog w) A (evalPart lower env) (fun vl s₂ => wpAny (model prog w) A (evalPart upper env) (fun vu s₃ => SliceO g L Q o vl vu s₃) E s₂) E s₁) E s)
    (ht : ∀ o r, letTemporaryGo value o r = pure () := by intro _ _; rfl) : wpAny (model prog w) A (eval (.Subscript value (.Slice lower upper none p) pos) env) Q E s := by
  refine wpAny_Subscript_list_slice (wpAny_mono h (fun o s₁ h₁ => wpAny_mono h₁ (fun vl s₂ h₂ => wpAny_mono h₂ (fun vu s₃ h₃ => ?_) fun _ _ e => e) fun _ _ e => e) fun _ _ e => e) ht
  obtain ⟨l, items, lo, hi, m, news, rfl, F, N, hm, hz, pl, pu, hQ⟩ := h₃
  refine ⟨l, items, lo, hi, rfl, hm, by rw [sizeLine_eq]; lia, pl, pu, ?_⟩
  have F1 := F.push { cls := .type "slice", data := .fields #[vl, vu, .none] }
  have N1 : News g L (s₃.heap.push { cls := .type "slice", data := .fields #[vl, vu, .none] }) news := fun p hp => ⟨Heap.get?_push_of_some _ (N p hp).1, (N p hp).2⟩
  have q := hQ _ _ (F1.push _) (N1.push F1 _) fun p hp => Heap.lt_size (N1 p hp).1
  rw [Heap.size_push] at q
  exact q
end
section
variable {prog : Program} {w : World} {A : Around} {E : Value → Shared → Prop} {value slice : PySem.Expr} {l : Addr} {its : Array Value} {h₀ h : Heap} {L : Addr} {m : Str → Option Value} {news : Led} {Q : Value → Shared → Prop} {vl vu : Value} {lo hi : Option Int} {G : Array GenState} {dr : Drawn} {tk : Nat} {os : OsState}
theorem slice_tail (F : Fr h₀ L h m) (N : News h₀ L h news) (hl : h.IsList l its) (pl : IsPart vl lo) (pu : IsPart vu hi) (hz : its.size ≤ 1000)
    (hQ : ∀ D h', Fr h₀ L h' m → News h₀ L h' ((D, W.listOf (slicePick its lo hi none) 0) :: news) → (∀ p ∈ news, p.1 < D) → Q (.ref D) ⟨h', G, dr, tk, os⟩)
    (hs : subscripted slice false (.ref l) (.ref h.objs.size) = operate [.ref h.objs.size, .ref l] (getItem (.ref l) (.ref h.objs.size)) := by with_unfolding_all rfl) (ht : ∀ r, letTemporaryGo value (.ref l) r = pure () := by intro _; with_unfolding_all rfl) :
    wpAny (model prog w) A (subscriptTail value slice (.ref l) (.ref h.objs.size)) Q E ⟨h.push { cls := .type "slice", data := .fields #[vl, vu, .none] }, G, dr, tk, os⟩ :=
  kmk_slice (s := ⟨h, G, dr, tk, os⟩) F N hl pl pu hQ hs ht (by rw [sizeLine_eq]; lia)
theorem slice_tail_ints {vs : List Value} {ns : List Int} {x : Int} {u : Tok} (F : Fr h₀ L h m) (N : News h₀ L h news) (hl : h.IsList l vs.toArray) (hi' : IntsAre vs ns) (h0 : 0 ≤ x) (hz : vs.length ≤ 1000)
    (hQ : ∀ D ws h', Fr h₀ L h' m → News h₀ L h' ((D, W.listOf (List.toArray ws) 0) :: news) → IntsAre ws (ns.drop x.toNat) → Q (.ref D) ⟨h', G, dr, tk, os⟩)
    (hs : subscripted slice false (.ref l) (.ref h.objs.size) = operate [.ref h.objs.size, .ref l] (getItem (.ref l) (.ref h.objs.size)) := by with_unfolding_all rfl) (ht : ∀ r, letTemporaryGo value (.ref l) r = pure () := by intro _; with_unfolding_all rfl) :
    wpAny (model prog w) A (subscriptTail value slice (.ref l) (.ref h.objs.size)) Q E ⟨h.push { cls := .type "slice", data := .fields #[.int x u, .none, .none] }, G, dr, tk, os⟩ :=
  slice_tail F N hl (.int _ _) .none (by rw [List.size_toArray]; exact hz) (fun D h' F' N' _ => hQ D (slicePick vs.toArray (some x) none none).toList h' F' (by rw [Array.toArray_toList]; exact N') (kmk_from hi' h0)) hs ht
end
theorem take_snocA {α : Type} {l : List α} {i : Nat} {c : α} (h : l[i]? = some c) : l.take (i + 1) = l.take i ++ [c] := by
  rw [List.take_succ, h]; rfl
noncomputable def numsL (ns : List Int) : List Int := ((ns.take 8).map fun n => n.fmod 1000000) ++ ([9, 3, 20, 7, 33, 2, 0, 11] : List Int).drop (ns.take 8).length
theorem numsL_len (ns : List Int) : (numsL ns).length = 8 := by
  unfold numsL
  rw [List.length_append, List.length_map, List.length_drop, List.length_take]
  show min 8 ns.length + (8 - min 8 ns.length) = 8
  lia
theorem numsL_bd (ns : List Int) : ∀ n ∈ numsL ns, 0 ≤ n ∧ n < 1000000 := by
  intro n hn
  rcases List.mem_append.mp hn with hn | hn
  · obtain ⟨k, _, rfl⟩ := List.mem_map.mp hn
    exact ⟨Int.fmod_nonneg_of_pos _ (by decide), Int.fmod_lt_of_pos _ (by decide)⟩
  · have := List.mem_of_mem_drop hn
    simp only [List.mem_cons, List.not_mem_nil, or_false] at this
    lia
theorem law_nums (w : World) (ns : List Int) (vs : List Value) (l : Addr) (hI : IntsAre vs ns) (hlen : vs.length ≤ 63) (mean : ExcName → Option Value) (mg mb : Str → Option Value) (fa : Addr) (ccd : Value) (base g : Heap) (L : Addr)
    (m : Str → Option Value) (s : Shared) (Q : Flow → Shared → Prop) (E : Value → Shared → Prop)
    (hm : m (Str.ofString "script") = some (.ref l)) (hl : g.IsList l vs.toArray) :
    Below callerA base [] g → Fr g L s.heap m → (KK w.params).In g → News g L s.heap [] → Top qv (looseW qv loose) mean mg mb g →
    (∀ h' tk m' D us, m' (Str.ofString "numbers") = some (.ref D) → IntsAre us (numsL ns) → Fr g L h' m' → News g L h' [(D, W.listOf us.toArray 0)] → wpAny (model rr.prog w) (callerA.deeper (envOf (Str.ofString "law") C24 L fa ccd)) (execs (B24.drop 2) (envOf (Str.ofString "law") C24 L fa ccd)) Q E { s with heap := h', toks := tk }) →
      wpAny (model rr.prog w) (callerA.deeper (envOf (Str.ofString "law") C24 L fa ccd)) (execs B24 (envOf (Str.ofString "law") C24 L fa ccd)) Q E s := by
  w_on
  k_fill
  intro B' F X' N T' hQ
  walk_at "steps to comp"
  refine Assign_ListComp_T F rfl (by with_unfolding_all rfl) (by with_unfolding_all rfl) (by decide) (by with_unfolding_all rfl) (by decide) (by rfl) (by rfl) ?_
  walk_at "steps to slice"
  refine slice_old g L ?_
  walk_at "steps"
  have hvl : vs.length = ns.length := IntsAre.length hI
  refine ⟨l, vs.toArray, none, some 8, m, [], rfl, F, N, ?_, by rw [List.size_toArray]; lia, .none, .int _ _, fun D h1 F1 N1 l1 => ?_⟩
  · obtain ⟨o, ho, r⟩ := hl
    exact ⟨o, F.keep _ _ ho, r⟩
  have hI8 : IntsAre (slicePick vs.toArray none (some 8) none).toList (ns.take 8) := slice_ints_uptoW hI (by decide)
  have hz8 : (slicePick vs.toArray none (some 8) none).size = (ns.take 8).length := by rw [← IntsAre.length hI8, Array.length_toList]
  generalize slicePick vs.toArray none (some 8) none = A8 at N1 hI8 hz8
  generalize hn8 : ns.take 8 = n8 at hI8 hz8
  have hl8 : n8.length ≤ 8 := by rw [← hn8, List.length_take]; lia
  have hDL : L ≠ D := fun e => (N1 _ List.mem_cons_self).2.1 e.symm
  dsimp only
  refine block_list (by rfl) (by rfl) (by with_unfolding_all rfl) F1 N1 ⟨_, (N1 _ List.mem_cons_self).1, rfl, _, rfl⟩ hDL (by rw [sizeLine_eq]; lia) (fun i ys nw => nw = _ ∧ IntsAre ys ((n8.take i).map fun n => n.fmod 1000000)) ⟨rfl, .nil⟩ ?_ ?_ ?_
  · rintro i v oC C D' I m₂ ys news₁ h2 tk own E' hv hm₂ ⟨rfl, hys⟩ hown hoC F2 N2 hCD hoff g2
    obtain ⟨n, t, rfl, hn⟩ := ints_get i hI8 (by rw [Array.getElem?_toList]; exact hv)
    refine wpAny_tests_nil ?_
    walk_at "steps"
    refine ⟨_, _, _, rfl, F2, N2, hoff, rfl, ?_⟩
    rw [show (10 : Int) ^ Int.toNat 6 = 1000000 from rfl, take_snocA hn, List.map_append]
    exact ints_snoc hys
  · rintro i ys nw ⟨_, h⟩
    rw [IntsAre.length h, List.length_map]
    exact List.length_take_le _ _
  · rintro g2 ys nw ⟨rfl, h⟩
    intro D2 h2 tk2 F2 N2 hD2
    rw [hz8, List.take_length] at h
    have hys : ys.length = n8.length := by rw [IntsAre.length h, List.length_map]
    dsimp only
    walk_at "steps"
    rename Fr _ _ _ _ => F3
    rename News _ _ _ _ => N3
    refine slice_tail_ints F3 N3 ⟨_, (N3 _ List.mem_cons_self).1, rfl, _, rfl⟩ (.cons _ _ (.cons _ _ (.cons _ _ (.cons _ _ (.cons _ _ (.cons _ _ (.cons _ _ (.cons _ _ .nil)))))))) (by lia) (show 8 ≤ 1000 by decide) fun D4 ws h4 F4 N4 hI4 => ?_
    refine kmk_add_ints F4 N4 (vs := ys) (ws := ws) ⟨_, (N4 _ (List.mem_cons_of_mem _ (List.mem_cons_of_mem _ List.mem_cons_self))).1, rfl, _, rfl⟩ ⟨_, (N4 _ List.mem_cons_self).1, rfl, _, rfl⟩ h hI4 (fun D5 us h5 F5 N5 l5 hI5 => ?_) ?_
    rotate_left
    · have h1 := numsL_len ns
      unfold numsL at h1
      rw [hn8] at h1
      rw [sizeLine_eq, Int.toNat_natCast, List.length_map, ← List.length_map (f := fun n : Int => n.fmod 1000000), ← List.length_append, List.length_map, h1]
      decide
    have e5 : (n8.map fun n => n.fmod 1000000) ++ ([9, 3, 20, 7, 33, 2, 0, 11] : List Int).drop ((n8.map fun n => n.fmod 1000000).length : Int).toNat = numsL ns := by
      unfold numsL
      rw [hn8, Int.toNat_natCast, List.length_map]
    rw [e5] at hI5
    replace N5 : News g L h5 [(D5, W.listOf us.toArray 0)] := fun e he => N5 e (List.mem_cons.mpr (.inl (List.mem_singleton.mp he)))
    clear F3 N3 F4 N4
    walk_at "steps to execs"
    rename Fr _ _ _ _ => F6
    rename News _ _ _ _ => N6
    trace_state
    exact hQ _ _ _ D5 us rfl hI5 F6 N6
end
-- L3
section
local macro_rules | `(tactic| k_all) => `(tactic| assumption)
local macro_rules | `(tactic| walk_at "eval Name") => `(tactic| (k_here; k_dflt (refine' nameX_L ?F ?v ?_ ?a ?b; (case F => k_asm); (case a => rfl); (case b => rfl); (case v => assumption); k_whole)))
noncomputable def typedT (ns : List Int) : Str := cat (ns.map typedS)
noncomputable def meantT (ns : List Int) : Str := cat (ns.map fun n => meantS (n.fmod 12))
theorem cat_app (a b : List Str) : (cat (a ++ b)).cps.toList = (cat a).cps.toList ++ (cat b).cps.toList := by simp [cat]
noncomputable def tyB (a b : Nat) : Bool :=
  ((aheadS (b : Int) ++ ⟨#[letterC (a : Int)]⟩).cps.toList.all fun c => decide (c ∈ [173, 65024, 102, 105, 108, 70, 73, 76, 8497, 8464, 8466, 64257, 64258, 64259])) && decide ((aheadS (b : Int) ++ ⟨#[letterC (a : Int)]⟩).cps.size ≤ 2) && decide (1 ≤ (aheadS (b : Int) ++ ⟨#[letterC (a : Int)]⟩).cps.size) &&
  decide ((prepL (aheadS (b : Int) ++ ⟨#[letterC (a : Int)]⟩).cps.toList).flatMap (·.cps.toList) = (meantS (a : Int)).cps.toList) && decide (1 ≤ (meantS (a : Int)).cps.toList.length) && decide ((meantS (a : Int)).cps.toList.length ≤ 3) && (meantS (a : Int)).cps.toList.all fun c => decide (c = 102 ∨ c = 105 ∨ c = 108)
theorem tyB_all : ∀ a < 12, ∀ b < 3, tyB a b = true := by decide +kernel
theorem typed_ok (n : Int) : (∀ c ∈ (typedS n).cps.toList, Sign c) ∧ (typedS n).cps.size ≤ 2 ∧ 1 ≤ (typedS n).cps.size ∧ (prepL (typedS n).cps.toList).flatMap (·.cps.toList) = (meantS (n.fmod 12)).cps.toList ∧ 1 ≤ (meantS (n.fmod 12)).cps.toList.length ∧ (meantS (n.fmod 12)).cps.toList.length ≤ 3 ∧ ∀ c ∈ (meantS (n.fmod 12)).cps.toList, c = 102 ∨ c = 105 ∨ c = 108 := by
  have h1 : 0 ≤ n.fmod 12 := Int.fmod_nonneg_of_pos _ (by decide)
  have h2 : n.fmod 12 < 12 := Int.fmod_lt_of_pos _ (by decide)
  have h3 : 0 ≤ (n.fdiv 12).fmod 3 := Int.fmod_nonneg_of_pos _ (by decide)
  have h4 : (n.fdiv 12).fmod 3 < 3 := Int.fmod_lt_of_pos _ (by decide)
  unfold typedS
  generalize n.fmod 12 = r at h1 h2
  generalize (n.fdiv 12).fmod 3 = q at h3 h4
  obtain ⟨a, rfl⟩ := Int.eq_ofNat_of_zero_le h1
  obtain ⟨b, rfl⟩ := Int.eq_ofNat_of_zero_le h3
  have ha : a < 12 := by lia
  have hb : b < 3 := by lia
  have h := tyB_all a ha b hb
  unfold tyB at h
  simp only [Bool.and_eq_true, decide_eq_true_eq, List.all_eq_true] at h
  obtain ⟨⟨⟨⟨⟨⟨k1, k2⟩, k3⟩, k4⟩, k5⟩, k6⟩, k7⟩ := h
  exact ⟨fun c hc => k1 c hc, k2, k3, k4, k5, k6, k7⟩
theorem prepL_app (a b : List Nat) : prepL (a ++ b) = prepL a ++ prepL b := by simp [prepL]
theorem prep_meant : ∀ ns : List Int, cat (prepL (typedT ns).cps.toList) = meantT ns := by
  intro ns
  have gen : ∀ ns : List Int, (prepL (typedT ns).cps.toList).flatMap (·.cps.toList) = (meantT ns).cps.toList := by
    intro ns
    induction ns with
    | nil => rfl
    | cons n ns ih =>
      have e1 : (typedT (n :: ns)).cps.toList = (typedS n).cps.toList ++ (typedT ns).cps.toList := by simp [typedT, cat]
      have e2 : (meantT (n :: ns)).cps.toList = (meantS (n.fmod 12)).cps.toList ++ (meantT ns).cps.toList := by simp [meantT, cat]
      rw [e1, e2, prepL_app, List.flatMap_append, ih, (typed_ok n).2.2.2.1]
  have h := gen ns
  show (⟨((prepL (typedT ns).cps.toList).flatMap (·.cps.toList)).toArray⟩ : Str) = _
  rw [h, Array.toArray_toList]
theorem typedT_sign (ns : List Int) : ∀ c ∈ (typedT ns).cps.toList, Sign c := by
  induction ns with
  | nil => intro c hc; exact absurd hc (by simp [typedT, cat])
  | cons n ns ih =>
    intro c hc
    have e1 : (typedT (n :: ns)).cps.toList = (typedS n).cps.toList ++ (typedT ns).cps.toList := by simp [typedT, cat]
    rw [e1] at hc
    rcases List.mem_append.mp hc with hc | hc
    · exact (typed_ok n).1 c hc
    · exact ih c hc
theorem typedT_size (ns : List Int) : (typedT ns).cps.toList.length ≤ 2 * ns.length := by
  induction ns with
  | nil => simp [typedT, cat]
  | cons n ns ih =>
    have e1 : (typedT (n :: ns)).cps.toList = (typedS n).cps.toList ++ (typedT ns).cps.toList := by simp [typedT, cat]
    have h := (typed_ok n).2.1
    rw [e1, List.length_append, Array.length_toList, List.length_cons]
    lia
theorem meantT_size (ns : List Int) : ns.length ≤ (meantT ns).cps.toList.length ∧ (meantT ns).cps.toList.length ≤ 3 * ns.length := by
  induction ns with
  | nil => simp [meantT, cat]
  | cons n ns ih =>
    have e1 : (meantT (n :: ns)).cps.toList = (meantS (n.fmod 12)).cps.toList ++ (meantT ns).cps.toList := by simp [meantT, cat]
    have h := (typed_ok n).2.2.2.2
    rw [e1, List.length_append, List.length_cons]
    lia
theorem meantT_let (ns : List Int) : ∀ c ∈ (meantT ns).cps.toList, c = 102 ∨ c = 105 ∨ c = 108 := by
  induction ns with
  | nil => intro c hc; exact absurd hc (by simp [meantT, cat])
  | cons n ns ih =>
    intro c hc
    have e1 : (meantT (n :: ns)).cps.toList = (meantS (n.fmod 12)).cps.toList ++ (meantT ns).cps.toList := by simp [meantT, cat]
    rw [e1] at hc
    rcases List.mem_append.mp hc with hc | hc
    · exact (typed_ok n).2.2.2.2.2.2 c hc
    · exact ih c hc
end
-- L4
section
local macro_rules | `(tactic| walk_at "steps to execs") => `(tactic| repeat' ((fail_if_success (with_reducible show wpAny _ _ (execs (PySem.Stmt.Assign _ _ _ :: _) _) _ _ _)); first | (k_unfold; (try dsimp only)) | (k_end; wrow_close) | (walk1; all_goals (try dsimp only)) | (dsimp only; walk1) | (leave1; walk_say "STEP leave1"; try dsimp only)))
local macro_rules | `(tactic| walk_at "steps to join") => `(tactic| repeat' ((fail_if_success (with_reducible show wpAny _ _ (call (Value.builtin "str.join") _) _ _ _)); first | (k_unfold; (try dsimp only)) | (k_end; wrow_close) | (walk1; all_goals (try dsimp only)) | (dsimp only; walk1) | (leave1; walk_say "STEP leave1"; try dsimp only)))
local macro_rules | `(tactic| k_all) => `(tactic| assumption)
local macro_rules | `(tactic| walk_at "eval Name") => `(tactic| (k_here; k_dflt (refine' nameX_L ?F ?v ?_ ?a ?b; (case F => k_asm); (case a => rfl); (case b => rfl); (case v => assumption); k_whole)))
theorem typed_sum (ns : List Int) : ((ns.map typedS).map (·.length)).sum ≤ 2 * ns.length := by
  induction ns with
  | nil => exact Nat.le_refl _
  | cons n ns ih =>
    have h : (typedS n).length ≤ 2 := (typed_ok n).2.1
    simp only [List.map_cons, List.sum_cons, List.length_cons] at ih ⊢
    lia
theorem meant_sum (ns : List Int) : ((ns.map fun n => meantS (n.fmod 12)).map (·.length)).sum ≤ 3 * ns.length := by
  induction ns with
  | nil => exact Nat.le_refl _
  | cons n ns ih =>
    have h : (meantS (n.fmod 12)).length ≤ 3 := by have := (typed_ok n).2.2.2.2.2.1; rw [Array.length_toList] at this; exact this
    simp only [List.map_cons, List.sum_cons, List.length_cons] at ih ⊢
    lia
section
variable {prog : Program} {w : World} {A : Around} {E : Value → Shared → Prop} {value slice : PySem.Expr} {x : Str} {t : Tok} {h₀ h : Heap} {L : Addr} {m : Str → Option Value} {news : Led} {Q : Value → Shared → Prop} {j : Int} {uj : Tok} {G : Array GenState} {dr : Drawn} {tk : Nat} {os : OsState}
theorem slice_pc_to {x : Str} {q : Int} (h : 0 ≤ q ∧ q ≤ x.cps.size) : Txt.slice x none (some q) = pcS x 0 q :=
  (show Txt.slice x none (some q) = StrLaws.sliceText x none (some q) from rfl).trans (StrLaws.sliceText_to ⟨h.1, by rw [Array.length_toList]; exact h.2⟩)
theorem slice_sled_to (hF : Fr h₀ L h m) (hN : News h₀ L h news) (hb : 0 ≤ j ∧ j ≤ x.cps.size) (h8 : x.cps.size ≤ 1000) (hQ : ∀ h' t' k, Fr h₀ L h' m → News h₀ L h' news → Q (.str (pcS x 0 j) t') ⟨h', G, dr, k, os⟩)
    (hs : subscripted slice false (.str x t) (.ref h.objs.size) = operate [.ref h.objs.size, .str x t] (getItem (.str x t) (.ref h.objs.size)) := by with_unfolding_all rfl)
    (ht : ∀ r, letTemporaryGo value (.str x t) r = pure () := by intro _; with_unfolding_all rfl) :
    wpAny (model prog w) A (subscriptTail value slice (.str x t) (.ref h.objs.size)) Q E ⟨h.push { cls := .type "slice", data := .fields #[.none, .int j uj, .none] }, G, dr, tk, os⟩ :=
  slice_strN_ns_len (s := ⟨h, G, dr, tk, os⟩) hF hN (fun h' t' k F N _ => by rw [slice_pc_to hb]; exact hQ h' t' k F N) hs ht (by rw [sizeLine_eq]; show x.cps.size ≤ _; lia)
end
theorem law_text (w : World) (nums : List Int) (hn8 : nums.length = 8) (hnb : ∀ n ∈ nums, 0 ≤ n ∧ n < 1000000) (us : List Value) (hI : IntsAre us nums) (D : Addr) (mean : ExcName → Option Value) (mg mb : Str → Option Value) (fa : Addr) (ccd : Value) (base g : Heap) (L : Addr)
    (m : Str → Option Value) (s : Shared) (Q : Flow → Shared → Prop) (E : Value → Shared → Prop) (hm : m (Str.ofString "numbers") = some (.ref D)) :
    Below callerA base [] g → Fr g L s.heap m → (KK w.params).In g → News g L s.heap [(D, W.listOf us.toArray 0)] → Top qv (looseW qv loose) mean mg mb g →
    (∀ h' tk m' x t, m' (Str.ofString "word") = some (.str x t) → (∀ c ∈ x.cps.toList, c = 102 ∨ c = 105 ∨ c = 108) → x.cps.size = 8 → 0 < tk → Fr g L h' m' → News g L h' [] → wpAny (model rr.prog w) (callerA.deeper (envOf (Str.ofString "law") C24 L fa ccd)) (execs (B24.drop 5) (envOf (Str.ofString "law") C24 L fa ccd)) Q E { s with heap := h', toks := tk }) →
      wpAny (model rr.prog w) (callerA.deeper (envOf (Str.ofString "law") C24 L fa ccd)) (execs (B24.drop 2) (envOf (Str.ofString "law") C24 L fa ccd)) Q E s := by
  w_on
  k_fill
  intro B' F X' N T' hQ
  have hDL : L ≠ D := fun e => (N _ List.mem_cons_self).2.1 e.symm
  have hul : us.length = 8 := (IntsAre.length hI).trans hn8
  walk_at "steps to block"
  rename Fr _ _ _ _ => F1
  rename News _ _ _ _ => N1
  refine ListComp_T F1 (by with_unfolding_all rfl) (by decide) (by with_unfolding_all rfl) (by decide) ?_
  walk_at "steps"
  refine block_list (by rfl) (by rfl) (by with_unfolding_all rfl) F1 N1 ⟨_, (N1 _ List.mem_cons_self).1, rfl, _, rfl⟩ hDL (by rw [List.size_toArray, hul, sizeLine_eq]; decide) (fun i ys nw => nw = _ ∧ StrsAre ys ((nums.take i).map typedS)) ⟨rfl, .nil⟩ ?_ ?_ ?_
  · rintro i v oC C D' I m₂ ys news₁ h2 tk own E' hv hm₂ ⟨rfl, hys⟩ hown hoC F2 N2 hCD hoff g2
    obtain ⟨n, t, rfl, hn⟩ := ints_get i hI (by simpa using hv)
    have hb := hnb n (List.mem_of_getElem? hn)
    refine wpAny_tests_nil ?_
    walk_at "steps to call"
    refine (spec_typed w n t _ hb).use (by k_asm) F2 (by k_asm) N2 (by k_asm) rfl (by ktr_room) (by ktr_units) ?_
    rintro r nw h3 tk3 ⟨rfl, t3, rfl⟩ F3 N3
    dsimp only [List.nil_append] at N3 ⊢
    refine ⟨_, _, _, rfl, F3, N3, hoff, rfl, ?_⟩
    rw [take_snocA hn, List.map_append]
    exact strs_snocB hys
  · rintro i ys nw ⟨_, h⟩
    rw [StrsAre.length h, List.length_map]
    exact List.length_take_le _ _
  · rintro g2 ys nw ⟨rfl, h⟩
    intro D2 h2 tk2 F2 N2 hD2
    rw [List.size_toArray, hul, ← hn8, List.take_length] at h
    walk_at "steps to join"
    refine join_list (D := D2) ⟨_, (N2 _ List.mem_cons_self).1, rfl, _, rfl⟩ h ?_ fun t4 k4 => ?_
    · have h1 := typed_sum nums
      have h3 : (Str.ofString "").length = 0 := rfl
      rw [h3]
      lia
    rw [join_cat]
    dsimp only
    walk_at "steps to call"
    have h16 := typedT_size nums
    refine (spec_prep w (typedT nums) t4 _ (typedT_sign nums) (by rw [← Array.length_toList]; lia)).use (by k_asm) F2 (by k_asm) N2 (by k_asm) rfl (by ktr_room) (by ktr_units) ?_
    rintro r nw h3 tk3 ⟨rfl, t3, rfl⟩ F3 N3
    dsimp only [List.nil_append] at N3 ⊢
    rw [prep_meant]
    clear F2 N2
    replace N3 : News g L h3 [(D, W.listOf us.toArray 0)] := fun e he => N3 e (List.mem_cons_of_mem _ he)
    walk_at "steps to block"
    rename Fr _ _ _ _ => F4
    rename News _ _ _ _ => N4
    refine ListComp_T F4 (by with_unfolding_all rfl) (by decide) (by with_unfolding_all rfl) (by decide) ?_
    walk_at "steps"
    refine block_list (by rfl) (by rfl) (by with_unfolding_all rfl) F4 N4 ⟨_, (N4 _ List.mem_cons_self).1, rfl, _, rfl⟩ hDL (by rw [List.size_toArray, hul, sizeLine_eq]; decide) (fun i ys nw => nw = _ ∧ StrsAre ys ((nums.take i).map fun n => meantS (n.fmod 12))) ⟨rfl, .nil⟩ ?_ ?_ ?_
    · rintro i v oC C D' I m₂ ys news₁ h5 tk own E' hv hm₂ ⟨rfl, hys⟩ hown hoC F5 N5 hCD hoff g2
      obtain ⟨n, t, rfl, hn⟩ := ints_get i hI (by simpa using hv)
      have hb := hnb n (List.mem_of_getElem? hn)
      refine wpAny_tests_nil ?_
      walk_at "steps to call"
      refine (spec_meant w n t _ hb).use (by k_asm) F5 (by k_asm) N5 (by k_asm) rfl (by ktr_room) (by ktr_units) ?_
      rintro r nw h6 tk6 ⟨rfl, t6, rfl⟩ F6 N6
      dsimp only [List.nil_append] at N6 ⊢
      refine ⟨_, _, _, rfl, F6, N6, hoff, rfl, ?_⟩
      rw [take_snocA hn, List.map_append]
      exact strs_snocB hys
    · rintro i ys nw ⟨_, h⟩
      rw [StrsAre.length h, List.length_map]
      exact List.length_take_le _ _
    · rintro g2 ys nw ⟨rfl, h⟩
      intro D5 h5 tk5 F5 N5 hD5
      rw [List.size_toArray, hul, ← hn8, List.take_length] at h
      walk_at "steps to join"
      refine join_list (D := D5) ⟨_, (N5 _ List.mem_cons_self).1, rfl, _, rfl⟩ h ?_ fun t7 k7 => ?_
      · have h1 := meant_sum nums
        have h3 : (Str.ofString "").length = 0 := rfl
        rw [h3]
        lia
      rw [join_cat]
      dsimp only
      rw [show cat (nums.map fun n => meantS (n.fmod 12)) = meantT nums from rfl]
      walk_at "steps to execs"
      · rename _ = true => hh
        simp at hh
      rename _ = false => hh
      clear hh
      have hms := meantT_size nums
      have hml := meantT_let nums
      rw [hn8] at hms
      generalize meantT nums = z at hms hml F5 N5
      walk_at "steps to tail"
      refine slice_sled_to F5 N5 ⟨by decide, by rw [← Array.length_toList]; lia⟩ (by rw [← Array.length_toList]; lia) fun h8 t8 k8 F8 N8 => ?_
      walk_at "steps to execs"
      rename Fr _ _ _ _ => F9
      rename News _ _ _ _ => N9
      refine hQ _ _ _ (pcS z 0 8) t8 rfl ?_ ?_ (Nat.succ_pos _) F9 fun e he => nomatch he
      · exact fun c hc => hml c (List.mem_of_mem_drop (List.mem_of_mem_take hc))
      · exact pc_size ⟨by decide, by decide, by rw [← Array.length_toList]; lia⟩
end
-- C17
section
noncomputable def Row6 (d : PyData) (vals : Array Value) : Prop := ∃ (p b : Int) (s x y : Bool) (l : List PyData) (t u : Tok) (v6 : Value), d = .tuple [.int p, .int b, .bool s, .bool x, .bool y, .list l] ∧ vals = #[.int p t, .int b u, .bool s, .bool x, .bool y, v6]
noncomputable def IsRow6 (d : PyData) : Prop := ∃ (p b : Int) (s x y : Bool) (l : List PyData), d = .tuple [.int p, .int b, .bool s, .bool x, .bool y, .list l]
theorem rd_int {h : Heap} {v : Value} {i : Int} {as : List Addr} (r : Reads h v (.int i) as) : ∃ t, v = .int i t := by cases r; exact ⟨_, rfl⟩
theorem rd_bool {h : Heap} {v : Value} {b : Bool} {as : List Addr} (r : Reads h v (.bool b) as) : v = .bool b := by cases r; rfl
theorem rd_cons {h : Heap} {vs : List Value} {d : PyData} {ds : List PyData} {as : List Addr} (r : ReadsAll h vs (d :: ds) as) : ∃ v vs' a b, vs = v :: vs' ∧ Reads h v d a ∧ ReadsAll h vs' ds b := by
  cases r with | cons r rs => exact ⟨_, _, _, _, rfl, r, rs⟩
theorem rd_nil {h : Heap} {vs : List Value} {as : List Addr} (r : ReadsAll h vs [] as) : vs = [] := by cases r; rfl
theorem rd_tuple {h : Heap} {v : Value} {ds : List PyData} {as : List Addr} (r : Reads h v (.tuple ds) as) : ∃ a vs, v = .ref a ∧ h.IsTuple a vs ∧ ReadsAll h vs.toList ds as := by
  cases r with | tuple ho hc hdt hv => exact ⟨_, _, rfl, ⟨_, ho, hc, _, hdt⟩, hv⟩
theorem reads_get {h : Heap} : ∀ {vs : List Value} {ds : List PyData} {as : List Addr} (i : Nat) {v : Value}, ReadsAll h vs ds as → vs[i]? = some v → ∃ d bs, ds[i]? = some d ∧ Reads h v d bs := by
  intro vs ds
  induction ds generalizing vs with
  | nil => intro as i v r e; rw [rd_nil r] at e; simp at e
  | cons d ds ih =>
    intro as i v r e
    obtain ⟨v1, t1, a, b, e1, r1, k⟩ := rd_cons r
    rw [e1] at e
    cases i with
    | zero => exact ⟨d, a, rfl, Option.some.inj e ▸ r1⟩
    | succ i => exact ih i k e
theorem read_row6 {h : Heap} {v : Value} {d : PyData} {as : List Addr} (r : Reads h v d as) (hd : IsRow6 d) : ∃ T vals, v = .ref T ∧ h.IsTuple T vals ∧ Row6 d vals := by
  obtain ⟨p, b, s, x, y, l, e0⟩ := hd
  rw [e0] at r ⊢
  obtain ⟨a, vs, ev, hT, hv⟩ := rd_tuple r
  refine ⟨a, vs, ev, hT, ?_⟩
  obtain ⟨v1, t1, _, _, e1, r1, hv⟩ := rd_cons hv
  obtain ⟨v2, t2, _, _, e2, r2, hv⟩ := rd_cons hv
  obtain ⟨v3, t3, _, _, e3, r3, hv⟩ := rd_cons hv
  obtain ⟨v4, t4, _, _, e4, r4, hv⟩ := rd_cons hv
  obtain ⟨v5, t5, _, _, e5, r5, hv⟩ := rd_cons hv
  obtain ⟨v6, t6, _, _, e6, _, hv⟩ := rd_cons hv
  obtain ⟨t, f1⟩ := rd_int r1
  obtain ⟨u, f2⟩ := rd_int r2
  refine ⟨p, b, s, x, y, l, t, u, v6, rfl, ?_⟩
  rw [← Array.toArray_toList (xs := vs), e1, e2, e3, e4, e5, e6, rd_nil hv, f1, f2, rd_bool r3, rd_bool r4, rd_bool r5]
section
variable {prog : Program} {w : World} {A : Around} {E : Value → Shared → Prop} {s : Shared}
/-- a list of rows, read as data, unpacked turn by turn -/
theorem rowTurns {elts : List PySem.Expr} {k : Nat} {pos : Pos} {I R : Addr} {vs : List Value} {ds : List PyData} {own : Led} {n₀ : Nat} (hh : A.handled = none) (hne : R ≠ I) (hown : ∀ p ∈ own, p.1 ≠ I) (hr : RVA own vs ds) (hrow : ∀ d ∈ ds, IsRow6 d) :
    TTurns prog w A (.Tuple elts k pos) I ([I, R] ++ own.map (·.1)) [I] vs.length n₀ (fun i v h _ => ∃ T vals, v = .ref T ∧ (∃ d, ds[i]? = some d ∧ Row6 d vals) ∧ h.IsTuple T vals)
      (fun i v h _ => (∃ T vals, v = .ref T ∧ (∃ d, ds[i]? = some d ∧ Row6 d vals) ∧ h.IsTuple T vals) ∧ h.IsListIter I R (i + 1) ∧ h.IsList R vs.toArray ∧ ∀ p ∈ own, h.get? p.1 = some p.2)
      (fun i h => h.IsListIter I R i ∧ h.IsList R vs.toArray ∧ ∀ p ∈ own, h.get? p.1 = some p.2) where
  sub := fun b hb => by simp at hb; simp [hb]
  frame := fun i h h' st hk => ⟨st.1.at fun o e => hk I (by simp) o e, st.2.1.at fun o e => hk R (by simp) o e, fun p hp => hk p.1 (List.mem_append_right _ (List.mem_map.mpr ⟨p, hp, rfl⟩)) _ (st.2.2 p hp)⟩
  item := fun i s Q E hi st hn hQ => by
    have hx : vs.toArray[i]? = some vs[i] := by simp [hi]
    refine wpAny_with_toks hn (wpAny_pyNext_list_item st.1 st.2.1 hx fun h' hit' hs' htk => ?_)
    have hl' := st.2.1.extBut hs'.extBut hne
    have ho' : ∀ p ∈ own, h'.get? p.1 = some p.2 := fun p hp => hs'.extBut _ _ (hown p hp) (st.2.2 p hp)
    obtain ⟨as, ra⟩ := hr h' ho'
    obtain ⟨d, bs, hd, rd⟩ := reads_get i ra (show vs[i]? = some vs[i] by simp [hi])
    obtain ⟨T, vals, hv, hT, hrw⟩ := read_row6 rd (hrow d (List.mem_of_getElem? hd))
    exact hQ _ h' s.toks ⟨⟨T, vals, hv, ⟨d, hd, hrw⟩, hT⟩, hit', hl', ho'⟩ htk fun b o hb e => hs'.extBut b o (fun h => hb (by simp [h])) e
  go := fun i v s Q E hm hQ => by
    obtain ⟨⟨T, vals, rfl, hd, hT⟩, st⟩ := hm
    exact wpAny_letOwnedTupleGo_listiter st.1 (hQ s.heap ⟨T, vals, rfl, hd, hT⟩ st fun _ _ _ e => e)
  done := fun s Q E st hQ => wpAny_pyNext_list_end hh st.1 st.2.1 (by simp) fun h' he' => hQ h' s.toks fun b o hb e => he' b o (fun h => hb (by simp [h])) e
end
noncomputable abbrev pairO (p q : Int) (t u : Tok) : Obj := { cls := .type "tuple", data := .seq #[.int p t, .int q u] }
inductive PairsAt (own : Led) : List Value → List (Int × Int) → Prop
  | nil : PairsAt own [] []
  | cons {T : Addr} {p q : Int} {t u : Tok} {vs : List Value} {ps : List (Int × Int)} : (T, pairO p q t u) ∈ own → PairsAt own vs ps → PairsAt own (.ref T :: vs) ((p, q) :: ps)
theorem PairsAt.mono {o o' : Led} (h : ∀ e ∈ o, e ∈ o') : ∀ {vs : List Value} {ps : List (Int × Int)}, PairsAt o vs ps → PairsAt o' vs ps
  | _, _, .nil => .nil
  | _, _, .cons a r => .cons (h _ a) (PairsAt.mono h r)
theorem PairsAt.snoc {o : Led} {T : Addr} {p q : Int} {t u : Tok} (hT : (T, pairO p q t u) ∈ o) : ∀ {vs : List Value} {ps : List (Int × Int)}, PairsAt o vs ps → PairsAt o (vs ++ [.ref T]) (ps ++ [(p, q)])
  | _, _, .nil => .cons hT .nil
  | _, _, .cons a r => .cons a (PairsAt.snoc hT r)
theorem PairsAt.len {o : Led} : ∀ {vs : List Value} {ps : List (Int × Int)}, PairsAt o vs ps → vs.length = ps.length
  | _, _, .nil => rfl
  | _, _, .cons _ r => by rw [List.length_cons, List.length_cons, PairsAt.len r]
theorem PairsAt.at {o : Led} : ∀ {vs : List Value} {ps : List (Int × Int)} (i : Nat) {v : Value}, PairsAt o vs ps → vs[i]? = some v → ∃ T p q t u, v = .ref T ∧ (T, pairO p q t u) ∈ o ∧ ps[i]? = some (p, q)
  | _, _, 0, v, .cons a r, e => by cases e; exact ⟨_, _, _, _, _, rfl, a, rfl⟩
  | _, _, i + 1, v, .cons a r, e => by
    obtain ⟨T, p, q, t, u, h1, h2, h3⟩ := PairsAt.at i r (by simpa using e)
    exact ⟨T, p, q, t, u, h1, h2, by simpa using h3⟩
  | _, _, _, v, .nil, e => by simp at e
noncomputable def pairD (p : Int × Int) : PyData := .tuple [.int p.1, .int p.2]
theorem PairsAt.rva {o : Led} : ∀ {vs : List Value} {ps : List (Int × Int)}, PairsAt o vs ps → RVA o vs (ps.map pairD)
  | _, _, .nil => RVA.nil
  | _, _, .cons a r => RVA.cons (RV.tup a (RVA.cons (RV.int _ _) (RVA.cons (RV.int _ _) RVA.nil))) (PairsAt.rva r)
theorem canLayP : ∀ ps : List (Int × Int), PyData.canLayAll0 (ps.map pairD) = true
  | [] => rfl
  | p :: r => by
    simp [PyData.canLayAll0, PyData.canLay0, pairD]
    exact canLayP r
theorem depthP : ∀ ps : List (Int × Int), PyData.depthAll (ps.map pairD) ≤ 1
  | [] => by simp [PyData.depthAll]
  | p :: r => by
    have := depthP r
    simp only [List.map_cons, PyData.depthAll]
    have h1 : (pairD p).depth ≤ 1 := by simp [pairD, PyData.depth, PyData.depthAll]
    lia
theorem shapedP (ps : List (Int × Int)) : SeqAt.shaped (.list (ps.map pairD)) = true := by
  have := depthP ps
  simp [SeqAt.shaped, PyData.canLay0, PyData.depth, canLayP]
  lia
theorem eqvAllP : ∀ ps qs : List (Int × Int), PyData.eqvAll (ps.map pairD) (qs.map pairD) = decide (ps = qs)
  | [], [] => by simp [PyData.eqvAll]
  | [], _ :: _ => by simp [PyData.eqvAll]
  | _ :: _, [] => by simp [PyData.eqvAll]
  | (a, b) :: r, (c, d) :: t => by
    simp only [List.map_cons, PyData.eqvAll, eqvAllP r t]
    by_cases h : a = c <;> by_cases h2 : b = d <;> by_cases h' : r = t <;> simp [pairD, PyData.eqv, PyData.eqvAll, h, h2, h']
theorem eqvP (ps qs : List (Int × Int)) : PyData.eqv (.list (ps.map pairD)) (.list (qs.map pairD)) = decide (ps = qs) := by
  simp [PyData.eqv, eqvAllP]
end
-- C18
section
section
variable {prog : Program} {w : World} {A : Around} {E : Value → Shared → Prop} {s : Shared} {h₀ : Heap} {L : Addr} {m : Str → Option Value} {env : Env}
/-- a block over a list of rows of six -/
theorem rows_block {elt : PySem.Expr} {ifs : List PySem.Expr} {scope : Scope} {cl : List (Str × Addr)} {ys : List (Str × Pos)} {k kk : Nat} {pos : Pos} {R : Addr} {vs : List Value} {ds : List PyData} {own : Led} {Fin : Shared → List Value → Led → Prop}
    (hh : A.handled = none) (F : Fr h₀ L s.heap m) (N : News h₀ L s.heap ((R, W.listOf vs.toArray kk) :: own)) (hr : RVA own vs ds) (hrow : ∀ d ∈ ds, IsRow6 d) (hsz : vs.length ≤ 1000) (hys : ys.length = 6) (hkind : scope.kind = .function) (hy : ∀ y ∈ ys, scope.names.lookup y.1 = some .local)
    (J : Nat → List Value → Led → Prop) (h0 : J 0 [] ((R, W.listOf vs.toArray kk) :: own))
    (step : ∀ (I : Addr) i d (vals : Array Value) oC C D m' zs news₁ h tk ow (E' : Value → Shared → Prop), i < vs.length → ds[i]? = some d → Row6 d vals → s.toks ≤ tk → J i zs news₁ → (∃ o, (I, o) ∈ ow) → NsObj oC (bindNames (ys.map (·.1)) vals.toList m') → Fr h₀ L h m → News h₀ L h ((C, oC) :: (D, lst zs) :: (ow ++ news₁)) → C ≠ D → OffT C D [I] news₁ →
      ∀ g t, TestsAt prog w A ifs (compEnvC scope cl C env) (fun ok s₃ => if ok = true then wpAny (model prog w) A (eval elt (compEnvC scope cl C env)) (fun y s₄ => TEnd h₀ L m { s with heap := g, toks := t } C oC D (lst zs) [I] ow (J (i + 1) (zs ++ [y])) s₄) E' s₃
        else TEnd h₀ L m { s with heap := g, toks := t } C oC D (lst zs) [I] ow (J (i + 1) zs) s₃) E' { s with heap := h, toks := tk })
    (hlen : ∀ i zs nw, J i zs nw → zs.length ≤ i) (fin : ∀ g zs nw, J vs.length zs nw → Fin { s with heap := g } zs nw) :
    wpAny (model prog w) A (pyIter (.ref R)) (BlockAt prog w A h₀ L m env elt (.Tuple (ys.map fun y => PySem.Expr.Name y.1 y.2) k pos) ifs scope cl Fin) E s := by
  have nR := N _ List.mem_cons_self
  refine wpAny_pyIter_list ⟨_, nR.1, rfl, _, rfl⟩ ?_
  have lt : ∀ p ∈ (R, W.listOf vs.toArray kk) :: own, @LT.lt Nat _ p.1 s.heap.objs.size := fun p hp => Heap.lt_size (N p hp).1
  have up : ∀ b o', s.heap.get? b = some o' → (s.heap.push { cls := .type "list_iterator", data := .fields #[.ref R, .int 0 0] }).get? b = some o' := fun b o' e => Heap.get?_push_of_some _ e
  have hnew := next_is_new F
  refine blockAt_tup (s := { s with heap := s.heap.push { cls := .type "list_iterator", data := .fields #[.ref R, .int 0 0] } }) (Pt := fun i vals _ => ∃ d, ds[i]? = some d ∧ Row6 d vals) hh
    (rowTurns (I := s.heap.objs.size) hh (Nat.ne_of_lt (lt _ List.mem_cons_self)) (fun p hp => Nat.ne_of_lt (lt p (List.mem_cons_of_mem _ hp))) hr hrow) ?self (fun _ _ _ _ _ h => h) ?size (by rw [sizeLine_eq]; lia) ?st ?fp (F.push _) (fun p hp => ⟨up _ _ (N p hp).1, (N p hp).2⟩) ?lf ?wr ?nw hkind hy J h0 ?step hlen (fun g zs nw hJ => fin g zs nw hJ)
  case self => exact fun s' Q E hst hq => wpAny_pyIter_listiter hst.1 hq
  case size =>
    rintro i v tk ⟨d, _, p, b, s', x, y, l, t, u, v6, _, rfl⟩
    exact hys.symm
  case st => exact ⟨⟨_, Heap.get?_push_size _ rfl, rfl, rfl⟩, ⟨_, up _ _ nR.1, rfl, _, rfl⟩, fun p hp => up _ _ (N p (List.mem_cons_of_mem _ hp)).1⟩
  case fp =>
    intro b hb
    have hs : (s.heap.push { cls := .type "list_iterator", data := .fields #[.ref R, .int 0 0] }).objs.size = s.heap.objs.size + 1 := Heap.size_push ..
    show @LT.lt Nat _ b _
    rw [hs]
    rcases List.mem_append.mp hb with hb | hb
    · rcases List.mem_cons.mp hb with rfl | hb
      · exact Nat.lt_succ_self _
      · rw [List.mem_singleton.mp hb]; exact Nat.lt_succ_of_lt (lt _ List.mem_cons_self)
    · obtain ⟨p, hp, rfl⟩ := List.mem_map.mp hb
      exact Nat.lt_succ_of_lt (lt p (List.mem_cons_of_mem _ hp))
  case lf =>
    intro hm
    rcases List.mem_append.mp hm with hm | hm
    · rcases List.mem_cons.mp hm with e | hm
      · exact absurd F.ns.lt (e ▸ Nat.lt_irrefl _)
      · exact nR.2.1 (List.mem_singleton.mp hm).symm
    · obtain ⟨p, hp, e⟩ := List.mem_map.mp hm
      exact (N p (List.mem_cons_of_mem _ hp)).2.1 e
  case wr =>
    intro b hb
    rw [List.mem_singleton.mp hb]
    exact hnew
  case nw =>
    intro p hp hm
    exact Nat.lt_irrefl _ ((List.mem_singleton.mp hm) ▸ lt p hp)
  case step =>
    rintro i vals oC C D m' zs news₁ h tk ow E' hi ⟨d, hd, hrw⟩ htk hJ hown hmem hst hoC F' N' hCD hoff g t
    obtain ⟨o, ho, _⟩ := hst.1
    exact step s.heap.objs.size i d vals oC C D m' zs news₁ h tk ow E' hi hd hrw htk hJ ⟨o, hmem _ (List.mem_append_left _ List.mem_cons_self) hnew _ ho⟩ hoC F' N' hCD hoff g t
end
end
-- L5
section
local macro_rules | `(tactic| walk_at "steps to comp") => `(tactic| repeat' ((fail_if_success (with_reducible show wpAny _ _ (exec (PySem.Stmt.Assign [PySem.Expr.Name _ _] (PySem.Expr.ListComp _ _ _ _) _) _) _ _ _)); first | (k_unfold; (try dsimp only)) | (k_end; wrow_close) | (walk1; all_goals (try dsimp only)) | (dsimp only; walk1) | (leave1; walk_say "STEP leave1"; try dsimp only)))
local macro_rules | `(tactic| k_all) => `(tactic| assumption)
local macro_rules | `(tactic| walk_at "eval Name") => `(tactic| (k_here; k_dflt (refine' nameX_L ?F ?v ?_ ?a ?b; (case F => k_asm); (case a => rfl); (case b => rfl); (case v => assumption); k_whole)))
noncomputable def rowSel : PyData → Option (Int × Int)
  | .tuple [.int p, .int b, .bool s, .bool _, .bool _, .list _] => if s = true then some (p, p + 2 * b) else none
  | _ => none
noncomputable def alikeP (ds : List PyData) : List (Int × Int) := ds.filterMap rowSel
theorem told_row6 (x : Str) : ∀ d ∈ toldD x 4, IsRow6 d := by
  intro d hd
  unfold toldD firstsD at hd
  obtain ⟨j, _, hd⟩ := List.mem_flatMap.mp hd
  obtain ⟨i, _, hd⟩ := List.mem_flatMap.mp hd
  unfold turnD rowsL at hd
  obtain ⟨k, _, rfl⟩ := List.mem_map.mp hd
  exact ⟨_, _, _, _, _, _, rfl⟩
theorem law_alike (w : World) (x : Str) (tx : Tok) (hx : ∀ c ∈ x.cps.toList, c = 102 ∨ c = 105 ∨ c = 108) (hl : x.cps.size = 8) (mean : ExcName → Option Value) (mg mb : Str → Option Value) (fa : Addr) (ccd : Value) (base g : Heap) (L : Addr)
    (m : Str → Option Value) (s : Shared) (Q : Flow → Shared → Prop) (E : Value → Shared → Prop) (hm : m (Str.ofString "word") = some (.str x tx)) :
    Below callerA base [] g → Fr g L s.heap m → (KK w.params).In g → News g L s.heap [] → Top qv (looseW qv loose) mean mg mb g → 0 < s.toks → AllBare s.gens →
    (∀ h' tk G m' R vs k own DA vsA ownA, AllBare G → m' (Str.ofString "word") = some (.str x tx) → m' (Str.ofString "told") = some (.ref R) → m' (Str.ofString "alike") = some (.ref DA) → RVA own vs (toldD x 4) → vs.length = (toldD x 4).length → PairsAt ownA vsA (alikeP (toldD x 4)) → (∀ p ∈ (R, W.listOf vs.toArray k) :: own, p.1 ≠ DA) →
      Fr g L h' m' → News g L h' ((DA, lst vsA) :: (ownA ++ ((R, W.listOf vs.toArray k) :: own))) → wpAny (model rr.prog w) (callerA.deeper (envOf (Str.ofString "law") C24 L fa ccd)) (execs (B24.drop 7) (envOf (Str.ofString "law") C24 L fa ccd)) Q E { s with heap := h', toks := tk, gens := G }) →
      wpAny (model rr.prog w) (callerA.deeper (envOf (Str.ofString "law") C24 L fa ccd)) (execs (B24.drop 5) (envOf (Str.ofString "law") C24 L fa ccd)) Q E s := by
  w_on
  k_fill
  intro B' F X' N T' hpos hB hQ
  walk_at "steps to call"
  refine (spec_told w x tx _ hx hl).use (by k_asm) F (by k_asm) N (by k_asm) rfl (by ktr_room) (by ktr_units) hpos hB ?_
  rintro r1 nw1 h1 tk1 G1 ⟨R, vs, k, own, rfl, rfl, hrv, hvl⟩ hB1 F1 N1
  rw [List.append_nil] at N1
  clear F N
  walk_at "steps to comp"
  rename Fr _ _ _ _ => F2
  rename News _ _ _ _ => N2
  refine Assign_ListComp_T F2 rfl (by with_unfolding_all rfl) (by with_unfolding_all rfl) (by decide) (by with_unfolding_all rfl) (by decide) (by rfl) (by rfl) ?_
  walk_at "steps"
  have hl200 : vs.length ≤ 1000 := by have := toldD_le x 4 (by decide); lia
  refine rows_block (ys := [(Str.ofString "start", _), (Str.ofString "size", _), (Str.ofString "same", _), (Str.ofString "kind", _), (Str.ofString "more", _), (Str.ofString "rows", _)]) (by rfl) F2 N2 hrv (told_row6 x) hl200 rfl (by rfl) ?hy
    (fun i zs nw => ∃ ownA, nw = ownA ++ ((R, W.listOf vs.toArray k) :: own) ∧ PairsAt ownA zs (alikeP ((toldD x 4).take i))) ⟨[], rfl, .nil⟩ ?step ?hlen ?fin
  case hy =>
    intro y hy
    simp only [List.mem_cons, List.not_mem_nil, or_false] at hy
    rcases hy with rfl | rfl | rfl | rfl | rfl | rfl <;> rfl
  case hlen =>
    rintro i zs nw ⟨ownA, rfl, hpa⟩
    rw [hpa.len]
    exact Nat.le_trans (List.length_filterMap_le _ _) (List.length_take_le _ _)
  case step =>
    rintro I i d vals oC C D m' zs news₁ h tk ow E' hi hd hrw htk ⟨ownA, rfl, hpa⟩ ⟨oI, hoI⟩ hoC F3 N3 hCD hoff g3 t3
    obtain ⟨p, b, sb, xb, yb, l, t, u, v6, rfl, rfl⟩ := hrw
    have h1 : (bindNames [Str.ofString "start", Str.ofString "size", Str.ofString "same", Str.ofString "kind", Str.ofString "more", Str.ofString "rows"] [.int p t, .int b u, .bool sb, .bool xb, .bool yb, v6] m') (Str.ofString "start") = some (.int p t) := rfl
    have h2 : (bindNames [Str.ofString "start", Str.ofString "size", Str.ofString "same", Str.ofString "kind", Str.ofString "more", Str.ofString "rows"] [.int p t, .int b u, .bool sb, .bool xb, .bool yb, v6] m') (Str.ofString "size") = some (.int b u) := rfl
    have h3 : (bindNames [Str.ofString "start", Str.ofString "size", Str.ofString "same", Str.ofString "kind", Str.ofString "more", Str.ofString "rows"] [.int p t, .int b u, .bool sb, .bool xb, .bool yb, v6] m') (Str.ofString "same") = some (.bool sb) := rfl
    replace hoC : PyProof.Rows.LCg.NsObj oC (bindNames [Str.ofString "start", Str.ofString "size", Str.ofString "same", Str.ofString "kind", Str.ofString "more", Str.ofString "rows"] [.int p t, .int b u, .bool sb, .bool xb, .bool yb, v6] m') := hoC
    generalize bindNames [Str.ofString "start", Str.ofString "size", Str.ofString "same", Str.ofString "kind", Str.ofString "more", Str.ofString "rows"] [Value.int p t, Value.int b u, Value.bool sb, Value.bool xb, Value.bool yb, v6] m' = m₂ at hoC h1 h2 h3
    have hal : alikeP ((toldD x 4).take (i + 1)) = alikeP ((toldD x 4).take i) ++ (if sb = true then [(p, p + 2 * b)] else []) := by
      rw [take_snocA hd]
      unfold alikeP
      rw [List.filterMap_append]
      congr 1
      cases sb <;> rfl
    clear F2 N2
    cases sb with
    | true =>
      walk_at "steps"
      rename_i T h4 F4 N4 l4
      have lt4 : ∀ e ∈ (C, oC) :: (D, lst zs) :: (ow ++ (ownA ++ ((R, W.listOf vs.toArray k) :: own))), e.1 ≠ T := by
        first
          | exact fun e he => Nat.ne_of_lt (l4 e he)
          | (obtain ⟨lC, lD, lA⟩ := l4
             intro e he
             rcases List.mem_cons.mp he with rfl | he
             · exact Nat.ne_of_lt lC
             rcases List.mem_cons.mp he with rfl | he
             · exact Nat.ne_of_lt lD
             · exact Nat.ne_of_lt (lt_allB lA e he))
      refine ⟨_, _, ((T, pairO p (p + 2 * b) t _) :: ownA) ++ _, rfl, F4, fun e he => N4 e (z_perm6 he), ?_, ⟨_, rfl, ?_⟩⟩
      · intro e he
        rcases List.mem_append.mp he with he | he
        · rcases List.mem_cons.mp he with rfl | he
          · exact ⟨(lt4 (C, oC) List.mem_cons_self).symm, (lt4 (D, lst zs) (List.mem_cons_of_mem _ List.mem_cons_self)).symm, fun hm => lt4 (I, oI) (by simp only [List.mem_append, List.mem_cons, hoI, true_or, or_true]) (List.mem_singleton.mp hm).symm⟩
          · exact hoff e (List.mem_append_left _ he)
        · exact hoff e (List.mem_append_right _ he)
      · rw [hal, if_pos rfl]
        exact (hpa.mono fun e he => List.mem_cons_of_mem _ he).snoc List.mem_cons_self
    | false =>
      walk_at "steps"
      refine ⟨_, _, ownA ++ _, rfl, F3, N3, hoff, ⟨ownA, rfl, ?_⟩⟩
      rw [hal, if_neg (by decide), List.append_nil]
      exact hpa
  case fin =>
    rintro g3 zs nw ⟨ownA, rfl, hpa⟩
    rw [hvl, List.take_length] at hpa
    intro D h3 tk3 F3 N3 hD
    refine hQ _ _ _ _ R vs k own D zs ownA hB1 ?_ ?_ ?_ hrv hvl hpa (fun p hp => hD p (List.mem_append_right _ hp)) F3 N3
    · exact hm
    · rfl
    · rfl
end
-- L6
section
local macro_rules | `(tactic| walk_at "steps to compare") => `(tactic| repeat' ((fail_if_success (with_reducible show wpAny _ _ (compareOp _ (Value.ref _) _) _ _ _)); first | (k_unfold; (try dsimp only)) | (k_end; wrow_close) | (walk1; all_goals (try dsimp only)) | (dsimp only; walk1) | (leave1; walk_say "STEP leave1"; try dsimp only)))
local macro_rules | `(tactic| walk_at "steps to execs") => `(tactic| repeat' ((fail_if_success (with_reducible show wpAny _ _ (execs (PySem.Stmt.If _ _ _ _ :: _) _) _ _ _)); first | (k_unfold; (try dsimp only)) | (k_end; wrow_close) | (walk1; all_goals (try dsimp only)) | (dsimp only; walk1) | (leave1; walk_say "STEP leave1"; try dsimp only)))
local macro_rules | `(tactic| k_all) => `(tactic| assumption)
local macro_rules | `(tactic| walk_at "eval Name") => `(tactic| (k_here; k_dflt (refine' nameX_L ?F ?v ?_ ?a ?b; (case F => k_asm); (case a => rfl); (case b => rfl); (case v => assumption); k_whole)))
theorem if_perm {e c d : Addr × Obj} {T : Addr} {ob : Obj} {a : Led} (hT : (T, ob) ∈ a) (h : e ∈ (T, ob) :: c :: d :: a) : e ∈ c :: d :: a := by
  rcases List.mem_cons.mp h with rfl | h
  · exact List.mem_cons_of_mem _ (List.mem_cons_of_mem _ hT)
  · exact h
theorem law_if7 (w : World) (x : Str) (tx : Tok) (hx : ∀ c ∈ x.cps.toList, c = 102 ∨ c = 105 ∨ c = 108) (hl : x.cps.size = 8) (ps : List (Int × Int)) (hps : decide (ps = ps.filter fun p => decide (p.2 = 8)) = bareL (pcS x 0 7).cps.toList) (hp100 : ps.length ≤ 1000) (mean : ExcName → Option Value) (mg mb : Str → Option Value) (fa : Addr) (ccd : Value) (base g : Heap) (L : Addr)
    (m : Str → Option Value) (s : Shared) (Q : Flow → Shared → Prop) (E : Value → Shared → Prop) (R : Addr) (DA : Addr) (vsA : List Value) (ownA rest : Led) (hm : m (Str.ofString "word") = some (.str x tx)) (ht : m (Str.ofString "told") = some (.ref R)) (ha : m (Str.ofString "alike") = some (.ref DA)) (hpa : PairsAt ownA vsA ps) :
    Below callerA base [] g → Fr g L s.heap m → (KK w.params).In g → News g L s.heap ((DA, lst vsA) :: (ownA ++ rest)) → Top qv (looseW qv loose) mean mg mb g →
    (∀ h' tk m', m' (Str.ofString "word") = some (.str x tx) → m' (Str.ofString "told") = some (.ref R) → m' (Str.ofString "alike") = some (.ref DA) →
      Fr g L h' m' → News g L h' ((DA, lst vsA) :: (ownA ++ rest)) → wpAny (model rr.prog w) (callerA.deeper (envOf (Str.ofString "law") C24 L fa ccd)) (execs (B24.drop 8) (envOf (Str.ofString "law") C24 L fa ccd)) Q E { s with heap := h', toks := tk }) →
      wpAny (model rr.prog w) (callerA.deeper (envOf (Str.ofString "law") C24 L fa ccd)) (execs (B24.drop 7) (envOf (Str.ofString "law") C24 L fa ccd)) Q E s := by
  w_on
  k_fill
  intro B' F X' N T' hQ
  have hDL : L ≠ DA := fun e => (N _ List.mem_cons_self).2.1 e.symm
  have hvl : vsA.length = ps.length := hpa.len
  walk_at "steps to block"
  refine ListComp_T F (by with_unfolding_all rfl) (by decide) (by with_unfolding_all rfl) (by decide) ?_
  walk_at "steps"
  refine block_list (by rfl) (by rfl) (by with_unfolding_all rfl) F N ⟨_, (N _ List.mem_cons_self).1, rfl, _, rfl⟩ hDL (by rw [List.size_toArray, sizeLine_eq]; lia) (fun i ys nw => nw = _ ∧ PairsAt ownA ys ((ps.take i).filter fun p => decide (p.2 = 8))) ⟨rfl, .nil⟩ ?_ ?_ ?_
  · rintro i v oC C D' I m₂ ys news₁ h2 tk own E' hv hm₂ ⟨rfl, hys⟩ hown hoC F2 N2 hCD hoff g2
    obtain ⟨T, p, q, t, u, rfl, hT, hpq⟩ := hpa.at i (by simpa using hv)
    have hfl : ((ps.take (i + 1)).filter fun p => decide (p.2 = 8)) = ((ps.take i).filter fun p => decide (p.2 = 8)) ++ (if q = 8 then [(p, q)] else []) := by
      rw [take_snocA hpq, List.filter_append]
      by_cases hq : q = 8 <;> simp [hq]
    replace N2 : News g L h2 ((T, pairO p q t u) :: (C, oC) :: (D', lst ys) :: (own ++ ((DA, lst vsA) :: (ownA ++ rest)))) := fun e he => N2 e (if_perm (List.mem_append_right _ (List.mem_cons_of_mem _ (List.mem_append_left _ hT))) he)
    walk_at "steps"
    · rename _ = _ => hq
      refine ⟨_, _, _, rfl, F2, fun e he => N2 e (List.mem_cons_of_mem _ he), hoff, rfl, ?_⟩
      rw [hfl, if_pos hq]
      exact hys.snoc hT
    · rename _ ≠ _ => hq
      refine ⟨_, _, _, rfl, F2, fun e he => N2 e (List.mem_cons_of_mem _ he), hoff, rfl, ?_⟩
      rw [hfl, if_neg hq, List.append_nil]
      exact hys
  · rintro i ys nw ⟨_, h⟩
    rw [h.len]
    exact Nat.le_trans (List.length_filter_le _ _) (List.length_take_le _ _)
  · rintro g2 ys nw ⟨rfl, h⟩
    intro D2 h2 tk2 F2 N2 hD2
    rw [List.size_toArray, hvl, List.take_length] at h
    walk_at "steps to compare"
    obtain ⟨as1, r1⟩ := RV.lst (l := (DA, lst vsA) :: (ownA ++ rest)) (T := DA) (vs := vsA.toArray) (n := vsA.length) List.mem_cons_self (hpa.rva.mono fun e he => List.mem_cons_of_mem _ (List.mem_append_left _ he)) h2 (fun e he => (N2 e (List.mem_cons_of_mem _ he)).1)
    obtain ⟨as2, r2⟩ := RV.lst (l := (D2, lst ys) :: (ownA ++ rest)) (T := D2) (vs := ys.toArray) (n := ys.length) List.mem_cons_self (h.rva.mono fun e he => List.mem_cons_of_mem _ (List.mem_append_left _ he)) h2 (fun e he => (N2 e (by simp only [List.mem_cons] at he ⊢; grind)).1)
    refine PyProof.Rows.eq_dataH r1 r2 (shapedP _) (shapedP _) (by ke_room) ?_
    rw [eqvP, hps]
    replace N2 : News g L h2 ((DA, lst vsA) :: (ownA ++ rest)) := fun e he => N2 e (List.mem_cons_of_mem _ he)
    clear r1 r2 hD2
    walk_at "steps to tail"
    refine slice_sled_to F2 N2 ⟨by decide, by lia⟩ (by lia) fun h8 t8 k8 F8 N8 => ?_
    have hp7 : (pcS x 0 7).cps.size = 7 := pc_size ⟨by decide, by decide, by lia⟩
    have hx7 : ∀ c ∈ (pcS x 0 7).cps.toList, c = 102 ∨ c = 105 ∨ c = 108 := fun c hc => hx c (List.mem_of_mem_drop (List.mem_of_mem_take hc))
    clear F2 N2
    walk_at "steps to call"
    refine (spec_bare w (pcS x 0 7) t8 _ hx7 hp7).use (by k_asm) F8 (by k_asm) N8 (by k_asm) rfl (by ktr_room) (by ktr_units) ?_
    rintro r9 nw9 h9 tk9 ⟨rfl, rfl⟩ F9 N9
    dsimp only [List.nil_append] at N9 ⊢
    clear F8 N8
    walk_at "steps to execs"
    · rename _ = true => hh
      simp at hh
    · exact hQ _ _ m hm ht ha F9 N9
end
-- L7
section
local macro_rules | `(tactic| walk_at "pad0") => `(tactic| fail)
local macro_rules | `(tactic| walk_at "steps to compare") => `(tactic| repeat' ((fail_if_success (with_reducible show wpAny _ _ (compareOp _ (Value.ref _) _) _ _ _)); first | (k_unfold; (try dsimp only)) | (k_end; wrow_close) | (walk1; all_goals (try dsimp only)) | (dsimp only; walk1) | (leave1; walk_say "STEP leave1"; try dsimp only)))
local macro_rules | `(tactic| walk_at "steps to execs") => `(tactic| repeat' ((fail_if_success (with_reducible show wpAny _ _ (execs (PySem.Stmt.Return _ _ :: _) _) _ _ _)); first | (k_unfold; (try dsimp only)) | (k_end; wrow_close) | (walk1; all_goals (try dsimp only)) | (dsimp only; walk1) | (leave1; walk_say "STEP leave1"; try dsimp only)))
local macro_rules | `(tactic| k_all) => `(tactic| assumption)
local macro_rules | `(tactic| walk_at "eval Name") => `(tactic| (k_here; k_dflt (refine' nameX_L ?F ?v ?_ ?a ?b; (case F => k_asm); (case a => rfl); (case b => rfl); (case v => assumption); k_whole)))
section
variable {prog : Program} {w : World} {A : Around} {E : Value → Shared → Prop} {value slice : PySem.Expr} {x : Str} {t : Tok} {h₀ h : Heap} {L : Addr} {m : Str → Option Value} {news : Led} {Q : Value → Shared → Prop} {j : Int} {uj : Tok} {G : Array GenState} {dr : Drawn} {tk : Nat} {os : OsState}
theorem slice_pc_from {x : Str} {p : Int} (h : 0 ≤ p ∧ p ≤ x.cps.size) : Txt.slice x (some p) none = pcS x p x.cps.size := by
  refine (show Txt.slice x (some p) none = StrLaws.sliceText x (some p) none from rfl).trans ((StrLaws.sliceText_from ⟨h.1, by rw [Array.length_toList]; exact h.2⟩).trans ?_)
  rw [Array.length_toList]
  rfl
theorem slice_sled_from (hF : Fr h₀ L h m) (hN : News h₀ L h news) (hb : 0 ≤ j ∧ j ≤ x.cps.size) (h8 : x.cps.size ≤ 1000) (hQ : ∀ h' t' k, Fr h₀ L h' m → News h₀ L h' news → Q (.str (pcS x j x.cps.size) t') ⟨h', G, dr, k, os⟩)
    (hs : subscripted slice false (.str x t) (.ref h.objs.size) = operate [.ref h.objs.size, .str x t] (getItem (.str x t) (.ref h.objs.size)) := by with_unfolding_all rfl)
    (ht : ∀ r, letTemporaryGo value (.str x t) r = pure () := by intro _; with_unfolding_all rfl) :
    wpAny (model prog w) A (subscriptTail value slice (.str x t) (.ref h.objs.size)) Q E ⟨h.push { cls := .type "slice", data := .fields #[.int j uj, .none, .none] }, G, dr, tk, os⟩ :=
  slice_strN_sn_len (s := ⟨h, G, dr, tk, os⟩) hF hN (fun h' t' k F N _ => by rw [slice_pc_from hb]; exact hQ h' t' k F N) hs ht (by rw [sizeLine_eq]; show x.cps.size ≤ _; lia)
end
theorem law_if1 (w : World) (x : Str) (tx : Tok) (hx : ∀ c ∈ x.cps.toList, c = 102 ∨ c = 105 ∨ c = 108) (hl : x.cps.size = 8) (ps : List (Int × Int)) (hps : decide (ps = ps.filter fun p => decide (p.1 = 0)) = bareL (pcS x 1 8).cps.toList) (hp100 : ps.length ≤ 1000) (mean : ExcName → Option Value) (mg mb : Str → Option Value) (fa : Addr) (ccd : Value) (base g : Heap) (L : Addr)
    (m : Str → Option Value) (s : Shared) (Q : Flow → Shared → Prop) (E : Value → Shared → Prop) (R : Addr) (DA : Addr) (vsA : List Value) (ownA rest : Led) (hm : m (Str.ofString "word") = some (.str x tx)) (ht : m (Str.ofString "told") = some (.ref R)) (ha : m (Str.ofString "alike") = some (.ref DA)) (hpa : PairsAt ownA vsA ps) :
    Below callerA base [] g → Fr g L s.heap m → (KK w.params).In g → News g L s.heap ((DA, lst vsA) :: (ownA ++ rest)) → Top qv (looseW qv loose) mean mg mb g →
    (∀ h' tk m', m' (Str.ofString "word") = some (.str x tx) → m' (Str.ofString "told") = some (.ref R) → m' (Str.ofString "alike") = some (.ref DA) →
      Fr g L h' m' → News g L h' ((DA, lst vsA) :: (ownA ++ rest)) → wpAny (model rr.prog w) (callerA.deeper (envOf (Str.ofString "law") C24 L fa ccd)) (execs (B24.drop 9) (envOf (Str.ofString "law") C24 L fa ccd)) Q E { s with heap := h', toks := tk }) →
      wpAny (model rr.prog w) (callerA.deeper (envOf (Str.ofString "law") C24 L fa ccd)) (execs (B24.drop 8) (envOf (Str.ofString "law") C24 L fa ccd)) Q E s := by
  w_on
  k_fill
  intro B' F X' N T' hQ
  have hDL : L ≠ DA := fun e => (N _ List.mem_cons_self).2.1 e.symm
  have hvl : vsA.length = ps.length := hpa.len
  walk_at "steps to block"
  refine ListComp_T F (by with_unfolding_all rfl) (by decide) (by with_unfolding_all rfl) (by decide) ?_
  walk_at "steps"
  refine block_list (by rfl) (by rfl) (by with_unfolding_all rfl) F N ⟨_, (N _ List.mem_cons_self).1, rfl, _, rfl⟩ hDL (by rw [List.size_toArray, sizeLine_eq]; lia) (fun i ys nw => nw = _ ∧ PairsAt ownA ys ((ps.take i).filter fun p => decide (p.1 = 0))) ⟨rfl, .nil⟩ ?_ ?_ ?_
  · rintro i v oC C D' I m₂ ys news₁ h2 tk own E' hv hm₂ ⟨rfl, hys⟩ hown hoC F2 N2 hCD hoff g2
    obtain ⟨T, p, q, t, u, rfl, hT, hpq⟩ := hpa.at i (by simpa using hv)
    have hfl : ((ps.take (i + 1)).filter fun p => decide (p.1 = 0)) = ((ps.take i).filter fun p => decide (p.1 = 0)) ++ (if p = 0 then [(p, q)] else []) := by
      rw [take_snocA hpq, List.filter_append]
      by_cases hq : p = 0 <;> simp [hq]
    replace N2 : News g L h2 ((T, pairO p q t u) :: (C, oC) :: (D', lst ys) :: (own ++ ((DA, lst vsA) :: (ownA ++ rest)))) := fun e he => N2 e (if_perm (List.mem_append_right _ (List.mem_cons_of_mem _ (List.mem_append_left _ hT))) he)
    walk_at "steps"
    · rename _ = _ => hq
      refine ⟨_, _, _, rfl, F2, fun e he => N2 e (List.mem_cons_of_mem _ he), hoff, rfl, ?_⟩
      rw [hfl, if_pos hq]
      exact hys.snoc hT
    · rename _ ≠ _ => hq
      refine ⟨_, _, _, rfl, F2, fun e he => N2 e (List.mem_cons_of_mem _ he), hoff, rfl, ?_⟩
      rw [hfl, if_neg hq, List.append_nil]
      exact hys
  · rintro i ys nw ⟨_, h⟩
    rw [h.len]
    exact Nat.le_trans (List.length_filter_le _ _) (List.length_take_le _ _)
  · rintro g2 ys nw ⟨rfl, h⟩
    intro D2 h2 tk2 F2 N2 hD2
    rw [List.size_toArray, hvl, List.take_length] at h
    walk_at "steps to compare"
    obtain ⟨as1, r1⟩ := RV.lst (l := (DA, lst vsA) :: (ownA ++ rest)) (T := DA) (vs := vsA.toArray) (n := vsA.length) List.mem_cons_self (hpa.rva.mono fun e he => List.mem_cons_of_mem _ (List.mem_append_left _ he)) h2 (fun e he => (N2 e (List.mem_cons_of_mem _ he)).1)
    obtain ⟨as2, r2⟩ := RV.lst (l := (D2, lst ys) :: (ownA ++ rest)) (T := D2) (vs := ys.toArray) (n := ys.length) List.mem_cons_self (h.rva.mono fun e he => List.mem_cons_of_mem _ (List.mem_append_left _ he)) h2 (fun e he => (N2 e (by simp only [List.mem_cons] at he ⊢; grind)).1)
    refine PyProof.Rows.eq_dataH r1 r2 (shapedP _) (shapedP _) (by ke_room) ?_
    rw [eqvP, hps]
    replace N2 : News g L h2 ((DA, lst vsA) :: (ownA ++ rest)) := fun e he => N2 e (List.mem_cons_of_mem _ he)
    clear r1 r2 hD2
    walk_at "steps to tail"
    refine slice_sled_from F2 N2 ⟨by decide, by lia⟩ (by lia) fun h8 t8 k8 F8 N8 => ?_
    rw [show (x.cps.size : Int) = 8 by rw [hl]; rfl]
    have hp7 : (pcS x 1 8).cps.size = 7 := pc_size ⟨by decide, by decide, by lia⟩
    have hx7 : ∀ c ∈ (pcS x 1 8).cps.toList, c = 102 ∨ c = 105 ∨ c = 108 := fun c hc => hx c (List.mem_of_mem_drop (List.mem_of_mem_take hc))
    clear F2 N2
    walk_at "steps to call"
    refine (spec_bare w (pcS x 1 8) t8 _ hx7 hp7).use (by k_asm) F8 (by k_asm) N8 (by k_asm) rfl (by ktr_room) (by ktr_units) ?_
    rintro r9 nw9 h9 tk9 ⟨rfl, rfl⟩ F9 N9
    dsimp only [List.nil_append] at N9 ⊢
    clear F8 N8
    walk_at "steps to execs"
    · rename _ = true => hh
      simp at hh
    · exact hQ _ _ m hm ht ha F9 N9
end
-- L8
section
local macro_rules | `(tactic| walk_at "steps to compare") => `(tactic| repeat' ((fail_if_success (with_reducible show wpAny _ _ (compareOp _ (Value.ref _) _) _ _ _)); first | (k_unfold; (try dsimp only)) | (k_end; wrow_close) | (walk1; all_goals (try dsimp only)) | (dsimp only; walk1) | (leave1; walk_say "STEP leave1"; try dsimp only)))
local macro_rules | `(tactic| k_all) => `(tactic| assumption)
local macro_rules | `(tactic| walk_at "eval Name") => `(tactic| (k_here; k_dflt (refine' nameX_L ?F ?v ?_ ?a ?b; (case F => k_asm); (case a => rfl); (case b => rfl); (case v => assumption); k_whole)))
theorem lay_all {k : Nat} : ∀ ds : List PyData, (∀ d ∈ ds, d.canLay0 = true ∧ d.depth ≤ k) → PyData.canLayAll0 ds = true ∧ PyData.depthAll ds ≤ k
  | [], _ => ⟨rfl, by simp [PyData.depthAll]⟩
  | d :: r, h => by
    have h1 := h d List.mem_cons_self
    have h2 := lay_all r fun e he => h e (List.mem_cons_of_mem _ he)
    refine ⟨by simp [PyData.canLayAll0, h1.1, h2.1], ?_⟩
    simp only [PyData.depthAll]
    lia
theorem colR_lay (p q : Int × Int) (i : Nat) : ∀ d ∈ colR p q i, d.canLay0 = true ∧ d.depth ≤ 1 := by
  intro d hd
  unfold colR at hd
  obtain ⟨j, _, hd⟩ := List.mem_flatMap.mp hd
  have row : ∀ k a c, d ∈ colRow k a c → d.canLay0 = true ∧ d.depth ≤ 1 := by
    intro k a c h
    unfold colRow at h
    split at h
    · cases h
    · rw [List.mem_singleton.mp h]
      exact ⟨by simp [PyData.canLay0, PyData.canLayAll0], by simp [PyData.depth, PyData.depthAll]⟩
  split at hd
  · exact row _ _ _ hd
  · exact row _ _ _ hd
theorem dueRow_lay (p b : Int) (x y : Str) : (dueRow p b x y).canLay0 = true ∧ (dueRow p b x y).depth ≤ 3 := by
  have h := lay_all _ (colR_lay (colsS x) (colsS y) 2)
  unfold dueRow
  refine ⟨by simp [PyData.canLay0, PyData.canLayAll0, h.1], ?_⟩
  simp only [PyData.depth, PyData.depthAll]
  lia
theorem dueD_lay (x : Str) : ∀ d ∈ dueD x 4, d.canLay0 = true ∧ d.depth ≤ 3 := by
  intro d hd
  unfold dueD dueF at hd
  obtain ⟨j, _, hd⟩ := List.mem_flatMap.mp hd
  obtain ⟨i, _, hd⟩ := List.mem_flatMap.mp hd
  unfold dueT at hd
  obtain ⟨k, _, rfl⟩ := List.mem_map.mp hd
  exact dueRow_lay _ _ _ _
theorem dueD_shaped (x : Str) : SeqAt.shaped (.list (dueD x 4)) = true := by
  have h := lay_all _ (dueD_lay x)
  simp [SeqAt.shaped, PyData.canLay0, PyData.depth, h.1]
  lia
theorem dueD_self (x : Str) : PyData.eqv (.list (dueD x 4)) (.list (dueD x 4)) = true :=
  SeqAt.eqv_refl _ (by have h := lay_all _ (dueD_lay x); simp [PyData.canLay0, h.1])
theorem law_ret (w : World) (x : Str) (tx : Tok) (hx : ∀ c ∈ x.cps.toList, c = 102 ∨ c = 105 ∨ c = 108) (hl : x.cps.size = 8) (ps : List (Int × Int)) (hps : ps ≠ []) (hdue : toldD x 4 = dueD x 4) (mean : ExcName → Option Value) (mg mb : Str → Option Value) (fa : Addr) (ccd : Value) (base g : Heap) (L : Addr)
    (m : Str → Option Value) (s : Shared) (Q : Flow → Shared → Prop) (E : Value → Shared → Prop) (R : Addr) (vs : List Value) (k : Nat) (own : Led) (DA : Addr) (vsA : List Value) (ownA : Led) (hm : m (Str.ofString "word") = some (.str x tx)) (ht : m (Str.ofString "told") = some (.ref R)) (ha : m (Str.ofString "alike") = some (.ref DA)) (hpa : PairsAt ownA vsA ps) (hrv : RVA own vs (toldD x 4)) :
    Below callerA base [] g → Fr g L s.heap m → (KK w.params).In g → News g L s.heap ((DA, lst vsA) :: (ownA ++ ((R, W.listOf vs.toArray k) :: own))) → Top qv (looseW qv loose) mean mg mb g →
    (∀ h' tk m' news', Fr g L h' m' → News g L h' news' → Q (.ret (.bool true)) { s with heap := h', toks := tk }) →
      wpAny (model rr.prog w) (callerA.deeper (envOf (Str.ofString "law") C24 L fa ccd)) (execs (B24.drop 9) (envOf (Str.ofString "law") C24 L fa ccd)) Q E s := by
  w_on
  k_fill
  intro B' F X' N T' hQ
  walk_at "steps to compare"
  rename Fr _ _ _ _ => F1
  rename News _ _ _ _ => N1
  obtain ⟨as1, r1⟩ := RV.lst (l := (DA, lst vsA) :: (ownA ++ ((R, W.listOf vs.toArray k) :: own))) (T := DA) (vs := vsA.toArray) (n := vsA.length) List.mem_cons_self (hpa.rva.mono fun e he => List.mem_cons_of_mem _ (List.mem_append_left _ he)) _ (fun e he => (N1 e (List.mem_cons_of_mem _ he)).1)
  refine PyProof.Rows.ne_dataH r1 (.list (N1 _ List.mem_cons_self).1 rfl rfl .nil) (shapedP _) (shapedP []) (by ke_room) ?_
  rw [show PyData.eqv (.list (ps.map pairD)) (.list []) = false by rw [show (PyData.list []) = .list (([] : List (Int × Int)).map pairD) from rfl, eqvP]; exact decide_eq_false hps, Bool.not_false]
  replace N1 : News g L _ ((R, W.listOf vs.toArray k) :: own) := fun e he => N1 e (List.mem_cons_of_mem _ (List.mem_cons_of_mem _ (List.mem_append_right _ he)))
  clear r1
  walk_at "steps to call"
  refine (spec_due w x tx _ hx hl).use (by k_asm) F1 (by k_asm) N1 (by k_asm) rfl (by ktr_room) (by ktr_units) ?_
  rintro r9 nw9 h9 tk9 ⟨R2, vs2, k2, own2, rfl, rfl, hrv2, hvl2⟩ F9 N9
  dsimp only
  clear F1 N1
  walk_at "steps to compare"
  obtain ⟨as1, r1⟩ := RV.lst (l := (R, W.listOf vs.toArray k) :: own) (T := R) (vs := vs.toArray) (n := k) List.mem_cons_self (hrv.mono fun e he => List.mem_cons_of_mem _ he) _ (fun e he => (N9 e (List.mem_append_right _ he)).1)
  obtain ⟨as2, r2⟩ := RV.lst (l := (R2, W.listOf vs2.toArray k2) :: own2) (T := R2) (vs := vs2.toArray) (n := k2) List.mem_cons_self (hrv2.mono fun e he => List.mem_cons_of_mem _ he) _ (fun e he => (N9 e (List.mem_append_left _ he)).1)
  rw [hdue] at r1
  refine PyProof.Rows.eq_dataH r1 r2 (dueD_shaped x) (dueD_shaped x) (by ke_room) ?_
  rw [dueD_self]
  exact hQ _ _ _ _ F9 N9
end
-- P3
section
noncomputable def wordsN : Nat → List (List Nat)
  | 0 => [[]]
  | n + 1 => (wordsN n).flatMap fun l => [102 :: l, 105 :: l, 108 :: l]
theorem mem_words : ∀ l : List Nat, (∀ c ∈ l, c = 102 ∨ c = 105 ∨ c = 108) → l ∈ wordsN l.length
  | [], _ => List.mem_singleton.mpr rfl
  | c :: l, h => by
    refine List.mem_flatMap.mpr ⟨l, mem_words l fun d hd => h d (List.mem_cons_of_mem _ hd), ?_⟩
    rcases h c List.mem_cons_self with rfl | rfl | rfl <;> simp
noncomputable def canonW (l : List Nat) : List Nat := List.replicate (l.count 102) 102 ++ (List.replicate (l.count 105) 105 ++ List.replicate (l.count 108) 108)
noncomputable def tripD (t : Int × Int × Int) : PyData := .tuple [.int t.1, .int t.2.1, .int t.2.2]
noncomputable def rowTr (k a c : Int) : List (Int × Int × Int) := if a = c then [] else [(k, a, c)]
noncomputable def witTr (nt nt' : Int) (ns ns' : List Int) : Nat → List (Int × Int × Int)
  | 0 => []
  | k + 1 => witTr nt nt' ns ns' k ++ rowTr ((k : Int) + 1) (levelS nt ((k : Int) + 1) ns) (levelS nt' ((k : Int) + 1) ns')
noncomputable def colTr (p q : Int × Int) : List (Int × Int × Int) := rowTr 1 p.1 q.1 ++ rowTr 2 p.2 q.2
theorem rowTr_map (k a c : Int) : (rowTr k a c).map tripD = if a = c then [] else [.tuple [.int k, .int a, .int c]] := by
  unfold rowTr
  split <;> rfl
theorem witTr_map (nt nt' : Int) (ns ns' : List Int) : ∀ k, (witTr nt nt' ns ns' k).map tripD = witD nt nt' ns ns' k
  | 0 => rfl
  | k + 1 => by
    show ((witTr nt nt' ns ns' k) ++ _).map tripD = witD nt nt' ns ns' k ++ rowD nt nt' ns ns' ((k : Int) + 1)
    rw [List.map_append, witTr_map nt nt' ns ns' k, rowTr_map]
    rfl
theorem colTr_map (p q : Int × Int) : (colTr p q).map tripD = colR p q 2 := by
  unfold colTr
  rw [List.map_append, rowTr_map, rowTr_map]
  show _ = colRow 1 p.1 q.1 ++ (colRow 2 p.2 q.2 ++ [])
  rw [List.append_nil]
  rfl
noncomputable def c1B (l : List Nat) : Bool := decide ((scL l).cnt = (scL (canonW l)).cnt) && decide ((scL l).nt = (scL (canonW l)).nt) && decide (colsS ⟨l.toArray⟩ = colsS ⟨(canonW l).toArray⟩) && decide (l.Perm (canonW l))
theorem c1_1 : ∀ l ∈ wordsN 1, c1B l = true := by decide +kernel
theorem c1_2 : ∀ l ∈ wordsN 2, c1B l = true := by decide +kernel
theorem c1_3 : ∀ l ∈ wordsN 3, c1B l = true := by decide +kernel
theorem c1_4 : ∀ l ∈ wordsN 4, c1B l = true := by decide +kernel
noncomputable def sortedW (n : Nat) : List (List Nat) := (wordsN n).filter fun l => decide (canonW l = l)
noncomputable def c2B (a b : List Nat) : Bool := (decide ((scL a).cnt = (scL b).cnt) == decide (a = b)) && decide (witTr (scL a).nt (scL b).nt (scL a).cnt (scL b).cnt (witN (scL a).cnt (scL b).cnt) = colTr (colsS ⟨a.toArray⟩) (colsS ⟨b.toArray⟩))
theorem c2_1 : ∀ a ∈ sortedW 1, ∀ b ∈ sortedW 1, c2B a b = true := by decide +kernel
theorem c2_2 : ∀ a ∈ sortedW 2, ∀ b ∈ sortedW 2, c2B a b = true := by decide +kernel
theorem c2_3 : ∀ a ∈ sortedW 3, ∀ b ∈ sortedW 3, c2B a b = true := by decide +kernel
theorem c2_4 : ∀ a ∈ sortedW 4, ∀ b ∈ sortedW 4, c2B a b = true := by decide +kernel
theorem canon_canon (l : List Nat) : canonW (canonW l) = canonW l := by
  unfold canonW
  simp [List.count_replicate]
theorem canon_len (l : List Nat) (h : ∀ c ∈ l, c = 102 ∨ c = 105 ∨ c = 108) : l.Perm (canonW l) → (canonW l).length = l.length := fun p => p.length_eq.symm
theorem canon_let (l : List Nat) : ∀ c ∈ canonW l, c = 102 ∨ c = 105 ∨ c = 108 := by
  intro c hc
  unfold canonW at hc
  rcases List.mem_append.mp hc with hc | hc
  · exact .inl (List.eq_of_mem_replicate hc)
  rcases List.mem_append.mp hc with hc | hc
  · exact .inr (.inl (List.eq_of_mem_replicate hc))
  · exact .inr (.inr (List.eq_of_mem_replicate hc))
theorem c1_all (l : List Nat) (h : ∀ c ∈ l, c = 102 ∨ c = 105 ∨ c = 108) (hl : 1 ≤ l.length ∧ l.length ≤ 4) : c1B l = true := by
  have hm := mem_words l h
  generalize hn : l.length = n at hm hl
  obtain ⟨h1, h4⟩ := hl
  rcases n with _ | _ | _ | _ | _ | n
  · lia
  · exact c1_1 l hm
  · exact c1_2 l hm
  · exact c1_3 l hm
  · exact c1_4 l hm
  · lia
theorem c2_all (a b : List Nat) (ha : ∀ c ∈ a, c = 102 ∨ c = 105 ∨ c = 108) (hb : ∀ c ∈ b, c = 102 ∨ c = 105 ∨ c = 108) (ca : canonW a = a) (cb : canonW b = b) (hl : 1 ≤ a.length ∧ a.length ≤ 4) (hlb : b.length = a.length) : c2B a b = true := by
  have hma : a ∈ sortedW a.length := List.mem_filter.mpr ⟨mem_words a ha, decide_eq_true ca⟩
  have hmb : b ∈ sortedW a.length := List.mem_filter.mpr ⟨hlb ▸ mem_words b hb, decide_eq_true cb⟩
  generalize a.length = n at hma hmb hl
  obtain ⟨h1, h4⟩ := hl
  rcases n with _ | _ | _ | _ | _ | n
  · lia
  · exact c2_1 a hma b hmb
  · exact c2_2 a hma b hmb
  · exact c2_3 a hma b hmb
  · exact c2_4 a hma b hmb
  · lia
theorem row_eq (p b : Int) (l1 l2 : List Nat) (h1 : ∀ c ∈ l1, c = 102 ∨ c = 105 ∨ c = 108) (h2 : ∀ c ∈ l2, c = 102 ∨ c = 105 ∨ c = 108) (hl : 1 ≤ l1.length ∧ l1.length ≤ 4) (hlb : l2.length = l1.length) :
    rowPD p b l1 l2 = dueRow p b ⟨l1.toArray⟩ ⟨l2.toArray⟩ := by
  have k1 := c1_all l1 h1 hl
  have k2 := c1_all l2 h2 (by lia)
  unfold c1B at k1 k2
  simp only [Bool.and_eq_true, decide_eq_true_eq] at k1 k2
  obtain ⟨⟨⟨a1, a2⟩, a3⟩, a4⟩ := k1
  obtain ⟨⟨⟨b1, b2⟩, b3⟩, b4⟩ := k2
  have e1 := canon_len l1 h1 a4
  have e2 := canon_len l2 h2 b4
  have k3 := c2_all (canonW l1) (canonW l2) (canon_let l1) (canon_let l2) (canon_canon l1) (canon_canon l2) (by lia) (by lia)
  unfold c2B at k3
  simp only [Bool.and_eq_true, decide_eq_true_eq, beq_iff_eq] at k3
  obtain ⟨k3, k4⟩ := k3
  have hperm : decide (canonW l1 = canonW l2) = decide (l1.Perm l2) := by
    refine decide_eq_decide.mpr ⟨fun e => a4.trans (e ▸ b4.symm), fun h => ?_⟩
    unfold canonW
    rw [h.count_eq, h.count_eq, h.count_eq]
  unfold rowPD dueRow
  rw [a1, a2, b1, b2, a3, b3, ← witTr_map, k4, colTr_map, k3, hperm]
end
-- P4
section
noncomputable def tmB (i j : Nat) : Bool := decide ((marksS (1 + (j : Int)) (1 + (i : Int))).length - 2 = dueN (1 + (j : Int)) (1 + (i : Int))) && (List.range 8).all fun k => decide (k < dueN (1 + (j : Int)) (1 + (i : Int)) → k + 2 < (marksS (1 + (j : Int)) (1 + (i : Int))).length ∧
  (marksS (1 + (j : Int)) (1 + (i : Int))).getD k 0 = (1 + (j : Int)).fmod (1 + (i : Int)) + (k : Int) * (1 + (i : Int)) ∧ (marksS (1 + (j : Int)) (1 + (i : Int))).getD (k + 1) 0 = (1 + (j : Int)).fmod (1 + (i : Int)) + (k : Int) * (1 + (i : Int)) + (1 + (i : Int)) ∧
  (marksS (1 + (j : Int)) (1 + (i : Int))).getD (k + 1 + 1) 0 = (1 + (j : Int)).fmod (1 + (i : Int)) + (k : Int) * (1 + (i : Int)) + 2 * (1 + (i : Int)))
theorem tm_all : ∀ i < 4, ∀ j < i + 1, tmB i j = true := by decide +kernel
theorem pieces_getD {x : Str} {a b : Int} {j : Nat} (h : j + 1 < (marksS a b).length) : (piecesL x a b).getD j [] = piece x ((marksS a b).getD j 0) ((marksS a b).getD (j + 1) 0) := by
  unfold piecesL
  rw [List.getD_eq_getElem?_getD, List.getElem?_map, List.getElem?_range (by lia)]
  rfl
theorem piece_pc (x : Str) (p q : Int) (hp : 0 ≤ p ∧ p ≤ q) : (⟨(piece x p q).toArray⟩ : Str) = pcS x p q := by
  unfold piece pcS
  rw [show q.toNat - p.toNat = (q - p).toNat by lia]
theorem turn_eq (x : Str) (hx : ∀ c ∈ x.cps.toList, c = 102 ∨ c = 105 ∨ c = 108) (hl : x.cps.size = 8) {i j : Nat} (hi : i < 4) (hj : j < i + 1) :
    turnD x (1 + (j : Int)) (1 + (i : Int)) = dueT x (1 + (j : Int)) (1 + (i : Int)) (dueN (1 + (j : Int)) (1 + (i : Int))) := by
  have h := tm_all i hi j hj
  unfold tmB at h
  simp only [Bool.and_eq_true, decide_eq_true_eq, List.all_eq_true, List.mem_range] at h
  obtain ⟨hlen, hk⟩ := h
  obtain ⟨_, _, hd8, hb⟩ := due_rng hi hj
  unfold turnD rowsL dueT
  rw [hlen]
  refine List.map_congr_left fun k hkm => ?_
  have hkn := List.mem_range.mp hkm
  obtain ⟨m0, m1, m2, m3⟩ := hk k (by lia) hkn
  obtain ⟨b0, b1⟩ := hb k hkn
  rw [pieces_getD (by lia), pieces_getD (by lia), m1, m2, m3]
  generalize (1 + (j : Int)).fmod (1 + (i : Int)) + (k : Int) * (1 + (i : Int)) = p at b0 b1
  have hi1 : (1 : Int) ≤ 1 + (i : Int) := by lia
  have hi4 : 1 + (i : Int) ≤ 4 := by lia
  generalize (1 + (i : Int)) = b at hi1 hi4 b1
  have hlet : ∀ p q : Int, ∀ c ∈ piece x p q, c = 102 ∨ c = 105 ∨ c = 108 := fun p q c hc => hx c (List.mem_of_mem_drop (List.mem_of_mem_take hc))
  have hln : ∀ p q : Int, 0 ≤ p → p ≤ q → q ≤ 8 → (piece x p q).length = (q - p).toNat := by
    intro p q h1 h2 h3
    unfold piece
    rw [List.length_take, List.length_drop, Array.length_toList, hl]
    lia
  rw [row_eq p b _ _ (hlet _ _) (hlet _ _) (by rw [hln _ _ b0 (by lia) (by lia)]; lia) (by rw [hln _ _ b0 (by lia) (by lia), hln _ _ (by lia) (by lia) (by lia)]; lia), piece_pc _ _ _ ⟨b0, by lia⟩, piece_pc _ _ _ ⟨by lia, by lia⟩]
theorem told_due (x : Str) (hx : ∀ c ∈ x.cps.toList, c = 102 ∨ c = 105 ∨ c = 108) (hl : x.cps.size = 8) : toldD x 4 = dueD x 4 := by
  have inner : ∀ i : Nat, i < 4 → ∀ k : Nat, k ≤ i + 1 → firstsD x (1 + (i : Int)) k = dueF x (1 + (i : Int)) k := by
    intro i hi k
    induction k with
    | zero => intro _; rfl
    | succ k ih =>
      intro hk
      rw [firstsD_next, dueF_next, ih (by lia), turn_eq x hx hl hi (by lia)]
  have outer : ∀ k : Nat, k ≤ 4 → toldD x k = dueD x k := by
    intro k
    induction k with
    | zero => intro _; rfl
    | succ k ih =>
      intro hk
      rw [toldD_next, dueD_next, ih (by lia), inner k (by lia) (k + 1) (Nat.le_refl _)]
  exact outer 4 (Nat.le_refl _)
end
-- P5
section
noncomputable def wtC (c : Nat) : Nat := cond (Nat.beq c 102) 1 (cond (Nat.beq c 105) 16 256)
noncomputable def wtL : List Nat → Nat
  | [] => 0
  | c :: l => wtC c + wtL l
noncomputable def sqB (l : List Nat) (p b : Nat) : Bool := Nat.beq (wtL ((l.drop p).take b)) (wtL ((l.drop (p + b)).take b))
noncomputable def D12 : List (Nat × Nat) := [(0, 1), (1, 1), (2, 1), (3, 1), (4, 1), (5, 1), (0, 2), (1, 2), (2, 2), (3, 2), (0, 3), (1, 3)]
noncomputable def D16 : List (Nat × Nat) := [(0, 1), (1, 1), (2, 1), (3, 1), (4, 1), (5, 1), (6, 1), (1, 2), (3, 2), (0, 2), (2, 2), (4, 2), (1, 3), (2, 3), (0, 3), (0, 4)]
noncomputable def noSq (l : List Nat) : Bool := D12.all fun pb => !sqB l pb.1 pb.2
noncomputable def hasSq (l : List Nat) : Bool := D16.any fun pb => sqB l pb.1 pb.2
noncomputable def chk7 (w : List Nat) : Bool := (noSq w == bareL w) && (!noSq w || (hasSq (w ++ [102]) && hasSq (w ++ [105]) && hasSq (w ++ [108])))
noncomputable def ends5 (u : List Nat) : Bool := (wordsN 5).all fun v => chk7 (v ++ u)
theorem e1 : ends5 [102, 102] = true := by decide +kernel
theorem e2 : ends5 [102, 105] = true := by decide +kernel
theorem e3 : ends5 [102, 108] = true := by decide +kernel
theorem e4 : ends5 [105, 102] = true := by decide +kernel
theorem e5 : ends5 [105, 105] = true := by decide +kernel
theorem e6 : ends5 [105, 108] = true := by decide +kernel
theorem e7 : ends5 [108, 102] = true := by decide +kernel
theorem e8 : ends5 [108, 105] = true := by decide +kernel
theorem e9 : ends5 [108, 108] = true := by decide +kernel
end
-- P6
section
noncomputable abbrev Lets (l : List Nat) : Prop := ∀ c ∈ l, c = 102 ∨ c = 105 ∨ c = 108
theorem wt_counts : ∀ l : List Nat, Lets l → wtL l = l.count 102 + 16 * l.count 105 + 256 * l.count 108 ∧ l.length = l.count 102 + l.count 105 + l.count 108
  | [], _ => ⟨rfl, rfl⟩
  | c :: l, h => by
    obtain ⟨i1, i2⟩ := wt_counts l fun d hd => h d (List.mem_cons_of_mem _ hd)
    rcases h c List.mem_cons_self with rfl | rfl | rfl
    · have e : wtL (102 :: l) = 1 + wtL l := rfl
      simp only [List.count_cons, List.length_cons, e]
      simp
      lia
    · have e : wtL (105 :: l) = 16 + wtL l := rfl
      simp only [List.count_cons, List.length_cons, e]
      simp
      lia
    · have e : wtL (108 :: l) = 256 + wtL l := rfl
      simp only [List.count_cons, List.length_cons, e]
      simp
      lia
theorem perm_canonW (l : List Nat) (h : Lets l) : l.Perm (canonW l) := by
  rw [List.perm_iff_count]
  intro a
  unfold canonW
  simp only [List.count_append, List.count_replicate]
  by_cases h1 : a = 102
  · subst h1; simp
  by_cases h2 : a = 105
  · subst h2; simp
  by_cases h3 : a = 108
  · subst h3; simp
  · have : l.count a = 0 := List.count_eq_zero.mpr fun hm => by rcases h a hm with e | e | e <;> contradiction
    rw [this, if_neg (by simpa using Ne.symm h1), if_neg (by simpa using Ne.symm h2), if_neg (by simpa using Ne.symm h3)]
theorem perm_wt {l1 l2 : List Nat} (h1 : Lets l1) (h2 : Lets l2) (n1 : l1.length ≤ 8) (n2 : l2.length ≤ 8) : decide (l1.Perm l2) = Nat.beq (wtL l1) (wtL l2) := by
  obtain ⟨a1, a2⟩ := wt_counts l1 h1
  obtain ⟨b1, b2⟩ := wt_counts l2 h2
  rw [Bool.eq_iff_iff, decide_eq_true_eq, Nat.beq_eq]
  constructor
  · intro h
    rw [a1, b1, h.count_eq, h.count_eq, h.count_eq]
  · intro h
    have e1 : l1.count 102 = l2.count 102 := by omega
    have e2 : l1.count 105 = l2.count 105 := by omega
    have e3 : l1.count 108 = l2.count 108 := by lia
    have e : canonW l1 = canonW l2 := by unfold canonW; rw [e1, e2, e3]
    exact (perm_canonW l1 h1).trans (e ▸ (perm_canonW l2 h2).symm)
theorem ends_all : ∀ u : List Nat, Lets u → u.length = 2 → ends5 u = true := by
  intro u hu h2
  obtain ⟨a, b, rfl⟩ : ∃ a b, u = [a, b] := by
    match u, h2 with
    | [a, b], _ => exact ⟨a, b, rfl⟩
  rcases hu a (by simp) with rfl | rfl | rfl <;> rcases hu b (by simp) with rfl | rfl | rfl
  · exact e1
  · exact e2
  · exact e3
  · exact e4
  · exact e5
  · exact e6
  · exact e7
  · exact e8
  · exact e9
theorem chk_all (w : List Nat) (hw : Lets w) (h7 : w.length = 7) : chk7 w = true := by
  have h := ends_all (w.drop 5) (fun c hc => hw c (List.mem_of_mem_drop hc)) (by rw [List.length_drop, h7])
  unfold ends5 at h
  rw [List.all_eq_true] at h
  have hm := mem_words (w.take 5) (fun c hc => hw c (List.mem_of_mem_take hc))
  rw [List.length_take, h7] at hm
  have := h (w.take 5) hm
  rwa [List.take_append_drop] at this
theorem no_bare (w : List Nat) (hw : Lets w) (h7 : w.length = 7) : noSq w = bareL w := by
  have h := chk_all w hw h7
  unfold chk7 at h
  rw [Bool.and_eq_true] at h
  exact beq_iff_eq.mp h.1
theorem sq_take (l : List Nat) (n p b : Nat) (h : p + 2 * b ≤ n) : sqB (l.take n) p b = sqB l p b := by
  unfold sqB
  rw [List.drop_take, List.drop_take, List.take_take, List.take_take, Nat.min_eq_left (by lia), Nat.min_eq_left (by lia)]
theorem sq_drop (l : List Nat) (p b : Nat) : sqB (l.drop 1) p b = sqB l (p + 1) b := by
  unfold sqB
  rw [List.drop_drop, List.drop_drop, show 1 + p = p + 1 by lia, show 1 + (p + b) = p + 1 + b by lia]
theorem has_sq (l : List Nat) (hl : Lets l) (h8 : l.length = 8) : hasSq l = true := by
  obtain ⟨w, c, rfl⟩ : ∃ w c, l = w ++ [c] := by
    have hne : l ≠ [] := by intro e; rw [e] at h8; cases h8
    exact ⟨l.dropLast, l.getLast hne, (List.dropLast_concat_getLast hne).symm⟩
  have h7 : w.length = 7 := by rw [List.length_append, List.length_singleton] at h8; lia
  have hw : Lets w := fun d hd => hl d (List.mem_append_left _ hd)
  have hc := hl c (List.mem_append_right _ (List.mem_singleton.mpr rfl))
  have h := chk_all w hw h7
  unfold chk7 at h
  rw [Bool.and_eq_true] at h
  cases hn : noSq w with
  | true =>
    rw [hn] at h
    simp only [Bool.not_true, Bool.false_or, Bool.and_eq_true] at h
    rcases hc with rfl | rfl | rfl
    · exact h.2.1.1
    · exact h.2.1.2
    · exact h.2.2
  | false =>
    unfold noSq at hn
    rw [List.all_eq_false] at hn
    obtain ⟨pb, hpb, hs⟩ := hn
    have hs' : sqB w pb.1 pb.2 = true := by simpa using hs
    have all : ∀ pb ∈ D12, pb ∈ D16 ∧ pb.1 + 2 * pb.2 ≤ 7 := by decide
    unfold hasSq
    rw [List.any_eq_true]
    refine ⟨pb, (all pb hpb).1, ?_⟩
    have e := sq_take (w ++ [c]) 7 pb.1 pb.2 (all pb hpb).2
    rw [List.take_left' h7] at e
    rw [← e]; exact hs'
noncomputable def AL (l : List Nat) : List (Int × Int) := D16.filterMap fun pb => if sqB l pb.1 pb.2 = true then some ((pb.1 : Int), (pb.1 : Int) + 2 * (pb.2 : Int)) else none
theorem al_mem {l : List Nat} {q : Int × Int} : q ∈ AL l ↔ ∃ pb ∈ D16, sqB l pb.1 pb.2 = true ∧ q = ((pb.1 : Int), (pb.1 : Int) + 2 * (pb.2 : Int)) := by
  unfold AL
  rw [List.mem_filterMap]
  constructor
  · rintro ⟨pb, h, e⟩
    split at e
    · rename_i hs
      exact ⟨pb, h, hs, (Option.some.inj e).symm⟩
    · cases e
  · rintro ⟨pb, h, hs, rfl⟩
    exact ⟨pb, h, by rw [if_pos hs]⟩
theorem al_7 (l : List Nat) (hl : Lets l) (h8 : l.length = 8) : decide (AL l = (AL l).filter fun p => decide (p.2 = 8)) = bareL (l.take 7) := by
  rw [← no_bare (l.take 7) (fun c hc => hl c (List.mem_of_mem_take hc)) (by rw [List.length_take, h8]; rfl)]
  have inn : ∀ pb ∈ D12, pb ∈ D16 ∧ pb.1 + 2 * pb.2 ≤ 7 := by decide
  have out : ∀ pb ∈ D16, pb ∈ D12 ∨ pb.1 + 2 * pb.2 = 8 := by decide
  rw [Bool.eq_iff_iff, decide_eq_true_eq, eq_comm, List.filter_eq_self]
  unfold noSq
  rw [List.all_eq_true]
  constructor
  · intro h pb hpb
    obtain ⟨h16, h7⟩ := inn pb hpb
    rw [sq_take l 7 _ _ h7]
    cases hs : sqB l pb.1 pb.2 with
    | false => rfl
    | true =>
      have := h _ (al_mem.mpr ⟨pb, h16, hs, rfl⟩)
      simp only [decide_eq_true_eq] at this
      lia
  · intro h q hq
    obtain ⟨pb, h16, hs, rfl⟩ := al_mem.mp hq
    simp only [decide_eq_true_eq]
    rcases out pb h16 with h12 | h8
    · have := h pb h12
      rw [sq_take l 7 _ _ (inn pb h12).2, hs] at this
      cases this
    · lia
theorem al_1 (l : List Nat) (hl : Lets l) (h8 : l.length = 8) : decide (AL l = (AL l).filter fun p => decide (p.1 = 0)) = bareL (l.drop 1) := by
  rw [← no_bare (l.drop 1) (fun c hc => hl c (List.mem_of_mem_drop hc)) (by rw [List.length_drop, h8])]
  have inn : ∀ pb ∈ D12, (pb.1 + 1, pb.2) ∈ D16 := by decide
  have out : ∀ pb ∈ D16, pb.1 = 0 ∨ (pb.1 - 1, pb.2) ∈ D12 := by decide
  rw [Bool.eq_iff_iff, decide_eq_true_eq, eq_comm, List.filter_eq_self]
  unfold noSq
  rw [List.all_eq_true]
  constructor
  · intro h pb hpb
    have h16 := inn pb hpb
    rw [sq_drop]
    cases hs : sqB l (pb.1 + 1) pb.2 with
    | false => rfl
    | true =>
      have := h _ (al_mem.mpr ⟨(pb.1 + 1, pb.2), h16, hs, rfl⟩)
      simp only [decide_eq_true_eq] at this
      lia
  · intro h q hq
    obtain ⟨pb, h16, hs, rfl⟩ := al_mem.mp hq
    simp only [decide_eq_true_eq]
    rcases out pb h16 with h0 | h12
    · lia
    · rcases Nat.eq_zero_or_pos pb.1 with e0 | e0
      · lia
      · have := h _ h12
        rw [sq_drop, show pb.1 - 1 + 1 = pb.1 by lia, hs] at this
        cases this
theorem al_ne (l : List Nat) (hl : Lets l) (h8 : l.length = 8) : AL l ≠ [] := by
  have h := has_sq l hl h8
  unfold hasSq at h
  rw [List.any_eq_true] at h
  obtain ⟨pb, hpb, hs⟩ := h
  intro e
  have := al_mem.mpr ⟨pb, hpb, hs, rfl⟩
  rw [e] at this
  cases this
end
-- P7
section
noncomputable def row16 (x : Str) (pb : Nat × Nat) : PyData := dueRow (pb.1 : Int) (pb.2 : Int) (pcS x (pb.1 : Int) ((pb.1 : Int) + (pb.2 : Int))) (pcS x ((pb.1 : Int) + (pb.2 : Int)) ((pb.1 : Int) + 2 * (pb.2 : Int)))
noncomputable def list16 : List (Nat × Nat) := (List.range 4).flatMap fun (i : Nat) => (List.range (i + 1)).flatMap fun (j : Nat) => (List.range (dueN (1 + (j : Int)) (1 + (i : Int)))).map fun (k : Nat) => (((1 + (j : Int)).fmod (1 + (i : Int)) + (k : Int) * (1 + (i : Int))).toNat, i + 1)
theorem list16_eq : list16 = D16 := by decide +kernel
theorem flatMap_congrM {α β : Type} {f g : α → List β} : ∀ l : List α, (∀ a ∈ l, f a = g a) → l.flatMap f = l.flatMap g
  | [], _ => rfl
  | a :: l, h => by
    rw [List.flatMap_cons, List.flatMap_cons, h a List.mem_cons_self, flatMap_congrM l fun b hb => h b (List.mem_cons_of_mem _ hb)]
theorem due16 (x : Str) : dueD x 4 = D16.map (row16 x) := by
  rw [← list16_eq]
  unfold dueD dueF dueT list16
  rw [List.map_flatMap]
  refine flatMap_congrM _ fun i hi => ?_
  rw [List.map_flatMap]
  refine flatMap_congrM _ fun j hj => ?_
  rw [List.map_map]
  refine List.map_congr_left fun k hk => ?_
  obtain ⟨_, _, _, hb⟩ := due_rng (List.mem_range.mp hi) (List.mem_range.mp hj)
  obtain ⟨b0, b1⟩ := hb k (List.mem_range.mp hk)
  have e1 : ((((1 + (j : Int)).fmod (1 + (i : Int)) + (k : Int) * (1 + (i : Int))).toNat : Nat) : Int) = (1 + (j : Int)).fmod (1 + (i : Int)) + (k : Int) * (1 + (i : Int)) := Int.toNat_of_nonneg b0
  have e2 : ((i + 1 : Nat) : Int) = 1 + (i : Int) := by lia
  show _ = row16 x _
  unfold row16
  simp only [e1, e2]
theorem pc_nat (x : Str) (p q : Nat) : (pcS x (p : Int) (q : Int)).cps.toList = (x.cps.toList.drop p).take (q - p) := by
  show (x.cps.toList.drop ((p : Int).toNat)).take (((q : Int) - (p : Int)).toNat) = _
  rw [Int.toNat_natCast, show ((q : Int) - (p : Int)).toNat = q - p by lia]
theorem row16_sel (x : Str) (hx : Lets x.cps.toList) (hl : x.cps.size = 8) (pb : Nat × Nat) : rowSel (row16 x pb) = if sqB x.cps.toList pb.1 pb.2 = true then some ((pb.1 : Int), (pb.1 : Int) + 2 * (pb.2 : Int)) else none := by
  have e1 : (pcS x (pb.1 : Int) ((pb.1 : Int) + (pb.2 : Int))).cps.toList = (x.cps.toList.drop pb.1).take pb.2 := by
    have := pc_nat x pb.1 (pb.1 + pb.2)
    rw [show ((pb.1 + pb.2 : Nat) : Int) = (pb.1 : Int) + (pb.2 : Int) by lia, show pb.1 + pb.2 - pb.1 = pb.2 by lia] at this
    exact this
  have e2 : (pcS x ((pb.1 : Int) + (pb.2 : Int)) ((pb.1 : Int) + 2 * (pb.2 : Int))).cps.toList = (x.cps.toList.drop (pb.1 + pb.2)).take pb.2 := by
    have := pc_nat x (pb.1 + pb.2) (pb.1 + 2 * pb.2)
    rw [show ((pb.1 + pb.2 : Nat) : Int) = (pb.1 : Int) + (pb.2 : Int) by lia, show ((pb.1 + 2 * pb.2 : Nat) : Int) = (pb.1 : Int) + 2 * (pb.2 : Int) by lia, show pb.1 + 2 * pb.2 - (pb.1 + pb.2) = pb.2 by lia] at this
    exact this
  have l8 : x.cps.toList.length = 8 := by rw [Array.length_toList]; exact hl
  have hp := perm_wt (l1 := (x.cps.toList.drop pb.1).take pb.2) (l2 := (x.cps.toList.drop (pb.1 + pb.2)).take pb.2) (fun c hc => hx c (List.mem_of_mem_drop (List.mem_of_mem_take hc))) (fun c hc => hx c (List.mem_of_mem_drop (List.mem_of_mem_take hc)))
    (by rw [List.length_take, List.length_drop]; lia) (by rw [List.length_take, List.length_drop]; lia)
  unfold row16 dueRow rowSel
  simp only [e1, e2, hp]
  rfl
theorem alike_AL (x : Str) (hx : Lets x.cps.toList) (hl : x.cps.size = 8) : alikeP (toldD x 4) = AL x.cps.toList := by
  rw [told_due x hx hl, due16]
  unfold alikeP AL
  rw [List.filterMap_map]
  congr 1
  funext pb
  exact row16_sel x hx hl pb
theorem plain7 (x : Str) (hx : Lets x.cps.toList) (hl : x.cps.size = 8) : decide (alikeP (toldD x 4) = (alikeP (toldD x 4)).filter fun p => decide (p.2 = 8)) = bareL (pcS x 0 7).cps.toList := by
  have l8 : x.cps.toList.length = 8 := by rw [Array.length_toList]; exact hl
  rw [alike_AL x hx hl, al_7 _ hx l8]
  rfl
theorem plain1 (x : Str) (hx : Lets x.cps.toList) (hl : x.cps.size = 8) : decide (alikeP (toldD x 4) = (alikeP (toldD x 4)).filter fun p => decide (p.1 = 0)) = bareL (pcS x 1 8).cps.toList := by
  have l8 : x.cps.toList.length = 8 := by rw [Array.length_toList]; exact hl
  rw [alike_AL x hx hl, al_1 _ hx l8]
  have e : (pcS x 1 8).cps.toList = (x.cps.toList.drop 1).take 7 := rfl
  rw [e, List.take_of_length_le (by rw [List.length_drop]; lia)]
theorem plain_ne (x : Str) (hx : Lets x.cps.toList) (hl : x.cps.size = 8) : alikeP (toldD x 4) ≠ [] := by
  have l8 : x.cps.toList.length = 8 := by rw [Array.length_toList]; exact hl
  rw [alike_AL x hx hl]
  exact al_ne _ hx l8
theorem plain_len (x : Str) : (alikeP (toldD x 4)).length ≤ 1000 := by
  have h1 := toldD_le x 4 (by decide)
  exact Nat.le_trans (List.length_filterMap_le _ _) (by lia)
end
-- LW
section
theorem law_core (w : World) (ns : List Int) (vs : List Value) (l : Addr) (hI : IntsAre vs ns) (hlen : vs.length ≤ 63) (mean : ExcName → Option Value) (mg mb : Str → Option Value) (fa : Addr) (ccd : Value) (base g : Heap) (L : Addr)
    (m : Str → Option Value) (s : Shared) (Q : Flow → Shared → Prop) (E : Value → Shared → Prop) (hm : m (Str.ofString "script") = some (.ref l)) (hl : g.IsList l vs.toArray)
    (B : Below callerA base [] g) (F : Fr g L s.heap m) (X : (KK w.params).In g) (N : News g L s.heap []) (T : Top qv (looseW qv loose) mean mg mb g) (hB : AllBare s.gens)
    (hQ : ∀ h' tk G m' news', AllBare G → Fr g L h' m' → News g L h' news' → Q (.ret (.bool true)) { s with heap := h', toks := tk, gens := G }) :
      wpAny (model rr.prog w) (callerA.deeper (envOf (Str.ofString "law") C24 L fa ccd)) (execs B24 (envOf (Str.ofString "law") C24 L fa ccd)) Q E s := by
  refine law_nums w ns vs l hI hlen mean mg mb fa ccd base g L m s Q E hm hl B F X N T fun h1 tk1 m1 D us hm1 hus F1 N1 => ?_
  refine law_text w (numsL ns) (numsL_len ns) (numsL_bd ns) us hus D mean mg mb fa ccd base g L m1 _ Q E hm1 B F1 X N1 T fun h2 tk2 m2 x t hm2 hx hl2 htk F2 N2 => ?_
  refine law_alike w x t hx hl2 mean mg mb fa ccd base g L m2 _ Q E hm2 B F2 X N2 T htk hB fun h3 tk3 G3 m3 R ws k own DA vsA ownA hB3 hm3 ht3 ha3 hrv hvl hpa _ F3 N3 => ?_
  refine law_if7 w x t hx hl2 _ (plain7 x hx hl2) (plain_len x) mean mg mb fa ccd base g L m3 _ Q E R DA vsA ownA _ hm3 ht3 ha3 hpa B F3 X N3 T fun h4 tk4 m4 hm4 ht4 ha4 F4 N4 => ?_
  refine law_if1 w x t hx hl2 _ (plain1 x hx hl2) (plain_len x) mean mg mb fa ccd base g L m4 _ Q E R DA vsA ownA _ hm4 ht4 ha4 hpa B F4 X N4 T fun h5 tk5 m5 hm5 ht5 ha5 F5 N5 => ?_
  exact law_ret w x t hx hl2 _ (plain_ne x hx hl2) (told_due x hx hl2) mean mg mb fa ccd base g L m5 _ Q E R ws k own DA vsA ownA hm5 ht5 ha5 hpa hrv B F5 X N5 T fun h6 tk6 m6 news6 F6 N6 => hQ h6 tk6 G3 m6 news6 hB3 F6 N6
end
-- LX
section
theorem law_walk : WalkO qv loose (XL qv []) hook.says rr.toRowW dlaw [] fun f vs => PySem.call f vs := by
  w_on
  k_fill
  intro w s₀ s₁ mg mb G Y fa o pm cd doc dV kV ho hd hcd hD hmg hg args vals as hpre hlay hrd hwl hlo
  have KX := kIn_of Y
  have X := (Ground.X G).1
  have V := (Ground.X G).2
  refine Ground.open G ?_
  intro T B D TE TW
  try (refine guard_noD D (by decide +kernel) ?_; clear D)
  obtain ⟨_, _, M⟩ := bmod_of_top T
  have TA := at_of_top T
  try (obtain ⟨_, _, he, B0⟩ := based_of_top T rfl hmg ho hd; have he' : cd = _ := he; subst he'; clear he)
  clear hmg
  wrow_args hpre hlay hrd hwl hlo
  first | refine callC_kw (enter_call ?_) | refine enter_call ?_ | refine callC_kw (enter_callW ?_) | refine enter_callW ?_ | w_how
  w_top on
  have K0 := below_caller (Top.heap T)
  w_call any ho hd hcd hD T F
  clear hd TA
  rename IntsAre _ _ => hI
  rename Heap.IsList _ _ _ => hL
  rename ¬ ((63 : Nat) : Int) < _ => hc
  have hlen := hI.length
  rename News _ _ _ _ => N0
  refine law_core w _ _ _ hI (by lia) (ExcName.means s₀.heap) mg mb fa _ _ s₁.heap _ _ _ _ _ rfl hL K0 F KX N0 T ?hB fun h' tk G' m' news' hG F' N' => ?_
  case hB => exact .of_eq hg
  exact goodWG_reads B0 F' hG (fun _ => rfl) (d := .bool true) (as := []) (.bool true) (fun _ => ⟨List.nodup_nil, fun a ha => nomatch ha⟩) (postW_of (by wrow_shape) (by wtm_val) (by str_meet; first | done | w_fin)) rfl
end
end Mine
end
set_option maxRecDepth 100000 in
set_option maxHeartbeats 8000000 in
theorem PySem.Challenge.cw_tl0050_01_holds : PySem.Challenge.rw_tl0050_01.Holds := by
  exact Mine.hd Mine.law_walk
