import PyProof.Rows.All
import Wide.All
import OpenK.AllK
import Wide.FinOn
import PySem.Challenge.RW_yh0002_01
set_option Elab.async false
set_option linter.unusedVariables false
set_option maxRecDepth 100000
namespace Mine
-- HeapQ
noncomputable section
open PySem PySem.W PyProof.Rows
set_option Elab.async false
set_option maxRecDepth 100000
set_option maxHeartbeats 0
set_option linter.unusedVariables false
noncomputable section
noncomputable abbrev pw := PySem.Challenge.pw_yh0002_01
noncomputable def fb (k : Nat) : List Stmt := match pw.main.body[k]? with | some (.FunctionDef _ _ b _ _ _ _ _ _ _) => b | some (.ClassDef _ _ _ b _ _ _ _ _ _ _) => b | _ => []
noncomputable def mkBT (os : List Obj) : BT := (os.foldl (fun (x : BT × Nat) o => (x.1.ins x.2 o, x.2 + 1)) (BT.nil, 0)).1
noncomputable def st (os : List Obj) (n k : Nat) (o : OsState) : SharedT := ⟨mkBT os, n, {}, #[], {}, k, o⟩
noncomputable def env0 : Env := { scope := pw.main.scope, locals := mainNs, globals := mainNs, cells := [], code := .ref 13, frame := some 14 }
noncomputable def c0 : Code := .body (behindTheImports pw) env0
noncomputable abbrev fr0 : List Frame := [topFrame ⟨0, 0, 0, 0⟩]
noncomputable def sts (a b : Nat) : List Stmt := ((behindTheImports pw).take b).drop a
noncomputable abbrev ww (w : World) (a b : Bool) : World := (w.withFollow "set-order" a).withFollow "special-get-raises" b
noncomputable def q0_11 (P : Params) : Obj :=
{ cls := Value.type "tuple", data := Data.seq #[] }
noncomputable def q0_12 (P : Params) : Obj :=
{ cls := Value.none, data := Data.fields #[] }
noncomputable def q0_13 (P : Params) : Obj :=
{ cls := Value.type "code",
  data :=
    Data.fields
      #[Value.str (Str.ofString "<module>") 182, Value.str (Str.ofString "<module>") 183,
        Value.str (Str.ofString "/claim/cut.py") 184, Value.int 1 0, Value.int 0 0, Value.int 0 0, Value.int 0 0,
        Value.int 0 0, Value.ref 11, Value.bool false, Value.int 181 0, Value.ref 12, Value.none, Value.none,
        Value.none, Value.none, Value.int 185 0, Value.int 1 0, Value.str (Str.ofString "/claim/cut.py") 186] }
noncomputable def q0_14 (P : Params) : Obj :=
{ cls := Value.type "frame",
  slots :=
    #[some (Value.ref 13), some (Value.ref 3), some (Value.ref 3), none, some (Value.str (Str.ofString "__main__") 164),
      none, some (Value.ref 0)] }
noncomputable def L0 (P : Params) : List Obj := [boot_o_0 P, boot_o_1 P, boot_o_2 P, boot_o_3 P, boot_o_4 P, boot_o_5 P, boot_o_6 P, boot_o_7 P, boot_o_8 P, boot_o_9 P, boot_o_10 P, q0_11 P, q0_12 P, q0_13 P, q0_14 P]
noncomputable def n0 : Nat := 15
noncomputable def k0 : Nat := 187
noncomputable def p0 : Pos := { line := 0, col := 0, endLine := 0, endCol := 0 }
-- drawn { } life { } gens 0
noncomputable def q3_3 (P : Params) : Obj :=
{ cls := Value.type "dict",
  data :=
    Data.dict
      #[{ hash := PyData.keyHash P (Str.ofString "__name__"), key := Value.str (Str.ofString "__name__") 165,
          val := Value.str (Str.ofString "cpy313.stringprep") 187 },
        { hash := PyData.keyHash P (Str.ofString "__doc__"), key := Value.str (Str.ofString "__doc__") 166,
          val := Value.none },
        { hash := PyData.keyHash P (Str.ofString "__package__"), key := Value.str (Str.ofString "__package__") 167,
          val := Value.none },
        { hash := PyData.keyHash P (Str.ofString "__loader__"), key := Value.str (Str.ofString "__loader__") 168,
          val := Value.builtin "__main__.__loader__#opaque" },
        { hash := PyData.keyHash P (Str.ofString "__spec__"), key := Value.str (Str.ofString "__spec__") 169,
          val := Value.none },
        { hash := PyData.keyHash P (Str.ofString "__annotations__"),
          key := Value.str (Str.ofString "__annotations__") 170, val := Value.ref 6 },
        { hash := PyData.keyHash P (Str.ofString "__builtins__"), key := Value.str (Str.ofString "__builtins__") 171,
          val := Value.ref 4 },
        { hash := PyData.keyHash P (Str.ofString "__file__"), key := Value.str (Str.ofString "__file__") 173,
          val := Value.str (Str.ofString "/claim/cut.py") 172 },
        { hash := PyData.keyHash P (Str.ofString "__cached__"), key := Value.str (Str.ofString "__cached__") 174,
          val := Value.none },
        { hash := PyData.keyHash P (Str.ofString "in_table_c4"), key := Value.str (Str.ofString "in_table_c4") 196,
          val := Value.ref 21 },
        { hash := PyData.keyHash P (Str.ofString "c6_set"), key := Value.str (Str.ofString "c6_set") 210,
          val := Value.ref 23 }]
      11 }
noncomputable def q3_12 (P : Params) : Obj :=
{ cls := Value.none, data := Data.fields #[Value.int 2 0, Value.int 0 0, Value.ref 20] }
noncomputable def q3_15 (P : Params) : Obj :=
{ cls := Value.type "tuple", data := Data.seq #[] }
noncomputable def q3_16 (P : Params) : Obj :=
{ cls := Value.none, data := Data.fields #[] }
noncomputable def q3_17 (P : Params) : Obj :=
{ cls := Value.type "tuple", data := Data.seq #[Value.str (Str.ofString "code") 192, Value.str (Str.ofString "c") 193] }
noncomputable def q3_18 (P : Params) : Obj :=
{ cls := Value.type "tuple", data := Data.seq #[] }
noncomputable def q3_19 (P : Params) : Obj :=
{ cls := Value.none,
  data :=
    Data.func
      { name := Str.ofString "in_table_c4", qualname := Str.ofString "in_table_c4",
        params :=
          { posonlyargs := [],
            args :=
              [{ arg := Str.ofString "code", annotation := none,
                  pos := { line := 2, col := 16, endLine := 2, endCol := 20 } }],
            vararg := none, kwonlyargs := [], kw_defaults := [], kwarg := none, defaults := [] },
        body := FuncBody.stmts (fb 1),
        scope :=
          { kind := ScopeKind.function,
            names :=
              [(Str.ofString "code", NameKind.local), (Str.ofString "c", NameKind.local),
                (Str.ofString "ord", NameKind.globalImplicit)],
            isGenerator := false, isCoroutine := false },
        globals := 0, closure := [], defaults := Value.none, kwdefaults := Value.none } }
noncomputable def q3_20 (P : Params) : Obj :=
{ cls := Value.type "code",
  data :=
    Data.fields
      #[Value.str (Str.ofString "in_table_c4") 189, Value.str (Str.ofString "in_table_c4") 190,
        Value.str (Str.ofString "/claim/cut.py") 191, Value.int 2 0, Value.int 1 0, Value.int 0 0, Value.int 0 0,
        Value.int 3 0, Value.ref 15, Value.bool true, Value.int 181 0, Value.ref 16, Value.none, Value.ref 17,
        Value.ref 18, Value.ref 19, Value.int 194 0, Value.int 2 0, Value.str (Str.ofString "/claim/cut.py") 195] }
noncomputable def q3_21 (P : Params) : Obj :=
{ cls := Value.type "function",
  data :=
    Data.func
      { name := Str.ofString "in_table_c4", qualname := Str.ofString "in_table_c4",
        params :=
          { posonlyargs := [],
            args :=
              [{ arg := Str.ofString "code", annotation := none,
                  pos := { line := 2, col := 16, endLine := 2, endCol := 20 } }],
            vararg := none, kwonlyargs := [], kw_defaults := [], kwarg := none, defaults := [] },
        body := FuncBody.stmts (fb 1),
        scope :=
          { kind := ScopeKind.function,
            names :=
              [(Str.ofString "code", NameKind.local), (Str.ofString "c", NameKind.local),
                (Str.ofString "ord", NameKind.globalImplicit)],
            isGenerator := false, isCoroutine := false },
        globals := 3, closure := [], defaults := Value.none, kwdefaults := Value.none,
        pyModule := Value.str (Str.ofString "cpy313.stringprep") 187, code := Value.ref 20 } }
noncomputable def q3_22 (P : Params) : Obj :=
{ cls := Value.type "range", data := Data.fields #[Value.int 65529 197, Value.int 65534 198, Value.int 1 199] }
noncomputable def q3_23 (P : Params) : Obj :=
{ cls := Value.type "set",
  data :=
    Data.set
      #[(65529, Value.int 65529 200), (65530, Value.int 65530 202), (65531, Value.int 65531 204),
        (65532, Value.int 65532 206), (65533, Value.int 65533 208)]
      6
      { mask := 31, place := #[25, 26, 27, 28, 29], dummies := #[], finger := 0, led := !P.followText "set-order", moves := 1,
        plain := true } }
noncomputable def q3_24 (P : Params) : Obj :=
{ cls := Value.type "range_iterator", data := Data.fields #[Value.int 65534 0, Value.int 0 0, Value.int 1 0] }
noncomputable def q3_25 (P : Params) : Obj :=
{ cls := Value.type "tuple", data := Data.seq #[] }
noncomputable def q3_26 (P : Params) : Obj :=
{ cls := Value.type "StopIteration",
  data := Data.fields #[Value.ref 25, Value.none, Value.none, Value.none, Value.bool false, Value.none] }
noncomputable def L3 (P : Params) : List Obj := [boot_o_0 P, boot_o_1 P, boot_o_2 P, q3_3 P, boot_o_4 P, boot_o_5 P, boot_o_6 P, boot_o_7 P, boot_o_8 P, boot_o_9 P, boot_o_10 P, q0_11 P, q3_12 P, q0_13 P, q0_14 P, q3_15 P, q3_16 P, q3_17 P, q3_18 P, q3_19 P, q3_20 P, q3_21 P, q3_22 P, q3_23 P, q3_24 P, q3_25 P, q3_26 P]
noncomputable def n3 : Nat := 27
noncomputable def k3 : Nat := 211
noncomputable def p3 : Pos := { line := 9, col := 0, endLine := 9, endCol := 6 }
-- drawn { } life { } gens 0
noncomputable def q8_3 (P : Params) : Obj :=
{ cls := Value.type "dict",
  data :=
    Data.dict
      #[{ hash := PyData.keyHash P (Str.ofString "__name__"), key := Value.str (Str.ofString "__name__") 165,
          val := Value.str (Str.ofString "cpy313.stringprep") 187 },
        { hash := PyData.keyHash P (Str.ofString "__doc__"), key := Value.str (Str.ofString "__doc__") 166,
          val := Value.none },
        { hash := PyData.keyHash P (Str.ofString "__package__"), key := Value.str (Str.ofString "__package__") 167,
          val := Value.none },
        { hash := PyData.keyHash P (Str.ofString "__loader__"), key := Value.str (Str.ofString "__loader__") 168,
          val := Value.builtin "__main__.__loader__#opaque" },
        { hash := PyData.keyHash P (Str.ofString "__spec__"), key := Value.str (Str.ofString "__spec__") 169,
          val := Value.none },
        { hash := PyData.keyHash P (Str.ofString "__annotations__"),
          key := Value.str (Str.ofString "__annotations__") 170, val := Value.ref 6 },
        { hash := PyData.keyHash P (Str.ofString "__builtins__"), key := Value.str (Str.ofString "__builtins__") 171,
          val := Value.ref 4 },
        { hash := PyData.keyHash P (Str.ofString "__file__"), key := Value.str (Str.ofString "__file__") 173,
          val := Value.str (Str.ofString "/claim/cut.py") 172 },
        { hash := PyData.keyHash P (Str.ofString "__cached__"), key := Value.str (Str.ofString "__cached__") 174,
          val := Value.none },
        { hash := PyData.keyHash P (Str.ofString "in_table_c4"), key := Value.str (Str.ofString "in_table_c4") 196,
          val := Value.ref 21 },
        { hash := PyData.keyHash P (Str.ofString "c6_set"), key := Value.str (Str.ofString "c6_set") 210,
          val := Value.ref 23 },
        { hash := PyData.keyHash P (Str.ofString "in_table_c6"), key := Value.str (Str.ofString "in_table_c6") 217,
          val := Value.ref 33 },
        { hash := PyData.keyHash P (Str.ofString "c7_set"), key := Value.str (Str.ofString "c7_set") 245,
          val := Value.ref 35 },
        { hash := PyData.keyHash P (Str.ofString "in_table_c7"), key := Value.str (Str.ofString "in_table_c7") 252,
          val := Value.ref 45 },
        { hash := PyData.keyHash P (Str.ofString "c8_set"), key := Value.str (Str.ofString "c8_set") 293,
          val := Value.ref 59 },
        { hash := PyData.keyHash P (Str.ofString "in_table_c8"), key := Value.str (Str.ofString "in_table_c8") 300,
          val := Value.ref 69 }]
      16 }
noncomputable def q8_12 (P : Params) : Obj :=
{ cls := Value.none,
  data :=
    Data.fields
      #[Value.int 2 0, Value.int 0 0, Value.ref 20, Value.int 10 0, Value.int 0 0, Value.ref 32, Value.int 13 0,
        Value.int 0 0, Value.ref 44, Value.int 16 0, Value.int 0 0, Value.ref 68] }
noncomputable def q8_27 (P : Params) : Obj :=
{ cls := Value.type "tuple", data := Data.seq #[] }
noncomputable def q8_28 (P : Params) : Obj :=
{ cls := Value.none, data := Data.fields #[] }
noncomputable def q8_29 (P : Params) : Obj :=
{ cls := Value.type "tuple", data := Data.seq #[Value.str (Str.ofString "code") 214] }
noncomputable def q8_30 (P : Params) : Obj :=
{ cls := Value.type "tuple", data := Data.seq #[] }
noncomputable def q8_31 (P : Params) : Obj :=
{ cls := Value.none,
  data :=
    Data.func
      { name := Str.ofString "in_table_c6", qualname := Str.ofString "in_table_c6",
        params :=
          { posonlyargs := [],
            args :=
              [{ arg := Str.ofString "code", annotation := none,
                  pos := { line := 10, col := 16, endLine := 10, endCol := 20 } }],
            vararg := none, kwonlyargs := [], kw_defaults := [], kwarg := none, defaults := [] },
        body := FuncBody.stmts (fb 3),
        scope :=
          { kind := ScopeKind.function,
            names :=
              [(Str.ofString "code", NameKind.local), (Str.ofString "ord", NameKind.globalImplicit),
                (Str.ofString "c6_set", NameKind.globalImplicit)],
            isGenerator := false, isCoroutine := false },
        globals := 0, closure := [], defaults := Value.none, kwdefaults := Value.none } }
noncomputable def q8_32 (P : Params) : Obj :=
{ cls := Value.type "code",
  data :=
    Data.fields
      #[Value.str (Str.ofString "in_table_c6") 211, Value.str (Str.ofString "in_table_c6") 212,
        Value.str (Str.ofString "/claim/cut.py") 213, Value.int 10 0, Value.int 1 0, Value.int 0 0, Value.int 0 0,
        Value.int 3 0, Value.ref 27, Value.bool true, Value.int 181 0, Value.ref 28, Value.none, Value.ref 29,
        Value.ref 30, Value.ref 31, Value.int 215 0, Value.int 10 0, Value.str (Str.ofString "/claim/cut.py") 216] }
noncomputable def q8_33 (P : Params) : Obj :=
{ cls := Value.type "function",
  data :=
    Data.func
      { name := Str.ofString "in_table_c6", qualname := Str.ofString "in_table_c6",
        params :=
          { posonlyargs := [],
            args :=
              [{ arg := Str.ofString "code", annotation := none,
                  pos := { line := 10, col := 16, endLine := 10, endCol := 20 } }],
            vararg := none, kwonlyargs := [], kw_defaults := [], kwarg := none, defaults := [] },
        body := FuncBody.stmts (fb 3),
        scope :=
          { kind := ScopeKind.function,
            names :=
              [(Str.ofString "code", NameKind.local), (Str.ofString "ord", NameKind.globalImplicit),
                (Str.ofString "c6_set", NameKind.globalImplicit)],
            isGenerator := false, isCoroutine := false },
        globals := 3, closure := [], defaults := Value.none, kwdefaults := Value.none,
        pyModule := Value.str (Str.ofString "cpy313.stringprep") 187, code := Value.ref 32 } }
noncomputable def q8_34 (P : Params) : Obj :=
{ cls := Value.type "range", data := Data.fields #[Value.int 12272 218, Value.int 12284 219, Value.int 1 220] }
noncomputable def q8_35 (P : Params) : Obj :=
{ cls := Value.type "set",
  data :=
    Data.set
      #[(12272, Value.int 12272 221), (12273, Value.int 12273 223), (12274, Value.int 12274 225),
        (12275, Value.int 12275 227), (12276, Value.int 12276 229), (12277, Value.int 12277 231),
        (12278, Value.int 12278 233), (12279, Value.int 12279 235), (12280, Value.int 12280 237),
        (12281, Value.int 12281 239), (12282, Value.int 12282 241), (12283, Value.int 12283 243)]
      13
      { mask := 31, place := #[16, 17, 18, 19, 20, 21, 22, 23, 24, 25, 26, 27], dummies := #[], finger := 0,
        led := !P.followText "set-order", moves := 1, plain := true } }
noncomputable def q8_36 (P : Params) : Obj :=
{ cls := Value.type "range_iterator", data := Data.fields #[Value.int 12284 0, Value.int 0 0, Value.int 1 0] }
noncomputable def q8_37 (P : Params) : Obj :=
{ cls := Value.type "tuple", data := Data.seq #[] }
noncomputable def q8_38 (P : Params) : Obj :=
{ cls := Value.type "StopIteration",
  data := Data.fields #[Value.ref 37, Value.none, Value.none, Value.none, Value.bool false, Value.none] }
noncomputable def q8_39 (P : Params) : Obj :=
{ cls := Value.type "tuple", data := Data.seq #[] }
noncomputable def q8_40 (P : Params) : Obj :=
{ cls := Value.none, data := Data.fields #[] }
noncomputable def q8_41 (P : Params) : Obj :=
{ cls := Value.type "tuple", data := Data.seq #[Value.str (Str.ofString "code") 249] }
noncomputable def q8_42 (P : Params) : Obj :=
{ cls := Value.type "tuple", data := Data.seq #[] }
noncomputable def q8_43 (P : Params) : Obj :=
{ cls := Value.none,
  data :=
    Data.func
      { name := Str.ofString "in_table_c7", qualname := Str.ofString "in_table_c7",
        params :=
          { posonlyargs := [],
            args :=
              [{ arg := Str.ofString "code", annotation := none,
                  pos := { line := 13, col := 16, endLine := 13, endCol := 20 } }],
            vararg := none, kwonlyargs := [], kw_defaults := [], kwarg := none, defaults := [] },
        body := FuncBody.stmts (fb 5),
        scope :=
          { kind := ScopeKind.function,
            names :=
              [(Str.ofString "code", NameKind.local), (Str.ofString "ord", NameKind.globalImplicit),
                (Str.ofString "c7_set", NameKind.globalImplicit)],
            isGenerator := false, isCoroutine := false },
        globals := 0, closure := [], defaults := Value.none, kwdefaults := Value.none } }
noncomputable def q8_44 (P : Params) : Obj :=
{ cls := Value.type "code",
  data :=
    Data.fields
      #[Value.str (Str.ofString "in_table_c7") 246, Value.str (Str.ofString "in_table_c7") 247,
        Value.str (Str.ofString "/claim/cut.py") 248, Value.int 13 0, Value.int 1 0, Value.int 0 0, Value.int 0 0,
        Value.int 3 0, Value.ref 39, Value.bool true, Value.int 181 0, Value.ref 40, Value.none, Value.ref 41,
        Value.ref 42, Value.ref 43, Value.int 250 0, Value.int 13 0, Value.str (Str.ofString "/claim/cut.py") 251] }
noncomputable def q8_45 (P : Params) : Obj :=
{ cls := Value.type "function",
  data :=
    Data.func
      { name := Str.ofString "in_table_c7", qualname := Str.ofString "in_table_c7",
        params :=
          { posonlyargs := [],
            args :=
              [{ arg := Str.ofString "code", annotation := none,
                  pos := { line := 13, col := 16, endLine := 13, endCol := 20 } }],
            vararg := none, kwonlyargs := [], kw_defaults := [], kwarg := none, defaults := [] },
        body := FuncBody.stmts (fb 5),
        scope :=
          { kind := ScopeKind.function,
            names :=
              [(Str.ofString "code", NameKind.local), (Str.ofString "ord", NameKind.globalImplicit),
                (Str.ofString "c7_set", NameKind.globalImplicit)],
            isGenerator := false, isCoroutine := false },
        globals := 3, closure := [], defaults := Value.none, kwdefaults := Value.none,
        pyModule := Value.str (Str.ofString "cpy313.stringprep") 187, code := Value.ref 44 } }
noncomputable def q8_46 (P : Params) : Obj :=
{ cls := Value.type "list",
  data := Data.seq #[Value.int 832 253, Value.int 833 254, Value.int 8206 255, Value.int 8207 256] }
noncomputable def q8_47 (P : Params) : Obj :=
{ cls := Value.type "range", data := Data.fields #[Value.int 8234 257, Value.int 8239 258, Value.int 1 259] }
noncomputable def q8_48 (P : Params) : Obj :=
{ cls := Value.type "list",
  data :=
    Data.seq #[Value.int 8234 262, Value.int 8235 263, Value.int 8236 264, Value.int 8237 265, Value.int 8238 266] 7 }
noncomputable def q8_49 (P : Params) : Obj :=
{ cls := Value.type "range_iterator", data := Data.fields #[Value.int 8239 0, Value.int 0 0, Value.int 1 0] }
noncomputable def q8_50 (P : Params) : Obj :=
{ cls := Value.type "tuple", data := Data.seq #[] }
noncomputable def q8_51 (P : Params) : Obj :=
{ cls := Value.type "StopIteration",
  data := Data.fields #[Value.ref 50, Value.none, Value.none, Value.none, Value.bool false, Value.none] }
noncomputable def q8_52 (P : Params) : Obj :=
{ cls := Value.type "list",
  data :=
    Data.seq
      #[Value.int 832 253, Value.int 833 254, Value.int 8206 255, Value.int 8207 256, Value.int 8234 262,
        Value.int 8235 263, Value.int 8236 264, Value.int 8237 265, Value.int 8238 266] }
noncomputable def q8_53 (P : Params) : Obj :=
{ cls := Value.type "range", data := Data.fields #[Value.int 8298 267, Value.int 8304 268, Value.int 1 269] }
noncomputable def q8_54 (P : Params) : Obj :=
{ cls := Value.type "list",
  data :=
    Data.seq
      #[Value.int 8298 272, Value.int 8299 273, Value.int 8300 274, Value.int 8301 275, Value.int 8302 276,
        Value.int 8303 277]
      8 }
noncomputable def q8_55 (P : Params) : Obj :=
{ cls := Value.type "range_iterator", data := Data.fields #[Value.int 8304 0, Value.int 0 0, Value.int 1 0] }
noncomputable def q8_56 (P : Params) : Obj :=
{ cls := Value.type "tuple", data := Data.seq #[] }
noncomputable def q8_57 (P : Params) : Obj :=
{ cls := Value.type "StopIteration",
  data := Data.fields #[Value.ref 56, Value.none, Value.none, Value.none, Value.bool false, Value.none] }
noncomputable def q8_58 (P : Params) : Obj :=
{ cls := Value.type "list",
  data :=
    Data.seq
      #[Value.int 832 253, Value.int 833 254, Value.int 8206 255, Value.int 8207 256, Value.int 8234 262,
        Value.int 8235 263, Value.int 8236 264, Value.int 8237 265, Value.int 8238 266, Value.int 8298 272,
        Value.int 8299 273, Value.int 8300 274, Value.int 8301 275, Value.int 8302 276, Value.int 8303 277] }
noncomputable def q8_59 (P : Params) : Obj :=
{ cls := Value.type "set",
  data :=
    Data.set
      #[(832, Value.int 832 253), (833, Value.int 833 254), (8234, Value.int 8234 262), (8235, Value.int 8235 263),
        (8236, Value.int 8236 264), (8237, Value.int 8237 265), (8206, Value.int 8206 255), (8207, Value.int 8207 256),
        (8238, Value.int 8238 266), (8298, Value.int 8298 272), (8299, Value.int 8299 273), (8300, Value.int 8300 274),
        (8301, Value.int 8301 275), (8302, Value.int 8302 276), (8303, Value.int 8303 277)]
      16
      { mask := 31, place := #[0, 1, 10, 11, 12, 13, 14, 15, 16, 17, 18, 19, 20, 21, 22], dummies := #[], finger := 0,
        led := !P.followText "set-order", moves := 1, plain := true } }
noncomputable def q8_60 (P : Params) : Obj :=
{ cls := Value.type "list_iterator", data := Data.fields #[Value.none, Value.int 15 0] }
noncomputable def q8_61 (P : Params) : Obj :=
{ cls := Value.type "tuple", data := Data.seq #[] }
noncomputable def q8_62 (P : Params) : Obj :=
{ cls := Value.type "StopIteration",
  data := Data.fields #[Value.ref 61, Value.none, Value.none, Value.none, Value.bool false, Value.none] }
noncomputable def q8_63 (P : Params) : Obj :=
{ cls := Value.type "tuple", data := Data.seq #[] }
noncomputable def q8_64 (P : Params) : Obj :=
{ cls := Value.none, data := Data.fields #[] }
noncomputable def q8_65 (P : Params) : Obj :=
{ cls := Value.type "tuple", data := Data.seq #[Value.str (Str.ofString "code") 297] }
noncomputable def q8_66 (P : Params) : Obj :=
{ cls := Value.type "tuple", data := Data.seq #[] }
noncomputable def q8_67 (P : Params) : Obj :=
{ cls := Value.none,
  data :=
    Data.func
      { name := Str.ofString "in_table_c8", qualname := Str.ofString "in_table_c8",
        params :=
          { posonlyargs := [],
            args :=
              [{ arg := Str.ofString "code", annotation := none,
                  pos := { line := 16, col := 16, endLine := 16, endCol := 20 } }],
            vararg := none, kwonlyargs := [], kw_defaults := [], kwarg := none, defaults := [] },
        body := FuncBody.stmts (fb 7),
        scope :=
          { kind := ScopeKind.function,
            names :=
              [(Str.ofString "code", NameKind.local), (Str.ofString "ord", NameKind.globalImplicit),
                (Str.ofString "c8_set", NameKind.globalImplicit)],
            isGenerator := false, isCoroutine := false },
        globals := 0, closure := [], defaults := Value.none, kwdefaults := Value.none } }
noncomputable def q8_68 (P : Params) : Obj :=
{ cls := Value.type "code",
  data :=
    Data.fields
      #[Value.str (Str.ofString "in_table_c8") 294, Value.str (Str.ofString "in_table_c8") 295,
        Value.str (Str.ofString "/claim/cut.py") 296, Value.int 16 0, Value.int 1 0, Value.int 0 0, Value.int 0 0,
        Value.int 3 0, Value.ref 63, Value.bool true, Value.int 181 0, Value.ref 64, Value.none, Value.ref 65,
        Value.ref 66, Value.ref 67, Value.int 298 0, Value.int 16 0, Value.str (Str.ofString "/claim/cut.py") 299] }
noncomputable def q8_69 (P : Params) : Obj :=
{ cls := Value.type "function",
  data :=
    Data.func
      { name := Str.ofString "in_table_c8", qualname := Str.ofString "in_table_c8",
        params :=
          { posonlyargs := [],
            args :=
              [{ arg := Str.ofString "code", annotation := none,
                  pos := { line := 16, col := 16, endLine := 16, endCol := 20 } }],
            vararg := none, kwonlyargs := [], kw_defaults := [], kwarg := none, defaults := [] },
        body := FuncBody.stmts (fb 7),
        scope :=
          { kind := ScopeKind.function,
            names :=
              [(Str.ofString "code", NameKind.local), (Str.ofString "ord", NameKind.globalImplicit),
                (Str.ofString "c8_set", NameKind.globalImplicit)],
            isGenerator := false, isCoroutine := false },
        globals := 3, closure := [], defaults := Value.none, kwdefaults := Value.none,
        pyModule := Value.str (Str.ofString "cpy313.stringprep") 187, code := Value.ref 68 } }
noncomputable def L8 (P : Params) : List Obj := [boot_o_0 P, boot_o_1 P, boot_o_2 P, q8_3 P, boot_o_4 P, boot_o_5 P, boot_o_6 P, boot_o_7 P, boot_o_8 P, boot_o_9 P, boot_o_10 P, q0_11 P, q8_12 P, q0_13 P, q0_14 P, q3_15 P, q3_16 P, q3_17 P, q3_18 P, q3_19 P, q3_20 P, q3_21 P, q3_22 P, q3_23 P, q3_24 P, q3_25 P, q3_26 P, q8_27 P, q8_28 P, q8_29 P, q8_30 P, q8_31 P, q8_32 P, q8_33 P, q8_34 P, q8_35 P, q8_36 P, q8_37 P, q8_38 P, q8_39 P, q8_40 P, q8_41 P, q8_42 P, q8_43 P, q8_44 P, q8_45 P, q8_46 P, q8_47 P, q8_48 P, q8_49 P, q8_50 P, q8_51 P, q8_52 P, q8_53 P, q8_54 P, q8_55 P, q8_56 P, q8_57 P, q8_58 P, q8_59 P, q8_60 P, q8_61 P, q8_62 P, q8_63 P, q8_64 P, q8_65 P, q8_66 P, q8_67 P, q8_68 P, q8_69 P]
noncomputable def n8 : Nat := 70
noncomputable def k8 : Nat := 301
noncomputable def p8 : Pos := { line := 16, col := 0, endLine := 17, endCol := 30 }
-- drawn { } life { } gens 0
noncomputable def q9_3 (P : Params) : Obj :=
{ cls := Value.type "dict",
  data :=
    Data.dict
      #[{ hash := PyData.keyHash P (Str.ofString "__name__"), key := Value.str (Str.ofString "__name__") 165,
          val := Value.str (Str.ofString "cpy313.stringprep") 187 },
        { hash := PyData.keyHash P (Str.ofString "__doc__"), key := Value.str (Str.ofString "__doc__") 166,
          val := Value.none },
        { hash := PyData.keyHash P (Str.ofString "__package__"), key := Value.str (Str.ofString "__package__") 167,
          val := Value.none },
        { hash := PyData.keyHash P (Str.ofString "__loader__"), key := Value.str (Str.ofString "__loader__") 168,
          val := Value.builtin "__main__.__loader__#opaque" },
        { hash := PyData.keyHash P (Str.ofString "__spec__"), key := Value.str (Str.ofString "__spec__") 169,
          val := Value.none },
        { hash := PyData.keyHash P (Str.ofString "__annotations__"),
          key := Value.str (Str.ofString "__annotations__") 170, val := Value.ref 6 },
        { hash := PyData.keyHash P (Str.ofString "__builtins__"), key := Value.str (Str.ofString "__builtins__") 171,
          val := Value.ref 4 },
        { hash := PyData.keyHash P (Str.ofString "__file__"), key := Value.str (Str.ofString "__file__") 173,
          val := Value.str (Str.ofString "/claim/cut.py") 172 },
        { hash := PyData.keyHash P (Str.ofString "__cached__"), key := Value.str (Str.ofString "__cached__") 174,
          val := Value.none },
        { hash := PyData.keyHash P (Str.ofString "in_table_c4"), key := Value.str (Str.ofString "in_table_c4") 196,
          val := Value.ref 21 },
        { hash := PyData.keyHash P (Str.ofString "c6_set"), key := Value.str (Str.ofString "c6_set") 210,
          val := Value.ref 23 },
        { hash := PyData.keyHash P (Str.ofString "in_table_c6"), key := Value.str (Str.ofString "in_table_c6") 217,
          val := Value.ref 33 },
        { hash := PyData.keyHash P (Str.ofString "c7_set"), key := Value.str (Str.ofString "c7_set") 245,
          val := Value.ref 35 },
        { hash := PyData.keyHash P (Str.ofString "in_table_c7"), key := Value.str (Str.ofString "in_table_c7") 252,
          val := Value.ref 45 },
        { hash := PyData.keyHash P (Str.ofString "c8_set"), key := Value.str (Str.ofString "c8_set") 293,
          val := Value.ref 59 },
        { hash := PyData.keyHash P (Str.ofString "in_table_c8"), key := Value.str (Str.ofString "in_table_c8") 300,
          val := Value.ref 69 },
        { hash := PyData.keyHash P (Str.ofString "c9_set"), key := Value.str (Str.ofString "c9_set") 500,
          val := Value.ref 77 }]
      17 }
noncomputable def q9_70 (P : Params) : Obj :=
{ cls := Value.type "list", data := Data.seq #[Value.int 917505 301] }
noncomputable def q9_71 (P : Params) : Obj :=
{ cls := Value.type "range", data := Data.fields #[Value.int 917536 302, Value.int 917632 303, Value.int 1 304] }
noncomputable def q9_72 (P : Params) : Obj :=
{ cls := Value.type "list",
  data :=
    Data.seq
      #[Value.int 917536 307, Value.int 917537 308, Value.int 917538 309, Value.int 917539 310, Value.int 917540 311,
        Value.int 917541 312, Value.int 917542 313, Value.int 917543 314, Value.int 917544 315, Value.int 917545 316,
        Value.int 917546 317, Value.int 917547 318, Value.int 917548 319, Value.int 917549 320, Value.int 917550 321,
        Value.int 917551 322, Value.int 917552 323, Value.int 917553 324, Value.int 917554 325, Value.int 917555 326,
        Value.int 917556 327, Value.int 917557 328, Value.int 917558 329, Value.int 917559 330, Value.int 917560 331,
        Value.int 917561 332, Value.int 917562 333, Value.int 917563 334, Value.int 917564 335, Value.int 917565 336,
        Value.int 917566 337, Value.int 917567 338, Value.int 917568 339, Value.int 917569 340, Value.int 917570 341,
        Value.int 917571 342, Value.int 917572 343, Value.int 917573 344, Value.int 917574 345, Value.int 917575 346,
        Value.int 917576 347, Value.int 917577 348, Value.int 917578 349, Value.int 917579 350, Value.int 917580 351,
        Value.int 917581 352, Value.int 917582 353, Value.int 917583 354, Value.int 917584 355, Value.int 917585 356,
        Value.int 917586 357, Value.int 917587 358, Value.int 917588 359, Value.int 917589 360, Value.int 917590 361,
        Value.int 917591 362, Value.int 917592 363, Value.int 917593 364, Value.int 917594 365, Value.int 917595 366,
        Value.int 917596 367, Value.int 917597 368, Value.int 917598 369, Value.int 917599 370, Value.int 917600 371,
        Value.int 917601 372, Value.int 917602 373, Value.int 917603 374, Value.int 917604 375, Value.int 917605 376,
        Value.int 917606 377, Value.int 917607 378, Value.int 917608 379, Value.int 917609 380, Value.int 917610 381,
        Value.int 917611 382, Value.int 917612 383, Value.int 917613 384, Value.int 917614 385, Value.int 917615 386,
        Value.int 917616 387, Value.int 917617 388, Value.int 917618 389, Value.int 917619 390, Value.int 917620 391,
        Value.int 917621 392, Value.int 917622 393, Value.int 917623 394, Value.int 917624 395, Value.int 917625 396,
        Value.int 917626 397, Value.int 917627 398, Value.int 917628 399, Value.int 917629 400, Value.int 917630 401,
        Value.int 917631 402]
      98 }
noncomputable def q9_73 (P : Params) : Obj :=
{ cls := Value.type "range_iterator", data := Data.fields #[Value.int 917632 0, Value.int 0 0, Value.int 1 0] }
noncomputable def q9_74 (P : Params) : Obj :=
{ cls := Value.type "tuple", data := Data.seq #[] }
noncomputable def q9_75 (P : Params) : Obj :=
{ cls := Value.type "StopIteration",
  data := Data.fields #[Value.ref 74, Value.none, Value.none, Value.none, Value.bool false, Value.none] }
noncomputable def q9_76 (P : Params) : Obj :=
{ cls := Value.type "list",
  data :=
    Data.seq
      #[Value.int 917505 301, Value.int 917536 307, Value.int 917537 308, Value.int 917538 309, Value.int 917539 310,
        Value.int 917540 311, Value.int 917541 312, Value.int 917542 313, Value.int 917543 314, Value.int 917544 315,
        Value.int 917545 316, Value.int 917546 317, Value.int 917547 318, Value.int 917548 319, Value.int 917549 320,
        Value.int 917550 321, Value.int 917551 322, Value.int 917552 323, Value.int 917553 324, Value.int 917554 325,
        Value.int 917555 326, Value.int 917556 327, Value.int 917557 328, Value.int 917558 329, Value.int 917559 330,
        Value.int 917560 331, Value.int 917561 332, Value.int 917562 333, Value.int 917563 334, Value.int 917564 335,
        Value.int 917565 336, Value.int 917566 337, Value.int 917567 338, Value.int 917568 339, Value.int 917569 340,
        Value.int 917570 341, Value.int 917571 342, Value.int 917572 343, Value.int 917573 344, Value.int 917574 345,
        Value.int 917575 346, Value.int 917576 347, Value.int 917577 348, Value.int 917578 349, Value.int 917579 350,
        Value.int 917580 351, Value.int 917581 352, Value.int 917582 353, Value.int 917583 354, Value.int 917584 355,
        Value.int 917585 356, Value.int 917586 357, Value.int 917587 358, Value.int 917588 359, Value.int 917589 360,
        Value.int 917590 361, Value.int 917591 362, Value.int 917592 363, Value.int 917593 364, Value.int 917594 365,
        Value.int 917595 366, Value.int 917596 367, Value.int 917597 368, Value.int 917598 369, Value.int 917599 370,
        Value.int 917600 371, Value.int 917601 372, Value.int 917602 373, Value.int 917603 374, Value.int 917604 375,
        Value.int 917605 376, Value.int 917606 377, Value.int 917607 378, Value.int 917608 379, Value.int 917609 380,
        Value.int 917610 381, Value.int 917611 382, Value.int 917612 383, Value.int 917613 384, Value.int 917614 385,
        Value.int 917615 386, Value.int 917616 387, Value.int 917617 388, Value.int 917618 389, Value.int 917619 390,
        Value.int 917620 391, Value.int 917621 392, Value.int 917622 393, Value.int 917623 394, Value.int 917624 395,
        Value.int 917625 396, Value.int 917626 397, Value.int 917627 398, Value.int 917628 399, Value.int 917629 400,
        Value.int 917630 401, Value.int 917631 402] }
noncomputable def q9_77 (P : Params) : Obj :=
{ cls := Value.type "set",
  data :=
    Data.set
      #[(917505, Value.int 917505 301), (917536, Value.int 917536 307), (917537, Value.int 917537 308),
        (917538, Value.int 917538 309), (917539, Value.int 917539 310), (917540, Value.int 917540 311),
        (917541, Value.int 917541 312), (917542, Value.int 917542 313), (917543, Value.int 917543 314),
        (917544, Value.int 917544 315), (917545, Value.int 917545 316), (917546, Value.int 917546 317),
        (917547, Value.int 917547 318), (917548, Value.int 917548 319), (917549, Value.int 917549 320),
        (917550, Value.int 917550 321), (917551, Value.int 917551 322), (917552, Value.int 917552 323),
        (917553, Value.int 917553 324), (917554, Value.int 917554 325), (917555, Value.int 917555 326),
        (917556, Value.int 917556 327), (917557, Value.int 917557 328), (917558, Value.int 917558 329),
        (917559, Value.int 917559 330), (917560, Value.int 917560 331), (917561, Value.int 917561 332),
        (917562, Value.int 917562 333), (917563, Value.int 917563 334), (917564, Value.int 917564 335),
        (917565, Value.int 917565 336), (917566, Value.int 917566 337), (917567, Value.int 917567 338),
        (917568, Value.int 917568 339), (917569, Value.int 917569 340), (917570, Value.int 917570 341),
        (917571, Value.int 917571 342), (917572, Value.int 917572 343), (917573, Value.int 917573 344),
        (917574, Value.int 917574 345), (917575, Value.int 917575 346), (917576, Value.int 917576 347),
        (917577, Value.int 917577 348), (917578, Value.int 917578 349), (917579, Value.int 917579 350),
        (917580, Value.int 917580 351), (917581, Value.int 917581 352), (917582, Value.int 917582 353),
        (917583, Value.int 917583 354), (917584, Value.int 917584 355), (917585, Value.int 917585 356),
        (917586, Value.int 917586 357), (917587, Value.int 917587 358), (917588, Value.int 917588 359),
        (917589, Value.int 917589 360), (917590, Value.int 917590 361), (917591, Value.int 917591 362),
        (917592, Value.int 917592 363), (917593, Value.int 917593 364), (917594, Value.int 917594 365),
        (917595, Value.int 917595 366), (917596, Value.int 917596 367), (917597, Value.int 917597 368),
        (917598, Value.int 917598 369), (917599, Value.int 917599 370), (917600, Value.int 917600 371),
        (917601, Value.int 917601 372), (917602, Value.int 917602 373), (917603, Value.int 917603 374),
        (917604, Value.int 917604 375), (917605, Value.int 917605 376), (917606, Value.int 917606 377),
        (917607, Value.int 917607 378), (917608, Value.int 917608 379), (917609, Value.int 917609 380),
        (917610, Value.int 917610 381), (917611, Value.int 917611 382), (917612, Value.int 917612 383),
        (917613, Value.int 917613 384), (917614, Value.int 917614 385), (917615, Value.int 917615 386),
        (917616, Value.int 917616 387), (917617, Value.int 917617 388), (917618, Value.int 917618 389),
        (917619, Value.int 917619 390), (917620, Value.int 917620 391), (917621, Value.int 917621 392),
        (917622, Value.int 917622 393), (917623, Value.int 917623 394), (917624, Value.int 917624 395),
        (917625, Value.int 917625 396), (917626, Value.int 917626 397), (917627, Value.int 917627 398),
        (917628, Value.int 917628 399), (917629, Value.int 917629 400), (917630, Value.int 917630 401),
        (917631, Value.int 917631 402)]
      100
      { mask := 511,
        place :=
          #[1, 32, 33, 34, 35, 36, 37, 38, 39, 40, 41, 42, 43, 44, 45, 46, 47, 48, 49, 50, 51, 52, 53, 54, 55, 56, 57,
            58, 59, 60, 61, 62, 63, 64, 65, 66, 67, 68, 69, 70, 71, 72, 73, 74, 75, 76, 77, 78, 79, 80, 81, 82, 83, 84,
            85, 86, 87, 88, 89, 90, 91, 92, 93, 94, 95, 96, 97, 98, 99, 100, 101, 102, 103, 104, 105, 106, 107, 108,
            109, 110, 111, 112, 113, 114, 115, 116, 117, 118, 119, 120, 121, 122, 123, 124, 125, 126, 127],
        dummies := #[], finger := 0, led := !P.followText "set-order", moves := 3, plain := true } }
noncomputable def q9_78 (P : Params) : Obj :=
{ cls := Value.type "list_iterator", data := Data.fields #[Value.none, Value.int 97 0] }
noncomputable def q9_79 (P : Params) : Obj :=
{ cls := Value.type "tuple", data := Data.seq #[] }
noncomputable def q9_80 (P : Params) : Obj :=
{ cls := Value.type "StopIteration",
  data := Data.fields #[Value.ref 79, Value.none, Value.none, Value.none, Value.bool false, Value.none] }
noncomputable def L9 (P : Params) : List Obj := [boot_o_0 P, boot_o_1 P, boot_o_2 P, q9_3 P, boot_o_4 P, boot_o_5 P, boot_o_6 P, boot_o_7 P, boot_o_8 P, boot_o_9 P, boot_o_10 P, q0_11 P, q8_12 P, q0_13 P, q0_14 P, q3_15 P, q3_16 P, q3_17 P, q3_18 P, q3_19 P, q3_20 P, q3_21 P, q3_22 P, q3_23 P, q3_24 P, q3_25 P, q3_26 P, q8_27 P, q8_28 P, q8_29 P, q8_30 P, q8_31 P, q8_32 P, q8_33 P, q8_34 P, q8_35 P, q8_36 P, q8_37 P, q8_38 P, q8_39 P, q8_40 P, q8_41 P, q8_42 P, q8_43 P, q8_44 P, q8_45 P, q8_46 P, q8_47 P, q8_48 P, q8_49 P, q8_50 P, q8_51 P, q8_52 P, q8_53 P, q8_54 P, q8_55 P, q8_56 P, q8_57 P, q8_58 P, q8_59 P, q8_60 P, q8_61 P, q8_62 P, q8_63 P, q8_64 P, q8_65 P, q8_66 P, q8_67 P, q8_68 P, q8_69 P, q9_70 P, q9_71 P, q9_72 P, q9_73 P, q9_74 P, q9_75 P, q9_76 P, q9_77 P, q9_78 P, q9_79 P, q9_80 P]
noncomputable def n9 : Nat := 81
noncomputable def k9 : Nat := 501
noncomputable def p9 : Pos := { line := 18, col := 0, endLine := 18, endCol := 6 }
-- drawn { } life { } gens 0
noncomputable def q10_3 (P : Params) : Obj :=
{ cls := Value.type "dict",
  data :=
    Data.dict
      #[{ hash := PyData.keyHash P (Str.ofString "__name__"), key := Value.str (Str.ofString "__name__") 165,
          val := Value.str (Str.ofString "cpy313.stringprep") 187 },
        { hash := PyData.keyHash P (Str.ofString "__doc__"), key := Value.str (Str.ofString "__doc__") 166,
          val := Value.none },
        { hash := PyData.keyHash P (Str.ofString "__package__"), key := Value.str (Str.ofString "__package__") 167,
          val := Value.none },
        { hash := PyData.keyHash P (Str.ofString "__loader__"), key := Value.str (Str.ofString "__loader__") 168,
          val := Value.builtin "__main__.__loader__#opaque" },
        { hash := PyData.keyHash P (Str.ofString "__spec__"), key := Value.str (Str.ofString "__spec__") 169,
          val := Value.none },
        { hash := PyData.keyHash P (Str.ofString "__annotations__"),
          key := Value.str (Str.ofString "__annotations__") 170, val := Value.ref 6 },
        { hash := PyData.keyHash P (Str.ofString "__builtins__"), key := Value.str (Str.ofString "__builtins__") 171,
          val := Value.ref 4 },
        { hash := PyData.keyHash P (Str.ofString "__file__"), key := Value.str (Str.ofString "__file__") 173,
          val := Value.str (Str.ofString "/claim/cut.py") 172 },
        { hash := PyData.keyHash P (Str.ofString "__cached__"), key := Value.str (Str.ofString "__cached__") 174,
          val := Value.none },
        { hash := PyData.keyHash P (Str.ofString "in_table_c4"), key := Value.str (Str.ofString "in_table_c4") 196,
          val := Value.ref 21 },
        { hash := PyData.keyHash P (Str.ofString "c6_set"), key := Value.str (Str.ofString "c6_set") 210,
          val := Value.ref 23 },
        { hash := PyData.keyHash P (Str.ofString "in_table_c6"), key := Value.str (Str.ofString "in_table_c6") 217,
          val := Value.ref 33 },
        { hash := PyData.keyHash P (Str.ofString "c7_set"), key := Value.str (Str.ofString "c7_set") 245,
          val := Value.ref 35 },
        { hash := PyData.keyHash P (Str.ofString "in_table_c7"), key := Value.str (Str.ofString "in_table_c7") 252,
          val := Value.ref 45 },
        { hash := PyData.keyHash P (Str.ofString "c8_set"), key := Value.str (Str.ofString "c8_set") 293,
          val := Value.ref 59 },
        { hash := PyData.keyHash P (Str.ofString "in_table_c8"), key := Value.str (Str.ofString "in_table_c8") 300,
          val := Value.ref 69 },
        { hash := PyData.keyHash P (Str.ofString "c9_set"), key := Value.str (Str.ofString "c9_set") 500,
          val := Value.ref 77 },
        { hash := PyData.keyHash P (Str.ofString "in_table_c9"), key := Value.str (Str.ofString "in_table_c9") 507,
          val := Value.ref 87 }]
      18 }
noncomputable def q10_12 (P : Params) : Obj :=
{ cls := Value.none,
  data :=
    Data.fields
      #[Value.int 2 0, Value.int 0 0, Value.ref 20, Value.int 10 0, Value.int 0 0, Value.ref 32, Value.int 13 0,
        Value.int 0 0, Value.ref 44, Value.int 16 0, Value.int 0 0, Value.ref 68, Value.int 19 0, Value.int 0 0,
        Value.ref 86] }
noncomputable def q10_81 (P : Params) : Obj :=
{ cls := Value.type "tuple", data := Data.seq #[] }
noncomputable def q10_82 (P : Params) : Obj :=
{ cls := Value.none, data := Data.fields #[] }
noncomputable def q10_83 (P : Params) : Obj :=
{ cls := Value.type "tuple", data := Data.seq #[Value.str (Str.ofString "code") 504] }
noncomputable def q10_84 (P : Params) : Obj :=
{ cls := Value.type "tuple", data := Data.seq #[] }
noncomputable def q10_85 (P : Params) : Obj :=
{ cls := Value.none,
  data :=
    Data.func
      { name := Str.ofString "in_table_c9", qualname := Str.ofString "in_table_c9",
        params :=
          { posonlyargs := [],
            args :=
              [{ arg := Str.ofString "code", annotation := none,
                  pos := { line := 19, col := 16, endLine := 19, endCol := 20 } }],
            vararg := none, kwonlyargs := [], kw_defaults := [], kwarg := none, defaults := [] },
        body := FuncBody.stmts (fb 9),
        scope :=
          { kind := ScopeKind.function,
            names :=
              [(Str.ofString "code", NameKind.local), (Str.ofString "ord", NameKind.globalImplicit),
                (Str.ofString "c9_set", NameKind.globalImplicit)],
            isGenerator := false, isCoroutine := false },
        globals := 0, closure := [], defaults := Value.none, kwdefaults := Value.none } }
noncomputable def q10_86 (P : Params) : Obj :=
{ cls := Value.type "code",
  data :=
    Data.fields
      #[Value.str (Str.ofString "in_table_c9") 501, Value.str (Str.ofString "in_table_c9") 502,
        Value.str (Str.ofString "/claim/cut.py") 503, Value.int 19 0, Value.int 1 0, Value.int 0 0, Value.int 0 0,
        Value.int 3 0, Value.ref 81, Value.bool true, Value.int 181 0, Value.ref 82, Value.none, Value.ref 83,
        Value.ref 84, Value.ref 85, Value.int 505 0, Value.int 19 0, Value.str (Str.ofString "/claim/cut.py") 506] }
noncomputable def q10_87 (P : Params) : Obj :=
{ cls := Value.type "function",
  data :=
    Data.func
      { name := Str.ofString "in_table_c9", qualname := Str.ofString "in_table_c9",
        params :=
          { posonlyargs := [],
            args :=
              [{ arg := Str.ofString "code", annotation := none,
                  pos := { line := 19, col := 16, endLine := 19, endCol := 20 } }],
            vararg := none, kwonlyargs := [], kw_defaults := [], kwarg := none, defaults := [] },
        body := FuncBody.stmts (fb 9),
        scope :=
          { kind := ScopeKind.function,
            names :=
              [(Str.ofString "code", NameKind.local), (Str.ofString "ord", NameKind.globalImplicit),
                (Str.ofString "c9_set", NameKind.globalImplicit)],
            isGenerator := false, isCoroutine := false },
        globals := 3, closure := [], defaults := Value.none, kwdefaults := Value.none,
        pyModule := Value.str (Str.ofString "cpy313.stringprep") 187, code := Value.ref 86 } }
noncomputable def L10 (P : Params) : List Obj := [boot_o_0 P, boot_o_1 P, boot_o_2 P, q10_3 P, boot_o_4 P, boot_o_5 P, boot_o_6 P, boot_o_7 P, boot_o_8 P, boot_o_9 P, boot_o_10 P, q0_11 P, q10_12 P, q0_13 P, q0_14 P, q3_15 P, q3_16 P, q3_17 P, q3_18 P, q3_19 P, q3_20 P, q3_21 P, q3_22 P, q3_23 P, q3_24 P, q3_25 P, q3_26 P, q8_27 P, q8_28 P, q8_29 P, q8_30 P, q8_31 P, q8_32 P, q8_33 P, q8_34 P, q8_35 P, q8_36 P, q8_37 P, q8_38 P, q8_39 P, q8_40 P, q8_41 P, q8_42 P, q8_43 P, q8_44 P, q8_45 P, q8_46 P, q8_47 P, q8_48 P, q8_49 P, q8_50 P, q8_51 P, q8_52 P, q8_53 P, q8_54 P, q8_55 P, q8_56 P, q8_57 P, q8_58 P, q8_59 P, q8_60 P, q8_61 P, q8_62 P, q8_63 P, q8_64 P, q8_65 P, q8_66 P, q8_67 P, q8_68 P, q8_69 P, q9_70 P, q9_71 P, q9_72 P, q9_73 P, q9_74 P, q9_75 P, q9_76 P, q9_77 P, q9_78 P, q9_79 P, q9_80 P, q10_81 P, q10_82 P, q10_83 P, q10_84 P, q10_85 P, q10_86 P, q10_87 P]
noncomputable def n10 : Nat := 88
noncomputable def k10 : Nat := 508
noncomputable def p10 : Pos := { line := 19, col := 0, endLine := 20, endCol := 30 }
-- drawn { } life { } gens 0
noncomputable def q14_2 (P : Params) : Obj :=
{ cls := Value.none,
  data :=
    Data.dict
      #[{ hash := PyData.keyHash P (Str.ofString "type.__subclasses__.Exception.0"),
          key := Value.str (Str.ofString "type.__subclasses__.Exception.0") 526, val := Value.int 97 0 },
        { hash := PyData.keyHash P (Str.ofString "type.__subclasses__.Exception.n"),
          key := Value.str (Str.ofString "type.__subclasses__.Exception.n") 527, val := Value.int 1 0 }]
      2 }
noncomputable def q14_3 (P : Params) : Obj :=
{ cls := Value.type "dict",
  data :=
    Data.dict
      #[{ hash := PyData.keyHash P (Str.ofString "__name__"), key := Value.str (Str.ofString "__name__") 165,
          val := Value.str (Str.ofString "cpy313.ftplib") 508 },
        { hash := PyData.keyHash P (Str.ofString "__doc__"), key := Value.str (Str.ofString "__doc__") 166,
          val := Value.none },
        { hash := PyData.keyHash P (Str.ofString "__package__"), key := Value.str (Str.ofString "__package__") 167,
          val := Value.none },
        { hash := PyData.keyHash P (Str.ofString "__loader__"), key := Value.str (Str.ofString "__loader__") 168,
          val := Value.builtin "__main__.__loader__#opaque" },
        { hash := PyData.keyHash P (Str.ofString "__spec__"), key := Value.str (Str.ofString "__spec__") 169,
          val := Value.none },
        { hash := PyData.keyHash P (Str.ofString "__annotations__"),
          key := Value.str (Str.ofString "__annotations__") 170, val := Value.ref 6 },
        { hash := PyData.keyHash P (Str.ofString "__builtins__"), key := Value.str (Str.ofString "__builtins__") 171,
          val := Value.ref 4 },
        { hash := PyData.keyHash P (Str.ofString "__file__"), key := Value.str (Str.ofString "__file__") 173,
          val := Value.str (Str.ofString "/claim/cut.py") 172 },
        { hash := PyData.keyHash P (Str.ofString "__cached__"), key := Value.str (Str.ofString "__cached__") 174,
          val := Value.none },
        { hash := PyData.keyHash P (Str.ofString "in_table_c4"), key := Value.str (Str.ofString "in_table_c4") 196,
          val := Value.ref 21 },
        { hash := PyData.keyHash P (Str.ofString "c6_set"), key := Value.str (Str.ofString "c6_set") 210,
          val := Value.ref 23 },
        { hash := PyData.keyHash P (Str.ofString "in_table_c6"), key := Value.str (Str.ofString "in_table_c6") 217,
          val := Value.ref 33 },
        { hash := PyData.keyHash P (Str.ofString "c7_set"), key := Value.str (Str.ofString "c7_set") 245,
          val := Value.ref 35 },
        { hash := PyData.keyHash P (Str.ofString "in_table_c7"), key := Value.str (Str.ofString "in_table_c7") 252,
          val := Value.ref 45 },
        { hash := PyData.keyHash P (Str.ofString "c8_set"), key := Value.str (Str.ofString "c8_set") 293,
          val := Value.ref 59 },
        { hash := PyData.keyHash P (Str.ofString "in_table_c8"), key := Value.str (Str.ofString "in_table_c8") 300,
          val := Value.ref 69 },
        { hash := PyData.keyHash P (Str.ofString "c9_set"), key := Value.str (Str.ofString "c9_set") 500,
          val := Value.ref 77 },
        { hash := PyData.keyHash P (Str.ofString "in_table_c9"), key := Value.str (Str.ofString "in_table_c9") 507,
          val := Value.ref 87 },
        { hash := PyData.keyHash P (Str.ofString "Error"), key := Value.str (Str.ofString "Error") 529,
          val := Value.ref 97 },
        { hash := PyData.keyHash P (Str.ofString "error_reply"), key := Value.str (Str.ofString "error_reply") 545,
          val := Value.ref 110 },
        { hash := PyData.keyHash P (Str.ofString "error_proto"), key := Value.str (Str.ofString "error_proto") 561,
          val := Value.ref 122 }]
      21 }
noncomputable def q14_12 (P : Params) : Obj :=
{ cls := Value.none,
  data :=
    Data.fields
      #[Value.int 2 0, Value.int 0 0, Value.ref 20, Value.int 10 0, Value.int 0 0, Value.ref 32, Value.int 13 0,
        Value.int 0 0, Value.ref 44, Value.int 16 0, Value.int 0 0, Value.ref 68, Value.int 19 0, Value.int 0 0,
        Value.ref 86, Value.int 22 0, Value.int 0 0, Value.ref 93, Value.int 24 0, Value.int 0 0, Value.ref 106,
        Value.int 26 0, Value.int 0 0, Value.ref 118] }
noncomputable def q14_88 (P : Params) : Obj :=
{ cls := Value.type "tuple", data := Data.seq #[Value.type "Exception"] }
noncomputable def q14_89 (P : Params) : Obj :=
{ cls := Value.type "builtin_function_or_method",
  data := Data.fields #[Value.builtin "type.__prepare__", Value.type "type"] }
noncomputable def q14_90 (P : Params) : Obj :=
{ cls := Value.type "dict",
  data :=
    Data.dict
      #[{ hash := PyData.keyHash P (Str.ofString "__module__"), key := Value.str (Str.ofString "__module__") 517,
          val := Value.str (Str.ofString "cpy313.ftplib") 508 },
        { hash := PyData.keyHash P (Str.ofString "__qualname__"), key := Value.str (Str.ofString "__qualname__") 519,
          val := Value.str (Str.ofString "Error") 518 },
        { hash := PyData.keyHash P (Str.ofString "__firstlineno__"),
          key := Value.str (Str.ofString "__firstlineno__") 521, val := Value.int 22 520 },
        { hash := PyData.keyHash P (Str.ofString "__static_attributes__"),
          key := Value.str (Str.ofString "__static_attributes__") 522, val := Value.ref 95 }]
      4 }
noncomputable def q14_91 (P : Params) : Obj :=
{ cls := Value.type "tuple", data := Data.seq #[] }
noncomputable def q14_92 (P : Params) : Obj :=
{ cls := Value.none, data := Data.fields #[] }
noncomputable def q14_93 (P : Params) : Obj :=
{ cls := Value.type "code",
  data :=
    Data.fields
      #[Value.str (Str.ofString "Error") 512, Value.str (Str.ofString "Error") 513,
        Value.str (Str.ofString "/claim/cut.py") 514, Value.int 22 0, Value.int 0 0, Value.int 0 0, Value.int 0 0,
        Value.int 0 0, Value.ref 91, Value.bool false, Value.int 181 0, Value.ref 92, Value.none, Value.none,
        Value.none, Value.none, Value.int 515 0, Value.int 22 0, Value.str (Str.ofString "/claim/cut.py") 516] }
noncomputable def q14_94 (P : Params) : Obj :=
{ cls := Value.type "frame",
  slots :=
    #[some (Value.ref 93), some (Value.ref 3), some (Value.ref 90), none,
      some (Value.str (Str.ofString "cpy313.ftplib") 508), none, some (Value.ref 0)] }
noncomputable def q14_95 (P : Params) : Obj :=
{ cls := Value.type "tuple", data := Data.seq #[] }
noncomputable def q14_96 (P : Params) : Obj :=
{ cls := Value.type "dict",
  data :=
    Data.dict
      #[{ hash := PyData.keyHash P (Str.ofString "__module__"), key := Value.str (Str.ofString "__module__") 517,
          val := Value.str (Str.ofString "cpy313.ftplib") 508 },
        { hash := PyData.keyHash P (Str.ofString "__firstlineno__"),
          key := Value.str (Str.ofString "__firstlineno__") 521, val := Value.int 22 520 },
        { hash := PyData.keyHash P (Str.ofString "__static_attributes__"),
          key := Value.str (Str.ofString "__static_attributes__") 522, val := Value.ref 95 },
        { hash := PyData.keyHash P (Str.ofString "__weakref__"), key := Value.str (Str.ofString "__weakref__") 524,
          val := Value.ref 98 },
        { hash := PyData.keyHash P (Str.ofString "__doc__"), key := Value.str (Str.ofString "__doc__") 525,
          val := Value.none }]
      3 }
noncomputable def q14_97 (P : Params) : Obj :=
{ cls := Value.type "type",
  data :=
    Data.cls
      { name := Str.ofString "Error", bases := [Value.type "Exception"],
        mro := [Value.ref 97, Value.type "Exception", Value.type "BaseException", Value.type "object"], ns := 96,
        qualname := Str.ofString "Error", subclasses := [Value.ref 110, Value.ref 122] },
  slots :=
    #[some (Value.ref 88), none, some (Value.str (Str.ofString "Error") 510),
      some (Value.str (Str.ofString "Error") 518), some (Value.builtin "Exception.__new__"), some (Value.bool true)] }
noncomputable def q14_98 (P : Params) : Obj :=
{ cls := Value.type "getset_descriptor",
  data :=
    Data.fields
      #[Value.str (Str.ofString "__weakref__") 523, Value.ref 97, Value.builtin "ExceptionGroup.__weakref__",
        Value.none] }
noncomputable def q14_99 (P : Params) : Obj :=
{ cls := Value.type "super", data := Data.fields #[Value.ref 97, Value.ref 97, Value.ref 97] }
noncomputable def q14_100 (P : Params) : Obj :=
{ cls := Value.type "builtin_function_or_method",
  data := Data.fields #[Value.builtin "object.__init_subclass__", Value.ref 97] }
noncomputable def q14_101 (P : Params) : Obj :=
{ cls := Value.type "tuple", data := Data.seq #[Value.ref 97] }
noncomputable def q14_102 (P : Params) : Obj :=
{ cls := Value.type "builtin_function_or_method",
  data := Data.fields #[Value.builtin "type.__prepare__", Value.type "type"] }
noncomputable def q14_103 (P : Params) : Obj :=
{ cls := Value.type "dict",
  data :=
    Data.dict
      #[{ hash := PyData.keyHash P (Str.ofString "__module__"), key := Value.str (Str.ofString "__module__") 537,
          val := Value.str (Str.ofString "cpy313.ftplib") 508 },
        { hash := PyData.keyHash P (Str.ofString "__qualname__"), key := Value.str (Str.ofString "__qualname__") 539,
          val := Value.str (Str.ofString "error_reply") 538 },
        { hash := PyData.keyHash P (Str.ofString "__firstlineno__"),
          key := Value.str (Str.ofString "__firstlineno__") 541, val := Value.int 24 540 },
        { hash := PyData.keyHash P (Str.ofString "__static_attributes__"),
          key := Value.str (Str.ofString "__static_attributes__") 542, val := Value.ref 108 }]
      4 }
noncomputable def q14_104 (P : Params) : Obj :=
{ cls := Value.type "tuple", data := Data.seq #[] }
noncomputable def q14_105 (P : Params) : Obj :=
{ cls := Value.none, data := Data.fields #[] }
noncomputable def q14_106 (P : Params) : Obj :=
{ cls := Value.type "code",
  data :=
    Data.fields
      #[Value.str (Str.ofString "error_reply") 532, Value.str (Str.ofString "error_reply") 533,
        Value.str (Str.ofString "/claim/cut.py") 534, Value.int 24 0, Value.int 0 0, Value.int 0 0, Value.int 0 0,
        Value.int 0 0, Value.ref 104, Value.bool false, Value.int 181 0, Value.ref 105, Value.none, Value.none,
        Value.none, Value.none, Value.int 535 0, Value.int 24 0, Value.str (Str.ofString "/claim/cut.py") 536] }
noncomputable def q14_107 (P : Params) : Obj :=
{ cls := Value.type "frame",
  slots :=
    #[some (Value.ref 106), some (Value.ref 3), some (Value.ref 103), none,
      some (Value.str (Str.ofString "cpy313.ftplib") 508), none, some (Value.ref 0)] }
noncomputable def q14_108 (P : Params) : Obj :=
{ cls := Value.type "tuple", data := Data.seq #[] }
noncomputable def q14_109 (P : Params) : Obj :=
{ cls := Value.type "dict",
  data :=
    Data.dict
      #[{ hash := PyData.keyHash P (Str.ofString "__module__"), key := Value.str (Str.ofString "__module__") 537,
          val := Value.str (Str.ofString "cpy313.ftplib") 508 },
        { hash := PyData.keyHash P (Str.ofString "__firstlineno__"),
          key := Value.str (Str.ofString "__firstlineno__") 541, val := Value.int 24 540 },
        { hash := PyData.keyHash P (Str.ofString "__static_attributes__"),
          key := Value.str (Str.ofString "__static_attributes__") 542, val := Value.ref 108 },
        { hash := PyData.keyHash P (Str.ofString "__doc__"), key := Value.str (Str.ofString "__doc__") 543,
          val := Value.none }]
      2 }
noncomputable def q14_110 (P : Params) : Obj :=
{ cls := Value.type "type",
  data :=
    Data.cls
      { name := Str.ofString "error_reply", bases := [Value.ref 97],
        mro := [Value.ref 110, Value.ref 97, Value.type "Exception", Value.type "BaseException", Value.type "object"],
        ns := 109, qualname := Str.ofString "error_reply" },
  slots :=
    #[some (Value.ref 101), none, some (Value.str (Str.ofString "error_reply") 530),
      some (Value.str (Str.ofString "error_reply") 538), some (Value.builtin "Exception.__new__"),
      some (Value.bool true)] }
noncomputable def q14_111 (P : Params) : Obj :=
{ cls := Value.type "super", data := Data.fields #[Value.ref 110, Value.ref 110, Value.ref 110] }
noncomputable def q14_112 (P : Params) : Obj :=
{ cls := Value.type "builtin_function_or_method",
  data := Data.fields #[Value.builtin "object.__init_subclass__", Value.ref 110] }
noncomputable def q14_113 (P : Params) : Obj :=
{ cls := Value.type "tuple", data := Data.seq #[Value.ref 97] }
noncomputable def q14_114 (P : Params) : Obj :=
{ cls := Value.type "builtin_function_or_method",
  data := Data.fields #[Value.builtin "type.__prepare__", Value.type "type"] }
noncomputable def q14_115 (P : Params) : Obj :=
{ cls := Value.type "dict",
  data :=
    Data.dict
      #[{ hash := PyData.keyHash P (Str.ofString "__module__"), key := Value.str (Str.ofString "__module__") 553,
          val := Value.str (Str.ofString "cpy313.ftplib") 508 },
        { hash := PyData.keyHash P (Str.ofString "__qualname__"), key := Value.str (Str.ofString "__qualname__") 555,
          val := Value.str (Str.ofString "error_proto") 554 },
        { hash := PyData.keyHash P (Str.ofString "__firstlineno__"),
          key := Value.str (Str.ofString "__firstlineno__") 557, val := Value.int 26 556 },
        { hash := PyData.keyHash P (Str.ofString "__static_attributes__"),
          key := Value.str (Str.ofString "__static_attributes__") 558, val := Value.ref 120 }]
      4 }
noncomputable def q14_116 (P : Params) : Obj :=
{ cls := Value.type "tuple", data := Data.seq #[] }
noncomputable def q14_117 (P : Params) : Obj :=
{ cls := Value.none, data := Data.fields #[] }
noncomputable def q14_118 (P : Params) : Obj :=
{ cls := Value.type "code",
  data :=
    Data.fields
      #[Value.str (Str.ofString "error_proto") 548, Value.str (Str.ofString "error_proto") 549,
        Value.str (Str.ofString "/claim/cut.py") 550, Value.int 26 0, Value.int 0 0, Value.int 0 0, Value.int 0 0,
        Value.int 0 0, Value.ref 116, Value.bool false, Value.int 181 0, Value.ref 117, Value.none, Value.none,
        Value.none, Value.none, Value.int 551 0, Value.int 26 0, Value.str (Str.ofString "/claim/cut.py") 552] }
noncomputable def q14_119 (P : Params) : Obj :=
{ cls := Value.type "frame",
  slots :=
    #[some (Value.ref 118), some (Value.ref 3), some (Value.ref 115), none,
      some (Value.str (Str.ofString "cpy313.ftplib") 508), none, some (Value.ref 0)] }
noncomputable def q14_120 (P : Params) : Obj :=
{ cls := Value.type "tuple", data := Data.seq #[] }
noncomputable def q14_121 (P : Params) : Obj :=
{ cls := Value.type "dict",
  data :=
    Data.dict
      #[{ hash := PyData.keyHash P (Str.ofString "__module__"), key := Value.str (Str.ofString "__module__") 553,
          val := Value.str (Str.ofString "cpy313.ftplib") 508 },
        { hash := PyData.keyHash P (Str.ofString "__firstlineno__"),
          key := Value.str (Str.ofString "__firstlineno__") 557, val := Value.int 26 556 },
        { hash := PyData.keyHash P (Str.ofString "__static_attributes__"),
          key := Value.str (Str.ofString "__static_attributes__") 558, val := Value.ref 120 },
        { hash := PyData.keyHash P (Str.ofString "__doc__"), key := Value.str (Str.ofString "__doc__") 559,
          val := Value.none }]
      2 }
noncomputable def q14_122 (P : Params) : Obj :=
{ cls := Value.type "type",
  data :=
    Data.cls
      { name := Str.ofString "error_proto", bases := [Value.ref 97],
        mro := [Value.ref 122, Value.ref 97, Value.type "Exception", Value.type "BaseException", Value.type "object"],
        ns := 121, qualname := Str.ofString "error_proto" },
  slots :=
    #[some (Value.ref 113), none, some (Value.str (Str.ofString "error_proto") 546),
      some (Value.str (Str.ofString "error_proto") 554), some (Value.builtin "Exception.__new__"),
      some (Value.bool true)] }
noncomputable def q14_123 (P : Params) : Obj :=
{ cls := Value.type "super", data := Data.fields #[Value.ref 122, Value.ref 122, Value.ref 122] }
noncomputable def q14_124 (P : Params) : Obj :=
{ cls := Value.type "builtin_function_or_method",
  data := Data.fields #[Value.builtin "object.__init_subclass__", Value.ref 122] }
noncomputable def L14 (P : Params) : List Obj := [boot_o_0 P, boot_o_1 P, q14_2 P, q14_3 P, boot_o_4 P, boot_o_5 P, boot_o_6 P, boot_o_7 P, boot_o_8 P, boot_o_9 P, boot_o_10 P, q0_11 P, q14_12 P, q0_13 P, q0_14 P, q3_15 P, q3_16 P, q3_17 P, q3_18 P, q3_19 P, q3_20 P, q3_21 P, q3_22 P, q3_23 P, q3_24 P, q3_25 P, q3_26 P, q8_27 P, q8_28 P, q8_29 P, q8_30 P, q8_31 P, q8_32 P, q8_33 P, q8_34 P, q8_35 P, q8_36 P, q8_37 P, q8_38 P, q8_39 P, q8_40 P, q8_41 P, q8_42 P, q8_43 P, q8_44 P, q8_45 P, q8_46 P, q8_47 P, q8_48 P, q8_49 P, q8_50 P, q8_51 P, q8_52 P, q8_53 P, q8_54 P, q8_55 P, q8_56 P, q8_57 P, q8_58 P, q8_59 P, q8_60 P, q8_61 P, q8_62 P, q8_63 P, q8_64 P, q8_65 P, q8_66 P, q8_67 P, q8_68 P, q8_69 P, q9_70 P, q9_71 P, q9_72 P, q9_73 P, q9_74 P, q9_75 P, q9_76 P, q9_77 P, q9_78 P, q9_79 P, q9_80 P, q10_81 P, q10_82 P, q10_83 P, q10_84 P, q10_85 P, q10_86 P, q10_87 P, q14_88 P, q14_89 P, q14_90 P, q14_91 P, q14_92 P, q14_93 P, q14_94 P, q14_95 P, q14_96 P, q14_97 P, q14_98 P, q14_99 P, q14_100 P, q14_101 P, q14_102 P, q14_103 P, q14_104 P, q14_105 P, q14_106 P, q14_107 P, q14_108 P, q14_109 P, q14_110 P, q14_111 P, q14_112 P, q14_113 P, q14_114 P, q14_115 P, q14_116 P, q14_117 P, q14_118 P, q14_119 P, q14_120 P, q14_121 P, q14_122 P, q14_123 P, q14_124 P]
noncomputable def n14 : Nat := 125
noncomputable def k14 : Nat := 562
noncomputable def p14 : Pos := { line := 26, col := 0, endLine := 27, endCol := 8 }
-- drawn { } life { } gens 0
noncomputable def q27_3 (P : Params) : Obj :=
{ cls := Value.type "dict",
  data :=
    Data.dict
      #[{ hash := PyData.keyHash P (Str.ofString "__name__"), key := Value.str (Str.ofString "__name__") 165,
          val := Value.str (Str.ofString "law_yh0002_01") 585 },
        { hash := PyData.keyHash P (Str.ofString "__doc__"), key := Value.str (Str.ofString "__doc__") 166,
          val := Value.none },
        { hash := PyData.keyHash P (Str.ofString "__package__"), key := Value.str (Str.ofString "__package__") 167,
          val := Value.none },
        { hash := PyData.keyHash P (Str.ofString "__loader__"), key := Value.str (Str.ofString "__loader__") 168,
          val := Value.builtin "__main__.__loader__#opaque" },
        { hash := PyData.keyHash P (Str.ofString "__spec__"), key := Value.str (Str.ofString "__spec__") 169,
          val := Value.none },
        { hash := PyData.keyHash P (Str.ofString "__annotations__"),
          key := Value.str (Str.ofString "__annotations__") 170, val := Value.ref 6 },
        { hash := PyData.keyHash P (Str.ofString "__builtins__"), key := Value.str (Str.ofString "__builtins__") 171,
          val := Value.ref 4 },
        { hash := PyData.keyHash P (Str.ofString "__file__"), key := Value.str (Str.ofString "__file__") 173,
          val := Value.str (Str.ofString "/claim/cut.py") 172 },
        { hash := PyData.keyHash P (Str.ofString "__cached__"), key := Value.str (Str.ofString "__cached__") 174,
          val := Value.none },
        { hash := PyData.keyHash P (Str.ofString "in_table_c4"), key := Value.str (Str.ofString "in_table_c4") 196,
          val := Value.ref 21 },
        { hash := PyData.keyHash P (Str.ofString "c6_set"), key := Value.str (Str.ofString "c6_set") 210,
          val := Value.ref 23 },
        { hash := PyData.keyHash P (Str.ofString "in_table_c6"), key := Value.str (Str.ofString "in_table_c6") 217,
          val := Value.ref 33 },
        { hash := PyData.keyHash P (Str.ofString "c7_set"), key := Value.str (Str.ofString "c7_set") 245,
          val := Value.ref 35 },
        { hash := PyData.keyHash P (Str.ofString "in_table_c7"), key := Value.str (Str.ofString "in_table_c7") 252,
          val := Value.ref 45 },
        { hash := PyData.keyHash P (Str.ofString "c8_set"), key := Value.str (Str.ofString "c8_set") 293,
          val := Value.ref 59 },
        { hash := PyData.keyHash P (Str.ofString "in_table_c8"), key := Value.str (Str.ofString "in_table_c8") 300,
          val := Value.ref 69 },
        { hash := PyData.keyHash P (Str.ofString "c9_set"), key := Value.str (Str.ofString "c9_set") 500,
          val := Value.ref 77 },
        { hash := PyData.keyHash P (Str.ofString "in_table_c9"), key := Value.str (Str.ofString "in_table_c9") 507,
          val := Value.ref 87 },
        { hash := PyData.keyHash P (Str.ofString "Error"), key := Value.str (Str.ofString "Error") 529,
          val := Value.ref 97 },
        { hash := PyData.keyHash P (Str.ofString "error_reply"), key := Value.str (Str.ofString "error_reply") 545,
          val := Value.ref 110 },
        { hash := PyData.keyHash P (Str.ofString "error_proto"), key := Value.str (Str.ofString "error_proto") 561,
          val := Value.ref 122 },
        { hash := PyData.keyHash P (Str.ofString "parse229"), key := Value.str (Str.ofString "parse229") 574,
          val := Value.ref 131 },
        { hash := PyData.keyHash P (Str.ofString "_strcoll"), key := Value.str (Str.ofString "_strcoll") 584,
          val := Value.ref 138 },
        { hash := PyData.keyHash P (Str.ofString "_law_sign"), key := Value.str (Str.ofString "_law_sign") 594,
          val := Value.ref 145 },
        { hash := PyData.keyHash P (Str.ofString "_law_table"), key := Value.str (Str.ofString "_law_table") 600,
          val := Value.ref 150 },
        { hash := PyData.keyHash P (Str.ofString "_law_reply"), key := Value.str (Str.ofString "_law_reply") 610,
          val := Value.ref 157 },
        { hash := PyData.keyHash P (Str.ofString "_law_refused"), key := Value.str (Str.ofString "_law_refused") 619,
          val := Value.ref 164 },
        { hash := PyData.keyHash P (Str.ofString "_law_spoiled"), key := Value.str (Str.ofString "_law_spoiled") 629,
          val := Value.ref 171 },
        { hash := PyData.keyHash P (Str.ofString "_law_top"), key := Value.str (Str.ofString "_law_top") 643,
          val := Value.ref 178 },
        { hash := PyData.keyHash P (Str.ofString "_law_first"), key := Value.str (Str.ofString "_law_first") 649,
          val := Value.ref 183 },
        { hash := PyData.keyHash P (Str.ofString "_law_sure"), key := Value.str (Str.ofString "_law_sure") 661,
          val := Value.ref 190 },
        { hash := PyData.keyHash P (Str.ofString "law"), key := Value.str (Str.ofString "law") 667,
          val := Value.ref 195 }]
      32 }
noncomputable def q27_12 (P : Params) : Obj :=
{ cls := Value.none,
  data :=
    Data.fields
      #[Value.int 2 0, Value.int 0 0, Value.ref 20, Value.int 10 0, Value.int 0 0, Value.ref 32, Value.int 13 0,
        Value.int 0 0, Value.ref 44, Value.int 16 0, Value.int 0 0, Value.ref 68, Value.int 19 0, Value.int 0 0,
        Value.ref 86, Value.int 22 0, Value.int 0 0, Value.ref 93, Value.int 24 0, Value.int 0 0, Value.ref 106,
        Value.int 26 0, Value.int 0 0, Value.ref 118, Value.int 28 0, Value.int 0 0, Value.ref 130, Value.int 46 0,
        Value.int 0 0, Value.ref 137, Value.int 49 0, Value.int 0 0, Value.ref 144, Value.int 61 0, Value.int 0 0,
        Value.ref 149, Value.int 67 0, Value.int 0 0, Value.ref 156, Value.int 69 0, Value.int 0 0, Value.ref 163,
        Value.int 77 0, Value.int 0 0, Value.ref 170, Value.int 89 0, Value.int 0 0, Value.ref 177, Value.int 100 0,
        Value.int 0 0, Value.ref 182, Value.int 110 0, Value.int 0 0, Value.ref 189, Value.int 120 0, Value.int 0 0,
        Value.ref 194] }
noncomputable def q27_125 (P : Params) : Obj :=
{ cls := Value.type "tuple", data := Data.seq #[] }
noncomputable def q27_126 (P : Params) : Obj :=
{ cls := Value.none, data := Data.fields #[] }
noncomputable def q27_127 (P : Params) : Obj :=
{ cls := Value.type "tuple",
  data :=
    Data.seq
      #[Value.str (Str.ofString "resp") 565, Value.str (Str.ofString "peer") 566, Value.str (Str.ofString "left") 567,
        Value.str (Str.ofString "right") 568, Value.str (Str.ofString "parts") 569, Value.str (Str.ofString "host") 570,
        Value.str (Str.ofString "port") 571] }
noncomputable def q27_128 (P : Params) : Obj :=
{ cls := Value.type "tuple", data := Data.seq #[] }
noncomputable def q27_129 (P : Params) : Obj :=
{ cls := Value.none,
  data :=
    Data.func
      { name := Str.ofString "parse229", qualname := Str.ofString "parse229",
        params :=
          { posonlyargs := [],
            args :=
              [{ arg := Str.ofString "resp", annotation := none,
                  pos := { line := 28, col := 13, endLine := 28, endCol := 17 } },
                { arg := Str.ofString "peer", annotation := none,
                  pos := { line := 28, col := 19, endLine := 28, endCol := 23 } }],
            vararg := none, kwonlyargs := [], kw_defaults := [], kwarg := none, defaults := [] },
        body := FuncBody.stmts (fb 14),
        scope :=
          { kind := ScopeKind.function,
            names :=
              [(Str.ofString "resp", NameKind.local), (Str.ofString "peer", NameKind.local),
                (Str.ofString "left", NameKind.local), (Str.ofString "right", NameKind.local),
                (Str.ofString "parts", NameKind.local), (Str.ofString "host", NameKind.local),
                (Str.ofString "port", NameKind.local), (Str.ofString "error_reply", NameKind.globalImplicit),
                (Str.ofString "error_proto", NameKind.globalImplicit), (Str.ofString "len", NameKind.globalImplicit),
                (Str.ofString "int", NameKind.globalImplicit)],
            isGenerator := false, isCoroutine := false },
        globals := 0, closure := [], defaults := Value.none, kwdefaults := Value.none } }
noncomputable def q27_130 (P : Params) : Obj :=
{ cls := Value.type "code",
  data :=
    Data.fields
      #[Value.str (Str.ofString "parse229") 562, Value.str (Str.ofString "parse229") 563,
        Value.str (Str.ofString "/claim/cut.py") 564, Value.int 28 0, Value.int 2 0, Value.int 0 0, Value.int 0 0,
        Value.int 3 0, Value.ref 125, Value.bool true, Value.int 181 0, Value.ref 126, Value.none, Value.ref 127,
        Value.ref 128, Value.ref 129, Value.int 572 0, Value.int 28 0, Value.str (Str.ofString "/claim/cut.py") 573] }
noncomputable def q27_131 (P : Params) : Obj :=
{ cls := Value.type "function",
  data :=
    Data.func
      { name := Str.ofString "parse229", qualname := Str.ofString "parse229",
        params :=
          { posonlyargs := [],
            args :=
              [{ arg := Str.ofString "resp", annotation := none,
                  pos := { line := 28, col := 13, endLine := 28, endCol := 17 } },
                { arg := Str.ofString "peer", annotation := none,
                  pos := { line := 28, col := 19, endLine := 28, endCol := 23 } }],
            vararg := none, kwonlyargs := [], kw_defaults := [], kwarg := none, defaults := [] },
        body := FuncBody.stmts (fb 14),
        scope :=
          { kind := ScopeKind.function,
            names :=
              [(Str.ofString "resp", NameKind.local), (Str.ofString "peer", NameKind.local),
                (Str.ofString "left", NameKind.local), (Str.ofString "right", NameKind.local),
                (Str.ofString "parts", NameKind.local), (Str.ofString "host", NameKind.local),
                (Str.ofString "port", NameKind.local), (Str.ofString "error_reply", NameKind.globalImplicit),
                (Str.ofString "error_proto", NameKind.globalImplicit), (Str.ofString "len", NameKind.globalImplicit),
                (Str.ofString "int", NameKind.globalImplicit)],
            isGenerator := false, isCoroutine := false },
        globals := 3, closure := [], defaults := Value.none, kwdefaults := Value.none,
        pyModule := Value.str (Str.ofString "cpy313.ftplib") 508, code := Value.ref 130 } }
noncomputable def q27_132 (P : Params) : Obj :=
{ cls := Value.type "tuple", data := Data.seq #[] }
noncomputable def q27_133 (P : Params) : Obj :=
{ cls := Value.none, data := Data.fields #[] }
noncomputable def q27_134 (P : Params) : Obj :=
{ cls := Value.type "tuple", data := Data.seq #[Value.str (Str.ofString "a") 580, Value.str (Str.ofString "b") 581] }
noncomputable def q27_135 (P : Params) : Obj :=
{ cls := Value.type "tuple", data := Data.seq #[] }
noncomputable def q27_136 (P : Params) : Obj :=
{ cls := Value.none,
  data :=
    Data.func
      { name := Str.ofString "_strcoll", qualname := Str.ofString "_strcoll",
        params :=
          { posonlyargs := [],
            args :=
              [{ arg := Str.ofString "a", annotation := none,
                  pos := { line := 46, col := 13, endLine := 46, endCol := 14 } },
                { arg := Str.ofString "b", annotation := none,
                  pos := { line := 46, col := 16, endLine := 46, endCol := 17 } }],
            vararg := none, kwonlyargs := [], kw_defaults := [], kwarg := none, defaults := [] },
        body := FuncBody.stmts (fb 16),
        scope :=
          { kind := ScopeKind.function,
            names := [(Str.ofString "a", NameKind.local), (Str.ofString "b", NameKind.local)], isGenerator := false,
            isCoroutine := false },
        globals := 0, closure := [], defaults := Value.none, kwdefaults := Value.none } }
noncomputable def q27_137 (P : Params) : Obj :=
{ cls := Value.type "code",
  data :=
    Data.fields
      #[Value.str (Str.ofString "_strcoll") 577, Value.str (Str.ofString "_strcoll") 578,
        Value.str (Str.ofString "/claim/cut.py") 579, Value.int 46 0, Value.int 2 0, Value.int 0 0, Value.int 0 0,
        Value.int 3 0, Value.ref 132, Value.bool true, Value.int 181 0, Value.ref 133, Value.none, Value.ref 134,
        Value.ref 135, Value.ref 136, Value.int 582 0, Value.int 46 0, Value.str (Str.ofString "/claim/cut.py") 583] }
noncomputable def q27_138 (P : Params) : Obj :=
{ cls := Value.type "function",
  data :=
    Data.func
      { name := Str.ofString "_strcoll", qualname := Str.ofString "_strcoll",
        params :=
          { posonlyargs := [],
            args :=
              [{ arg := Str.ofString "a", annotation := none,
                  pos := { line := 46, col := 13, endLine := 46, endCol := 14 } },
                { arg := Str.ofString "b", annotation := none,
                  pos := { line := 46, col := 16, endLine := 46, endCol := 17 } }],
            vararg := none, kwonlyargs := [], kw_defaults := [], kwarg := none, defaults := [] },
        body := FuncBody.stmts (fb 16),
        scope :=
          { kind := ScopeKind.function,
            names := [(Str.ofString "a", NameKind.local), (Str.ofString "b", NameKind.local)], isGenerator := false,
            isCoroutine := false },
        globals := 3, closure := [], defaults := Value.none, kwdefaults := Value.none,
        pyModule := Value.str (Str.ofString "cpy313.locale") 575, code := Value.ref 137 } }
noncomputable def q27_139 (P : Params) : Obj :=
{ cls := Value.type "tuple", data := Data.seq #[] }
noncomputable def q27_140 (P : Params) : Obj :=
{ cls := Value.none, data := Data.fields #[] }
noncomputable def q27_141 (P : Params) : Obj :=
{ cls := Value.type "tuple",
  data := Data.seq #[Value.str (Str.ofString "table") 590, Value.str (Str.ofString "part") 591] }
noncomputable def q27_142 (P : Params) : Obj :=
{ cls := Value.type "tuple", data := Data.seq #[] }
noncomputable def q27_143 (P : Params) : Obj :=
{ cls := Value.none,
  data :=
    Data.func
      { name := Str.ofString "_law_sign", qualname := Str.ofString "_law_sign",
        params :=
          { posonlyargs := [],
            args :=
              [{ arg := Str.ofString "table", annotation := none,
                  pos := { line := 49, col := 14, endLine := 49, endCol := 19 } },
                { arg := Str.ofString "part", annotation := none,
                  pos := { line := 49, col := 21, endLine := 49, endCol := 25 } }],
            vararg := none, kwonlyargs := [], kw_defaults := [], kwarg := none, defaults := [] },
        body := FuncBody.stmts (fb 18),
        scope :=
          { kind := ScopeKind.function,
            names :=
              [(Str.ofString "table", NameKind.local), (Str.ofString "part", NameKind.local),
                (Str.ofString "chr", NameKind.globalImplicit), (Str.ofString "list", NameKind.globalImplicit),
                (Str.ofString "range", NameKind.globalImplicit)],
            isGenerator := false, isCoroutine := false },
        globals := 0, closure := [], defaults := Value.none, kwdefaults := Value.none } }
noncomputable def q27_144 (P : Params) : Obj :=
{ cls := Value.type "code",
  data :=
    Data.fields
      #[Value.str (Str.ofString "_law_sign") 587, Value.str (Str.ofString "_law_sign") 588,
        Value.str (Str.ofString "/claim/cut.py") 589, Value.int 49 0, Value.int 2 0, Value.int 0 0, Value.int 0 0,
        Value.int 3 0, Value.ref 139, Value.bool true, Value.int 181 0, Value.ref 140, Value.none, Value.ref 141,
        Value.ref 142, Value.ref 143, Value.int 592 0, Value.int 49 0, Value.str (Str.ofString "/claim/cut.py") 593] }
noncomputable def q27_145 (P : Params) : Obj :=
{ cls := Value.type "function",
  data :=
    Data.func
      { name := Str.ofString "_law_sign", qualname := Str.ofString "_law_sign",
        params :=
          { posonlyargs := [],
            args :=
              [{ arg := Str.ofString "table", annotation := none,
                  pos := { line := 49, col := 14, endLine := 49, endCol := 19 } },
                { arg := Str.ofString "part", annotation := none,
                  pos := { line := 49, col := 21, endLine := 49, endCol := 25 } }],
            vararg := none, kwonlyargs := [], kw_defaults := [], kwarg := none, defaults := [] },
        body := FuncBody.stmts (fb 18),
        scope :=
          { kind := ScopeKind.function,
            names :=
              [(Str.ofString "table", NameKind.local), (Str.ofString "part", NameKind.local),
                (Str.ofString "chr", NameKind.globalImplicit), (Str.ofString "list", NameKind.globalImplicit),
                (Str.ofString "range", NameKind.globalImplicit)],
            isGenerator := false, isCoroutine := false },
        globals := 3, closure := [], defaults := Value.none, kwdefaults := Value.none,
        pyModule := Value.str (Str.ofString "law_yh0002_01") 585, code := Value.ref 144 } }
noncomputable def q27_146 (P : Params) : Obj :=
{ cls := Value.type "tuple", data := Data.seq #[] }
noncomputable def q27_147 (P : Params) : Obj :=
{ cls := Value.none, data := Data.fields #[] }
noncomputable def q27_148 (P : Params) : Obj :=
{ cls := Value.none,
  data :=
    Data.func
      { name := Str.ofString "_law_table", qualname := Str.ofString "_law_table",
        params :=
          { posonlyargs := [],
            args :=
              [{ arg := Str.ofString "sign", annotation := none,
                  pos := { line := 61, col := 15, endLine := 61, endCol := 19 } }],
            vararg := none, kwonlyargs := [], kw_defaults := [], kwarg := none, defaults := [] },
        body := FuncBody.stmts (fb 19),
        scope :=
          { kind := ScopeKind.function,
            names :=
              [(Str.ofString "sign", NameKind.local), (Str.ofString "held", NameKind.cell),
                (Str.ofString "told", NameKind.local), (Str.ofString "in_table_c4", NameKind.globalImplicit),
                (Str.ofString "in_table_c6", NameKind.globalImplicit),
                (Str.ofString "in_table_c7", NameKind.globalImplicit),
                (Str.ofString "in_table_c8", NameKind.globalImplicit),
                (Str.ofString "in_table_c9", NameKind.globalImplicit), (Str.ofString "range", NameKind.globalImplicit),
                (Str.ofString "len", NameKind.globalImplicit)],
            isGenerator := false, isCoroutine := false,
            more :=
              [(Str.ofString "fast", Const.str (Str.ofString "sign")),
                (Str.ofString "fast", Const.str (Str.ofString "held")),
                (Str.ofString "fast", Const.str (Str.ofString "one")),
                (Str.ofString "fast", Const.str (Str.ofString "k")),
                (Str.ofString "fast", Const.str (Str.ofString "told"))] },
        globals := 0, closure := [], defaults := Value.none, kwdefaults := Value.none } }
noncomputable def q27_149 (P : Params) : Obj :=
{ cls := Value.type "code",
  data :=
    Data.fields
      #[Value.str (Str.ofString "_law_table") 595, Value.str (Str.ofString "_law_table") 596,
        Value.str (Str.ofString "/claim/cut.py") 597, Value.int 61 0, Value.int 1 0, Value.int 0 0, Value.int 0 0,
        Value.int 3 0, Value.ref 146, Value.bool true, Value.int 181 0, Value.ref 147, Value.none, Value.none,
        Value.none, Value.ref 148, Value.int 598 0, Value.int 61 0, Value.str (Str.ofString "/claim/cut.py") 599] }
noncomputable def q27_150 (P : Params) : Obj :=
{ cls := Value.type "function",
  data :=
    Data.func
      { name := Str.ofString "_law_table", qualname := Str.ofString "_law_table",
        params :=
          { posonlyargs := [],
            args :=
              [{ arg := Str.ofString "sign", annotation := none,
                  pos := { line := 61, col := 15, endLine := 61, endCol := 19 } }],
            vararg := none, kwonlyargs := [], kw_defaults := [], kwarg := none, defaults := [] },
        body := FuncBody.stmts (fb 19),
        scope :=
          { kind := ScopeKind.function,
            names :=
              [(Str.ofString "sign", NameKind.local), (Str.ofString "held", NameKind.cell),
                (Str.ofString "told", NameKind.local), (Str.ofString "in_table_c4", NameKind.globalImplicit),
                (Str.ofString "in_table_c6", NameKind.globalImplicit),
                (Str.ofString "in_table_c7", NameKind.globalImplicit),
                (Str.ofString "in_table_c8", NameKind.globalImplicit),
                (Str.ofString "in_table_c9", NameKind.globalImplicit), (Str.ofString "range", NameKind.globalImplicit),
                (Str.ofString "len", NameKind.globalImplicit)],
            isGenerator := false, isCoroutine := false,
            more :=
              [(Str.ofString "fast", Const.str (Str.ofString "sign")),
                (Str.ofString "fast", Const.str (Str.ofString "held")),
                (Str.ofString "fast", Const.str (Str.ofString "one")),
                (Str.ofString "fast", Const.str (Str.ofString "k")),
                (Str.ofString "fast", Const.str (Str.ofString "told"))] },
        globals := 3, closure := [], defaults := Value.none, kwdefaults := Value.none,
        pyModule := Value.str (Str.ofString "law_yh0002_01") 585, code := Value.ref 149 } }
noncomputable def q27_151 (P : Params) : Obj :=
{ cls := Value.type "tuple", data := Data.seq #[] }
noncomputable def q27_152 (P : Params) : Obj :=
{ cls := Value.none, data := Data.fields #[] }
noncomputable def q27_153 (P : Params) : Obj :=
{ cls := Value.type "tuple",
  data :=
    Data.seq
      #[Value.str (Str.ofString "code") 604, Value.str (Str.ofString "fields") 605, Value.str (Str.ofString "mark") 606,
        Value.str (Str.ofString "behind") 607] }
noncomputable def q27_154 (P : Params) : Obj :=
{ cls := Value.type "tuple", data := Data.seq #[] }
noncomputable def q27_155 (P : Params) : Obj :=
{ cls := Value.none,
  data :=
    Data.func
      { name := Str.ofString "_law_reply", qualname := Str.ofString "_law_reply",
        params :=
          { posonlyargs := [],
            args :=
              [{ arg := Str.ofString "code", annotation := none,
                  pos := { line := 67, col := 15, endLine := 67, endCol := 19 } },
                { arg := Str.ofString "fields", annotation := none,
                  pos := { line := 67, col := 21, endLine := 67, endCol := 27 } },
                { arg := Str.ofString "mark", annotation := none,
                  pos := { line := 67, col := 29, endLine := 67, endCol := 33 } },
                { arg := Str.ofString "behind", annotation := none,
                  pos := { line := 67, col := 35, endLine := 67, endCol := 41 } }],
            vararg := none, kwonlyargs := [], kw_defaults := [], kwarg := none, defaults := [] },
        body := FuncBody.stmts (fb 20),
        scope :=
          { kind := ScopeKind.function,
            names :=
              [(Str.ofString "code", NameKind.local), (Str.ofString "fields", NameKind.local),
                (Str.ofString "mark", NameKind.local), (Str.ofString "behind", NameKind.local)],
            isGenerator := false, isCoroutine := false },
        globals := 0, closure := [], defaults := Value.none, kwdefaults := Value.none } }
noncomputable def q27_156 (P : Params) : Obj :=
{ cls := Value.type "code",
  data :=
    Data.fields
      #[Value.str (Str.ofString "_law_reply") 601, Value.str (Str.ofString "_law_reply") 602,
        Value.str (Str.ofString "/claim/cut.py") 603, Value.int 67 0, Value.int 4 0, Value.int 0 0, Value.int 0 0,
        Value.int 3 0, Value.ref 151, Value.bool true, Value.int 181 0, Value.ref 152, Value.none, Value.ref 153,
        Value.ref 154, Value.ref 155, Value.int 608 0, Value.int 67 0, Value.str (Str.ofString "/claim/cut.py") 609] }
noncomputable def q27_157 (P : Params) : Obj :=
{ cls := Value.type "function",
  data :=
    Data.func
      { name := Str.ofString "_law_reply", qualname := Str.ofString "_law_reply",
        params :=
          { posonlyargs := [],
            args :=
              [{ arg := Str.ofString "code", annotation := none,
                  pos := { line := 67, col := 15, endLine := 67, endCol := 19 } },
                { arg := Str.ofString "fields", annotation := none,
                  pos := { line := 67, col := 21, endLine := 67, endCol := 27 } },
                { arg := Str.ofString "mark", annotation := none,
                  pos := { line := 67, col := 29, endLine := 67, endCol := 33 } },
                { arg := Str.ofString "behind", annotation := none,
                  pos := { line := 67, col := 35, endLine := 67, endCol := 41 } }],
            vararg := none, kwonlyargs := [], kw_defaults := [], kwarg := none, defaults := [] },
        body := FuncBody.stmts (fb 20),
        scope :=
          { kind := ScopeKind.function,
            names :=
              [(Str.ofString "code", NameKind.local), (Str.ofString "fields", NameKind.local),
                (Str.ofString "mark", NameKind.local), (Str.ofString "behind", NameKind.local)],
            isGenerator := false, isCoroutine := false },
        globals := 3, closure := [], defaults := Value.none, kwdefaults := Value.none,
        pyModule := Value.str (Str.ofString "law_yh0002_01") 585, code := Value.ref 156 } }
noncomputable def q27_158 (P : Params) : Obj :=
{ cls := Value.type "tuple", data := Data.seq #[] }
noncomputable def q27_159 (P : Params) : Obj :=
{ cls := Value.none, data := Data.fields #[] }
noncomputable def q27_160 (P : Params) : Obj :=
{ cls := Value.type "tuple",
  data :=
    Data.seq
      #[Value.str (Str.ofString "reply") 614, Value.str (Str.ofString "peer") 615,
        Value.str (Str.ofString "caught") 616] }
noncomputable def q27_161 (P : Params) : Obj :=
{ cls := Value.type "tuple", data := Data.seq #[] }
noncomputable def q27_162 (P : Params) : Obj :=
{ cls := Value.none,
  data :=
    Data.func
      { name := Str.ofString "_law_refused", qualname := Str.ofString "_law_refused",
        params :=
          { posonlyargs := [],
            args :=
              [{ arg := Str.ofString "reply", annotation := none,
                  pos := { line := 69, col := 17, endLine := 69, endCol := 22 } },
                { arg := Str.ofString "peer", annotation := none,
                  pos := { line := 69, col := 24, endLine := 69, endCol := 28 } }],
            vararg := none, kwonlyargs := [], kw_defaults := [], kwarg := none, defaults := [] },
        body := FuncBody.stmts (fb 21),
        scope :=
          { kind := ScopeKind.function,
            names :=
              [(Str.ofString "reply", NameKind.local), (Str.ofString "peer", NameKind.local),
                (Str.ofString "caught", NameKind.local), (Str.ofString "parse229", NameKind.globalImplicit),
                (Str.ofString "error_reply", NameKind.globalImplicit), (Str.ofString "str", NameKind.globalImplicit),
                (Str.ofString "error_proto", NameKind.globalImplicit)],
            isGenerator := false, isCoroutine := false },
        globals := 0, closure := [], defaults := Value.none, kwdefaults := Value.none } }
noncomputable def q27_163 (P : Params) : Obj :=
{ cls := Value.type "code",
  data :=
    Data.fields
      #[Value.str (Str.ofString "_law_refused") 611, Value.str (Str.ofString "_law_refused") 612,
        Value.str (Str.ofString "/claim/cut.py") 613, Value.int 69 0, Value.int 2 0, Value.int 0 0, Value.int 0 0,
        Value.int 3 0, Value.ref 158, Value.bool true, Value.int 181 0, Value.ref 159, Value.none, Value.ref 160,
        Value.ref 161, Value.ref 162, Value.int 617 0, Value.int 69 0, Value.str (Str.ofString "/claim/cut.py") 618] }
noncomputable def q27_164 (P : Params) : Obj :=
{ cls := Value.type "function",
  data :=
    Data.func
      { name := Str.ofString "_law_refused", qualname := Str.ofString "_law_refused",
        params :=
          { posonlyargs := [],
            args :=
              [{ arg := Str.ofString "reply", annotation := none,
                  pos := { line := 69, col := 17, endLine := 69, endCol := 22 } },
                { arg := Str.ofString "peer", annotation := none,
                  pos := { line := 69, col := 24, endLine := 69, endCol := 28 } }],
            vararg := none, kwonlyargs := [], kw_defaults := [], kwarg := none, defaults := [] },
        body := FuncBody.stmts (fb 21),
        scope :=
          { kind := ScopeKind.function,
            names :=
              [(Str.ofString "reply", NameKind.local), (Str.ofString "peer", NameKind.local),
                (Str.ofString "caught", NameKind.local), (Str.ofString "parse229", NameKind.globalImplicit),
                (Str.ofString "error_reply", NameKind.globalImplicit), (Str.ofString "str", NameKind.globalImplicit),
                (Str.ofString "error_proto", NameKind.globalImplicit)],
            isGenerator := false, isCoroutine := false },
        globals := 3, closure := [], defaults := Value.none, kwdefaults := Value.none,
        pyModule := Value.str (Str.ofString "law_yh0002_01") 585, code := Value.ref 163 } }
noncomputable def q27_165 (P : Params) : Obj :=
{ cls := Value.type "tuple", data := Data.seq #[] }
noncomputable def q27_166 (P : Params) : Obj :=
{ cls := Value.none, data := Data.fields #[] }
noncomputable def q27_167 (P : Params) : Obj :=
{ cls := Value.type "tuple",
  data :=
    Data.seq
      #[Value.str (Str.ofString "way") 623, Value.str (Str.ofString "fields") 624, Value.str (Str.ofString "mark") 625,
        Value.str (Str.ofString "behind") 626] }
noncomputable def q27_168 (P : Params) : Obj :=
{ cls := Value.type "tuple", data := Data.seq #[] }
noncomputable def q27_169 (P : Params) : Obj :=
{ cls := Value.none,
  data :=
    Data.func
      { name := Str.ofString "_law_spoiled", qualname := Str.ofString "_law_spoiled",
        params :=
          { posonlyargs := [],
            args :=
              [{ arg := Str.ofString "way", annotation := none,
                  pos := { line := 77, col := 17, endLine := 77, endCol := 20 } },
                { arg := Str.ofString "fields", annotation := none,
                  pos := { line := 77, col := 22, endLine := 77, endCol := 28 } },
                { arg := Str.ofString "mark", annotation := none,
                  pos := { line := 77, col := 30, endLine := 77, endCol := 34 } },
                { arg := Str.ofString "behind", annotation := none,
                  pos := { line := 77, col := 36, endLine := 77, endCol := 42 } }],
            vararg := none, kwonlyargs := [], kw_defaults := [], kwarg := none, defaults := [] },
        body := FuncBody.stmts (fb 22),
        scope :=
          { kind := ScopeKind.function,
            names :=
              [(Str.ofString "way", NameKind.local), (Str.ofString "fields", NameKind.local),
                (Str.ofString "mark", NameKind.local), (Str.ofString "behind", NameKind.local),
                (Str.ofString "_law_reply", NameKind.globalImplicit), (Str.ofString "len", NameKind.globalImplicit)],
            isGenerator := false, isCoroutine := false },
        globals := 0, closure := [], defaults := Value.none, kwdefaults := Value.none } }
noncomputable def q27_170 (P : Params) : Obj :=
{ cls := Value.type "code",
  data :=
    Data.fields
      #[Value.str (Str.ofString "_law_spoiled") 620, Value.str (Str.ofString "_law_spoiled") 621,
        Value.str (Str.ofString "/claim/cut.py") 622, Value.int 77 0, Value.int 4 0, Value.int 0 0, Value.int 0 0,
        Value.int 3 0, Value.ref 165, Value.bool true, Value.int 181 0, Value.ref 166, Value.none, Value.ref 167,
        Value.ref 168, Value.ref 169, Value.int 627 0, Value.int 77 0, Value.str (Str.ofString "/claim/cut.py") 628] }
noncomputable def q27_171 (P : Params) : Obj :=
{ cls := Value.type "function",
  data :=
    Data.func
      { name := Str.ofString "_law_spoiled", qualname := Str.ofString "_law_spoiled",
        params :=
          { posonlyargs := [],
            args :=
              [{ arg := Str.ofString "way", annotation := none,
                  pos := { line := 77, col := 17, endLine := 77, endCol := 20 } },
                { arg := Str.ofString "fields", annotation := none,
                  pos := { line := 77, col := 22, endLine := 77, endCol := 28 } },
                { arg := Str.ofString "mark", annotation := none,
                  pos := { line := 77, col := 30, endLine := 77, endCol := 34 } },
                { arg := Str.ofString "behind", annotation := none,
                  pos := { line := 77, col := 36, endLine := 77, endCol := 42 } }],
            vararg := none, kwonlyargs := [], kw_defaults := [], kwarg := none, defaults := [] },
        body := FuncBody.stmts (fb 22),
        scope :=
          { kind := ScopeKind.function,
            names :=
              [(Str.ofString "way", NameKind.local), (Str.ofString "fields", NameKind.local),
                (Str.ofString "mark", NameKind.local), (Str.ofString "behind", NameKind.local),
                (Str.ofString "_law_reply", NameKind.globalImplicit), (Str.ofString "len", NameKind.globalImplicit)],
            isGenerator := false, isCoroutine := false },
        globals := 3, closure := [], defaults := Value.none, kwdefaults := Value.none,
        pyModule := Value.str (Str.ofString "law_yh0002_01") 585, code := Value.ref 170 } }
noncomputable def q27_172 (P : Params) : Obj :=
{ cls := Value.type "tuple", data := Data.seq #[] }
noncomputable def q27_173 (P : Params) : Obj :=
{ cls := Value.none, data := Data.fields #[] }
noncomputable def q27_174 (P : Params) : Obj :=
{ cls := Value.type "tuple",
  data :=
    Data.seq
      #[Value.str (Str.ofString "place") 633, Value.str (Str.ofString "choice") 634, Value.str (Str.ofString "led") 635,
        Value.str (Str.ofString "rank") 636, Value.str (Str.ofString "steps") 637, Value.str (Str.ofString "top") 638,
        Value.str (Str.ofString "other") 639, Value.str (Str.ofString "road") 640] }
noncomputable def q27_175 (P : Params) : Obj :=
{ cls := Value.type "tuple", data := Data.seq #[] }
noncomputable def q27_176 (P : Params) : Obj :=
{ cls := Value.none,
  data :=
    Data.func
      { name := Str.ofString "_law_top", qualname := Str.ofString "_law_top",
        params :=
          { posonlyargs := [],
            args :=
              [{ arg := Str.ofString "place", annotation := none,
                  pos := { line := 89, col := 13, endLine := 89, endCol := 18 } },
                { arg := Str.ofString "choice", annotation := none,
                  pos := { line := 89, col := 20, endLine := 89, endCol := 26 } },
                { arg := Str.ofString "led", annotation := none,
                  pos := { line := 89, col := 28, endLine := 89, endCol := 31 } },
                { arg := Str.ofString "rank", annotation := none,
                  pos := { line := 89, col := 33, endLine := 89, endCol := 37 } }],
            vararg := none, kwonlyargs := [], kw_defaults := [], kwarg := none, defaults := [] },
        body := FuncBody.stmts (fb 23),
        scope :=
          { kind := ScopeKind.function,
            names :=
              [(Str.ofString "place", NameKind.local), (Str.ofString "choice", NameKind.local),
                (Str.ofString "led", NameKind.local), (Str.ofString "rank", NameKind.local),
                (Str.ofString "steps", NameKind.local), (Str.ofString "top", NameKind.local),
                (Str.ofString "other", NameKind.local), (Str.ofString "road", NameKind.local),
                (Str.ofString "range", NameKind.globalImplicit)],
            isGenerator := false, isCoroutine := false },
        globals := 0, closure := [], defaults := Value.none, kwdefaults := Value.none } }
noncomputable def q27_177 (P : Params) : Obj :=
{ cls := Value.type "code",
  data :=
    Data.fields
      #[Value.str (Str.ofString "_law_top") 630, Value.str (Str.ofString "_law_top") 631,
        Value.str (Str.ofString "/claim/cut.py") 632, Value.int 89 0, Value.int 4 0, Value.int 0 0, Value.int 0 0,
        Value.int 3 0, Value.ref 172, Value.bool true, Value.int 181 0, Value.ref 173, Value.none, Value.ref 174,
        Value.ref 175, Value.ref 176, Value.int 641 0, Value.int 89 0, Value.str (Str.ofString "/claim/cut.py") 642] }
noncomputable def q27_178 (P : Params) : Obj :=
{ cls := Value.type "function",
  data :=
    Data.func
      { name := Str.ofString "_law_top", qualname := Str.ofString "_law_top",
        params :=
          { posonlyargs := [],
            args :=
              [{ arg := Str.ofString "place", annotation := none,
                  pos := { line := 89, col := 13, endLine := 89, endCol := 18 } },
                { arg := Str.ofString "choice", annotation := none,
                  pos := { line := 89, col := 20, endLine := 89, endCol := 26 } },
                { arg := Str.ofString "led", annotation := none,
                  pos := { line := 89, col := 28, endLine := 89, endCol := 31 } },
                { arg := Str.ofString "rank", annotation := none,
                  pos := { line := 89, col := 33, endLine := 89, endCol := 37 } }],
            vararg := none, kwonlyargs := [], kw_defaults := [], kwarg := none, defaults := [] },
        body := FuncBody.stmts (fb 23),
        scope :=
          { kind := ScopeKind.function,
            names :=
              [(Str.ofString "place", NameKind.local), (Str.ofString "choice", NameKind.local),
                (Str.ofString "led", NameKind.local), (Str.ofString "rank", NameKind.local),
                (Str.ofString "steps", NameKind.local), (Str.ofString "top", NameKind.local),
                (Str.ofString "other", NameKind.local), (Str.ofString "road", NameKind.local),
                (Str.ofString "range", NameKind.globalImplicit)],
            isGenerator := false, isCoroutine := false },
        globals := 3, closure := [], defaults := Value.none, kwdefaults := Value.none,
        pyModule := Value.str (Str.ofString "law_yh0002_01") 585, code := Value.ref 177 } }
noncomputable def q27_179 (P : Params) : Obj :=
{ cls := Value.type "tuple", data := Data.seq #[] }
noncomputable def q27_180 (P : Params) : Obj :=
{ cls := Value.none, data := Data.fields #[] }
noncomputable def q27_181 (P : Params) : Obj :=
{ cls := Value.none,
  data :=
    Data.func
      { name := Str.ofString "_law_first", qualname := Str.ofString "_law_first",
        params :=
          { posonlyargs := [],
            args :=
              [{ arg := Str.ofString "place", annotation := none,
                  pos := { line := 100, col := 15, endLine := 100, endCol := 20 } },
                { arg := Str.ofString "walked", annotation := none,
                  pos := { line := 100, col := 22, endLine := 100, endCol := 28 } },
                { arg := Str.ofString "roads", annotation := none,
                  pos := { line := 100, col := 30, endLine := 100, endCol := 35 } },
                { arg := Str.ofString "owner", annotation := none,
                  pos := { line := 100, col := 37, endLine := 100, endCol := 42 } },
                { arg := Str.ofString "worth", annotation := none,
                  pos := { line := 100, col := 44, endLine := 100, endCol := 49 } }],
            vararg := none, kwonlyargs := [], kw_defaults := [], kwarg := none, defaults := [] },
        body := FuncBody.stmts (fb 24),
        scope :=
          { kind := ScopeKind.function,
            names :=
              [(Str.ofString "place", NameKind.local), (Str.ofString "walked", NameKind.local),
                (Str.ofString "roads", NameKind.cell), (Str.ofString "owner", NameKind.local),
                (Str.ofString "worth", NameKind.cell), (Str.ofString "hers", NameKind.local),
                (Str.ofString "road", NameKind.cell), (Str.ofString "way", NameKind.cell),
                (Str.ofString "again", NameKind.local), (Str.ofString "range", NameKind.globalImplicit),
                (Str.ofString "len", NameKind.globalImplicit), (Str.ofString "_law_first", NameKind.globalImplicit),
                (Str.ofString "max", NameKind.globalImplicit)],
            isGenerator := false, isCoroutine := false,
            more :=
              [(Str.ofString "fast", Const.str (Str.ofString "place")),
                (Str.ofString "fast", Const.str (Str.ofString "walked")),
                (Str.ofString "fast", Const.str (Str.ofString "roads")),
                (Str.ofString "fast", Const.str (Str.ofString "owner")),
                (Str.ofString "fast", Const.str (Str.ofString "worth")),
                (Str.ofString "fast", Const.str (Str.ofString "hers")),
                (Str.ofString "fast", Const.str (Str.ofString "road")),
                (Str.ofString "fast", Const.str (Str.ofString "way")),
                (Str.ofString "fast", Const.str (Str.ofString "k")),
                (Str.ofString "fast", Const.str (Str.ofString "again")),
                (Str.ofString "fast", Const.str (Str.ofString "one"))] },
        globals := 0, closure := [], defaults := Value.none, kwdefaults := Value.none } }
noncomputable def q27_182 (P : Params) : Obj :=
{ cls := Value.type "code",
  data :=
    Data.fields
      #[Value.str (Str.ofString "_law_first") 644, Value.str (Str.ofString "_law_first") 645,
        Value.str (Str.ofString "/claim/cut.py") 646, Value.int 100 0, Value.int 5 0, Value.int 0 0, Value.int 0 0,
        Value.int 3 0, Value.ref 179, Value.bool true, Value.int 181 0, Value.ref 180, Value.none, Value.none,
        Value.none, Value.ref 181, Value.int 647 0, Value.int 100 0, Value.str (Str.ofString "/claim/cut.py") 648] }
noncomputable def q27_183 (P : Params) : Obj :=
{ cls := Value.type "function",
  data :=
    Data.func
      { name := Str.ofString "_law_first", qualname := Str.ofString "_law_first",
        params :=
          { posonlyargs := [],
            args :=
              [{ arg := Str.ofString "place", annotation := none,
                  pos := { line := 100, col := 15, endLine := 100, endCol := 20 } },
                { arg := Str.ofString "walked", annotation := none,
                  pos := { line := 100, col := 22, endLine := 100, endCol := 28 } },
                { arg := Str.ofString "roads", annotation := none,
                  pos := { line := 100, col := 30, endLine := 100, endCol := 35 } },
                { arg := Str.ofString "owner", annotation := none,
                  pos := { line := 100, col := 37, endLine := 100, endCol := 42 } },
                { arg := Str.ofString "worth", annotation := none,
                  pos := { line := 100, col := 44, endLine := 100, endCol := 49 } }],
            vararg := none, kwonlyargs := [], kw_defaults := [], kwarg := none, defaults := [] },
        body := FuncBody.stmts (fb 24),
        scope :=
          { kind := ScopeKind.function,
            names :=
              [(Str.ofString "place", NameKind.local), (Str.ofString "walked", NameKind.local),
                (Str.ofString "roads", NameKind.cell), (Str.ofString "owner", NameKind.local),
                (Str.ofString "worth", NameKind.cell), (Str.ofString "hers", NameKind.local),
                (Str.ofString "road", NameKind.cell), (Str.ofString "way", NameKind.cell),
                (Str.ofString "again", NameKind.local), (Str.ofString "range", NameKind.globalImplicit),
                (Str.ofString "len", NameKind.globalImplicit), (Str.ofString "_law_first", NameKind.globalImplicit),
                (Str.ofString "max", NameKind.globalImplicit)],
            isGenerator := false, isCoroutine := false,
            more :=
              [(Str.ofString "fast", Const.str (Str.ofString "place")),
                (Str.ofString "fast", Const.str (Str.ofString "walked")),
                (Str.ofString "fast", Const.str (Str.ofString "roads")),
                (Str.ofString "fast", Const.str (Str.ofString "owner")),
                (Str.ofString "fast", Const.str (Str.ofString "worth")),
                (Str.ofString "fast", Const.str (Str.ofString "hers")),
                (Str.ofString "fast", Const.str (Str.ofString "road")),
                (Str.ofString "fast", Const.str (Str.ofString "way")),
                (Str.ofString "fast", Const.str (Str.ofString "k")),
                (Str.ofString "fast", Const.str (Str.ofString "again")),
                (Str.ofString "fast", Const.str (Str.ofString "one"))] },
        globals := 3, closure := [], defaults := Value.none, kwdefaults := Value.none,
        pyModule := Value.str (Str.ofString "law_yh0002_01") 585, code := Value.ref 182 } }
noncomputable def q27_184 (P : Params) : Obj :=
{ cls := Value.type "tuple", data := Data.seq #[] }
noncomputable def q27_185 (P : Params) : Obj :=
{ cls := Value.none, data := Data.fields #[] }
noncomputable def q27_186 (P : Params) : Obj :=
{ cls := Value.type "tuple",
  data :=
    Data.seq
      #[Value.str (Str.ofString "won") 653, Value.str (Str.ofString "mine") 654, Value.str (Str.ofString "sure") 655,
        Value.str (Str.ofString "part") 656, Value.str (Str.ofString "held") 657,
        Value.str (Str.ofString "choice") 658] }
noncomputable def q27_187 (P : Params) : Obj :=
{ cls := Value.type "tuple", data := Data.seq #[] }
noncomputable def q27_188 (P : Params) : Obj :=
{ cls := Value.none,
  data :=
    Data.func
      { name := Str.ofString "_law_sure", qualname := Str.ofString "_law_sure",
        params :=
          { posonlyargs := [],
            args :=
              [{ arg := Str.ofString "won", annotation := none,
                  pos := { line := 110, col := 14, endLine := 110, endCol := 17 } },
                { arg := Str.ofString "mine", annotation := none,
                  pos := { line := 110, col := 19, endLine := 110, endCol := 23 } }],
            vararg := none, kwonlyargs := [], kw_defaults := [], kwarg := none, defaults := [] },
        body := FuncBody.stmts (fb 25),
        scope :=
          { kind := ScopeKind.function,
            names :=
              [(Str.ofString "won", NameKind.local), (Str.ofString "mine", NameKind.local),
                (Str.ofString "sure", NameKind.local), (Str.ofString "part", NameKind.local),
                (Str.ofString "held", NameKind.local), (Str.ofString "choice", NameKind.local),
                (Str.ofString "range", NameKind.globalImplicit)],
            isGenerator := false, isCoroutine := false },
        globals := 0, closure := [], defaults := Value.none, kwdefaults := Value.none } }
noncomputable def q27_189 (P : Params) : Obj :=
{ cls := Value.type "code",
  data :=
    Data.fields
      #[Value.str (Str.ofString "_law_sure") 650, Value.str (Str.ofString "_law_sure") 651,
        Value.str (Str.ofString "/claim/cut.py") 652, Value.int 110 0, Value.int 2 0, Value.int 0 0, Value.int 0 0,
        Value.int 3 0, Value.ref 184, Value.bool true, Value.int 181 0, Value.ref 185, Value.none, Value.ref 186,
        Value.ref 187, Value.ref 188, Value.int 659 0, Value.int 110 0, Value.str (Str.ofString "/claim/cut.py") 660] }
noncomputable def q27_190 (P : Params) : Obj :=
{ cls := Value.type "function",
  data :=
    Data.func
      { name := Str.ofString "_law_sure", qualname := Str.ofString "_law_sure",
        params :=
          { posonlyargs := [],
            args :=
              [{ arg := Str.ofString "won", annotation := none,
                  pos := { line := 110, col := 14, endLine := 110, endCol := 17 } },
                { arg := Str.ofString "mine", annotation := none,
                  pos := { line := 110, col := 19, endLine := 110, endCol := 23 } }],
            vararg := none, kwonlyargs := [], kw_defaults := [], kwarg := none, defaults := [] },
        body := FuncBody.stmts (fb 25),
        scope :=
          { kind := ScopeKind.function,
            names :=
              [(Str.ofString "won", NameKind.local), (Str.ofString "mine", NameKind.local),
                (Str.ofString "sure", NameKind.local), (Str.ofString "part", NameKind.local),
                (Str.ofString "held", NameKind.local), (Str.ofString "choice", NameKind.local),
                (Str.ofString "range", NameKind.globalImplicit)],
            isGenerator := false, isCoroutine := false },
        globals := 3, closure := [], defaults := Value.none, kwdefaults := Value.none,
        pyModule := Value.str (Str.ofString "law_yh0002_01") 585, code := Value.ref 189 } }
noncomputable def q27_191 (P : Params) : Obj :=
{ cls := Value.type "tuple", data := Data.seq #[] }
noncomputable def q27_192 (P : Params) : Obj :=
{ cls := Value.none, data := Data.fields #[] }
noncomputable def q27_193 (P : Params) : Obj :=
{ cls := Value.none,
  data :=
    Data.func
      { name := Str.ofString "law", qualname := Str.ofString "law",
        params :=
          { posonlyargs := [],
            args :=
              [{ arg := Str.ofString "script", annotation := none,
                  pos := { line := 120, col := 8, endLine := 120, endCol := 14 } }],
            vararg := none, kwonlyargs := [], kw_defaults := [], kwarg := none, defaults := [] },
        body := FuncBody.stmts (fb 26),
        scope :=
          { kind := ScopeKind.function,
            names :=
              [(Str.ofString "script", NameKind.local), (Str.ofString "cells", NameKind.cell),
                (Str.ofString "k", NameKind.cell), (Str.ofString "roads", NameKind.cell),
                (Str.ofString "owner", NameKind.cell), (Str.ofString "beside", NameKind.local),
                (Str.ofString "right", NameKind.local), (Str.ofString "codes", NameKind.cell),
                (Str.ofString "labels", NameKind.local), (Str.ofString "led", NameKind.cell),
                (Str.ofString "tables", NameKind.cell), (Str.ofString "part", NameKind.local),
                (Str.ofString "figure", NameKind.local), (Str.ofString "label", NameKind.local),
                (Str.ofString "port", NameKind.local), (Str.ofString "fields", NameKind.local),
                (Str.ofString "mark", NameKind.local), (Str.ofString "behind", NameKind.local),
                (Str.ofString "told", NameKind.local), (Str.ofString "way", NameKind.local),
                (Str.ofString "reply", NameKind.local), (Str.ofString "rank", NameKind.cell),
                (Str.ofString "less", NameKind.local), (Str.ofString "j", NameKind.local),
                (Str.ofString "order", NameKind.local), (Str.ofString "won", NameKind.local),
                (Str.ofString "choice", NameKind.cell), (Str.ofString "places", NameKind.local),
                (Str.ofString "worth", NameKind.cell), (Str.ofString "due", NameKind.local),
                (Str.ofString "range", NameKind.globalImplicit), (Str.ofString "len", NameKind.globalImplicit),
                (Str.ofString "_law_sign", NameKind.globalImplicit), (Str.ofString "str", NameKind.globalImplicit),
                (Str.ofString "parse229", NameKind.globalImplicit),
                (Str.ofString "_law_reply", NameKind.globalImplicit),
                (Str.ofString "_law_table", NameKind.globalImplicit), (Str.ofString "type", NameKind.globalImplicit),
                (Str.ofString "int", NameKind.globalImplicit), (Str.ofString "_law_spoiled", NameKind.globalImplicit),
                (Str.ofString "_law_refused", NameKind.globalImplicit),
                (Str.ofString "_strcoll", NameKind.globalImplicit), (Str.ofString "sum", NameKind.globalImplicit),
                (Str.ofString "_law_sure", NameKind.globalImplicit)],
            isGenerator := false, isCoroutine := false,
            more :=
              [(Str.ofString "fast", Const.str (Str.ofString "script")),
                (Str.ofString "fast", Const.str (Str.ofString "cells")),
                (Str.ofString "fast", Const.str (Str.ofString "k")),
                (Str.ofString "fast", Const.str (Str.ofString "roads")),
                (Str.ofString "fast", Const.str (Str.ofString "owner")),
                (Str.ofString "fast", Const.str (Str.ofString "beside")),
                (Str.ofString "fast", Const.str (Str.ofString "code")),
                (Str.ofString "fast", Const.str (Str.ofString "right")),
                (Str.ofString "fast", Const.str (Str.ofString "codes")),
                (Str.ofString "fast", Const.str (Str.ofString "labels")),
                (Str.ofString "fast", Const.str (Str.ofString "led")),
                (Str.ofString "fast", Const.str (Str.ofString "tables")),
                (Str.ofString "fast", Const.str (Str.ofString "part")),
                (Str.ofString "fast", Const.str (Str.ofString "figure")),
                (Str.ofString "fast", Const.str (Str.ofString "label")),
                (Str.ofString "fast", Const.str (Str.ofString "port")),
                (Str.ofString "fast", Const.str (Str.ofString "fields")),
                (Str.ofString "fast", Const.str (Str.ofString "mark")),
                (Str.ofString "fast", Const.str (Str.ofString "behind")),
                (Str.ofString "fast", Const.str (Str.ofString "told")),
                (Str.ofString "fast", Const.str (Str.ofString "sign")),
                (Str.ofString "fast", Const.str (Str.ofString "way")),
                (Str.ofString "fast", Const.str (Str.ofString "reply")),
                (Str.ofString "fast", Const.str (Str.ofString "rank")),
                (Str.ofString "fast", Const.str (Str.ofString "less")),
                (Str.ofString "fast", Const.str (Str.ofString "j")),
                (Str.ofString "fast", Const.str (Str.ofString "order")),
                (Str.ofString "fast", Const.str (Str.ofString "won")),
                (Str.ofString "fast", Const.str (Str.ofString "choice")),
                (Str.ofString "fast", Const.str (Str.ofString "place")),
                (Str.ofString "fast", Const.str (Str.ofString "places")),
                (Str.ofString "fast", Const.str (Str.ofString "worth")),
                (Str.ofString "fast", Const.str (Str.ofString "one")),
                (Str.ofString "fast", Const.str (Str.ofString "due"))] },
        globals := 0, closure := [], defaults := Value.none, kwdefaults := Value.none } }
noncomputable def q27_194 (P : Params) : Obj :=
{ cls := Value.type "code",
  data :=
    Data.fields
      #[Value.str (Str.ofString "law") 662, Value.str (Str.ofString "law") 663,
        Value.str (Str.ofString "/claim/cut.py") 664, Value.int 120 0, Value.int 1 0, Value.int 0 0, Value.int 0 0,
        Value.int 3 0, Value.ref 191, Value.bool true, Value.int 181 0, Value.ref 192, Value.none, Value.none,
        Value.none, Value.ref 193, Value.int 665 0, Value.int 120 0, Value.str (Str.ofString "/claim/cut.py") 666] }
noncomputable def q27_195 (P : Params) : Obj :=
{ cls := Value.type "function",
  data :=
    Data.func
      { name := Str.ofString "law", qualname := Str.ofString "law",
        params :=
          { posonlyargs := [],
            args :=
              [{ arg := Str.ofString "script", annotation := none,
                  pos := { line := 120, col := 8, endLine := 120, endCol := 14 } }],
            vararg := none, kwonlyargs := [], kw_defaults := [], kwarg := none, defaults := [] },
        body := FuncBody.stmts (fb 26),
        scope :=
          { kind := ScopeKind.function,
            names :=
              [(Str.ofString "script", NameKind.local), (Str.ofString "cells", NameKind.cell),
                (Str.ofString "k", NameKind.cell), (Str.ofString "roads", NameKind.cell),
                (Str.ofString "owner", NameKind.cell), (Str.ofString "beside", NameKind.local),
                (Str.ofString "right", NameKind.local), (Str.ofString "codes", NameKind.cell),
                (Str.ofString "labels", NameKind.local), (Str.ofString "led", NameKind.cell),
                (Str.ofString "tables", NameKind.cell), (Str.ofString "part", NameKind.local),
                (Str.ofString "figure", NameKind.local), (Str.ofString "label", NameKind.local),
                (Str.ofString "port", NameKind.local), (Str.ofString "fields", NameKind.local),
                (Str.ofString "mark", NameKind.local), (Str.ofString "behind", NameKind.local),
                (Str.ofString "told", NameKind.local), (Str.ofString "way", NameKind.local),
                (Str.ofString "reply", NameKind.local), (Str.ofString "rank", NameKind.cell),
                (Str.ofString "less", NameKind.local), (Str.ofString "j", NameKind.local),
                (Str.ofString "order", NameKind.local), (Str.ofString "won", NameKind.local),
                (Str.ofString "choice", NameKind.cell), (Str.ofString "places", NameKind.local),
                (Str.ofString "worth", NameKind.cell), (Str.ofString "due", NameKind.local),
                (Str.ofString "range", NameKind.globalImplicit), (Str.ofString "len", NameKind.globalImplicit),
                (Str.ofString "_law_sign", NameKind.globalImplicit), (Str.ofString "str", NameKind.globalImplicit),
                (Str.ofString "parse229", NameKind.globalImplicit),
                (Str.ofString "_law_reply", NameKind.globalImplicit),
                (Str.ofString "_law_table", NameKind.globalImplicit), (Str.ofString "type", NameKind.globalImplicit),
                (Str.ofString "int", NameKind.globalImplicit), (Str.ofString "_law_spoiled", NameKind.globalImplicit),
                (Str.ofString "_law_refused", NameKind.globalImplicit),
                (Str.ofString "_strcoll", NameKind.globalImplicit), (Str.ofString "sum", NameKind.globalImplicit),
                (Str.ofString "_law_sure", NameKind.globalImplicit)],
            isGenerator := false, isCoroutine := false,
            more :=
              [(Str.ofString "fast", Const.str (Str.ofString "script")),
                (Str.ofString "fast", Const.str (Str.ofString "cells")),
                (Str.ofString "fast", Const.str (Str.ofString "k")),
                (Str.ofString "fast", Const.str (Str.ofString "roads")),
                (Str.ofString "fast", Const.str (Str.ofString "owner")),
                (Str.ofString "fast", Const.str (Str.ofString "beside")),
                (Str.ofString "fast", Const.str (Str.ofString "code")),
                (Str.ofString "fast", Const.str (Str.ofString "right")),
                (Str.ofString "fast", Const.str (Str.ofString "codes")),
                (Str.ofString "fast", Const.str (Str.ofString "labels")),
                (Str.ofString "fast", Const.str (Str.ofString "led")),
                (Str.ofString "fast", Const.str (Str.ofString "tables")),
                (Str.ofString "fast", Const.str (Str.ofString "part")),
                (Str.ofString "fast", Const.str (Str.ofString "figure")),
                (Str.ofString "fast", Const.str (Str.ofString "label")),
                (Str.ofString "fast", Const.str (Str.ofString "port")),
                (Str.ofString "fast", Const.str (Str.ofString "fields")),
                (Str.ofString "fast", Const.str (Str.ofString "mark")),
                (Str.ofString "fast", Const.str (Str.ofString "behind")),
                (Str.ofString "fast", Const.str (Str.ofString "told")),
                (Str.ofString "fast", Const.str (Str.ofString "sign")),
                (Str.ofString "fast", Const.str (Str.ofString "way")),
                (Str.ofString "fast", Const.str (Str.ofString "reply")),
                (Str.ofString "fast", Const.str (Str.ofString "rank")),
                (Str.ofString "fast", Const.str (Str.ofString "less")),
                (Str.ofString "fast", Const.str (Str.ofString "j")),
                (Str.ofString "fast", Const.str (Str.ofString "order")),
                (Str.ofString "fast", Const.str (Str.ofString "won")),
                (Str.ofString "fast", Const.str (Str.ofString "choice")),
                (Str.ofString "fast", Const.str (Str.ofString "place")),
                (Str.ofString "fast", Const.str (Str.ofString "places")),
                (Str.ofString "fast", Const.str (Str.ofString "worth")),
                (Str.ofString "fast", Const.str (Str.ofString "one")),
                (Str.ofString "fast", Const.str (Str.ofString "due"))] },
        globals := 3, closure := [], defaults := Value.none, kwdefaults := Value.none,
        pyModule := Value.str (Str.ofString "law_yh0002_01") 585, code := Value.ref 194 } }
noncomputable def L27 (P : Params) : List Obj := [boot_o_0 P, boot_o_1 P, q14_2 P, q27_3 P, boot_o_4 P, boot_o_5 P, boot_o_6 P, boot_o_7 P, boot_o_8 P, boot_o_9 P, boot_o_10 P, q0_11 P, q27_12 P, q0_13 P, q0_14 P, q3_15 P, q3_16 P, q3_17 P, q3_18 P, q3_19 P, q3_20 P, q3_21 P, q3_22 P, q3_23 P, q3_24 P, q3_25 P, q3_26 P, q8_27 P, q8_28 P, q8_29 P, q8_30 P, q8_31 P, q8_32 P, q8_33 P, q8_34 P, q8_35 P, q8_36 P, q8_37 P, q8_38 P, q8_39 P, q8_40 P, q8_41 P, q8_42 P, q8_43 P, q8_44 P, q8_45 P, q8_46 P, q8_47 P, q8_48 P, q8_49 P, q8_50 P, q8_51 P, q8_52 P, q8_53 P, q8_54 P, q8_55 P, q8_56 P, q8_57 P, q8_58 P, q8_59 P, q8_60 P, q8_61 P, q8_62 P, q8_63 P, q8_64 P, q8_65 P, q8_66 P, q8_67 P, q8_68 P, q8_69 P, q9_70 P, q9_71 P, q9_72 P, q9_73 P, q9_74 P, q9_75 P, q9_76 P, q9_77 P, q9_78 P, q9_79 P, q9_80 P, q10_81 P, q10_82 P, q10_83 P, q10_84 P, q10_85 P, q10_86 P, q10_87 P, q14_88 P, q14_89 P, q14_90 P, q14_91 P, q14_92 P, q14_93 P, q14_94 P, q14_95 P, q14_96 P, q14_97 P, q14_98 P, q14_99 P, q14_100 P, q14_101 P, q14_102 P, q14_103 P, q14_104 P, q14_105 P, q14_106 P, q14_107 P, q14_108 P, q14_109 P, q14_110 P, q14_111 P, q14_112 P, q14_113 P, q14_114 P, q14_115 P, q14_116 P, q14_117 P, q14_118 P, q14_119 P, q14_120 P, q14_121 P, q14_122 P, q14_123 P, q14_124 P, q27_125 P, q27_126 P, q27_127 P, q27_128 P, q27_129 P, q27_130 P, q27_131 P, q27_132 P, q27_133 P, q27_134 P, q27_135 P, q27_136 P, q27_137 P, q27_138 P, q27_139 P, q27_140 P, q27_141 P, q27_142 P, q27_143 P, q27_144 P, q27_145 P, q27_146 P, q27_147 P, q27_148 P, q27_149 P, q27_150 P, q27_151 P, q27_152 P, q27_153 P, q27_154 P, q27_155 P, q27_156 P, q27_157 P, q27_158 P, q27_159 P, q27_160 P, q27_161 P, q27_162 P, q27_163 P, q27_164 P, q27_165 P, q27_166 P, q27_167 P, q27_168 P, q27_169 P, q27_170 P, q27_171 P, q27_172 P, q27_173 P, q27_174 P, q27_175 P, q27_176 P, q27_177 P, q27_178 P, q27_179 P, q27_180 P, q27_181 P, q27_182 P, q27_183 P, q27_184 P, q27_185 P, q27_186 P, q27_187 P, q27_188 P, q27_189 P, q27_190 P, q27_191 P, q27_192 P, q27_193 P, q27_194 P, q27_195 P]
noncomputable def n27 : Nat := 196
noncomputable def k27 : Nat := 668
noncomputable def p27 : Pos := { line := 120, col := 0, endLine := 172, endCol := 114 }
-- drawn { } life { } gens 0
-- pre steps 12; steps [9, 30, 199, 29, 360, 29, 774, 29, 3750, 29, 9, 196, 213, 213, 35, 9, 30, 9, 30, 26, 32, 31, 32, 36, 26, 34, 26]
end
end
-- KHead
noncomputable section
open PySem PySem.W PyProof.Rows
set_option Elab.async false
set_option maxRecDepth 100000
set_option maxHeartbeats 0
set_option linter.unusedVariables false
noncomputable section
noncomputable def r21 (P : Params) : Obj := by
  refine (fun (o : Obj) (_ : q3_21 P = o) => o) ?b ?h
  case h =>
    dsimp only [q3_21, fb, pw, PySem.Challenge.pw_yh0002_01, List.getElem?_cons_succ, List.getElem?_cons_zero]
    exact rfl
noncomputable def r33 (P : Params) : Obj := by
  refine (fun (o : Obj) (_ : q8_33 P = o) => o) ?b ?h
  case h =>
    dsimp only [q8_33, fb, pw, PySem.Challenge.pw_yh0002_01, List.getElem?_cons_succ, List.getElem?_cons_zero]
    exact rfl
noncomputable def r45 (P : Params) : Obj := by
  refine (fun (o : Obj) (_ : q8_45 P = o) => o) ?b ?h
  case h =>
    dsimp only [q8_45, fb, pw, PySem.Challenge.pw_yh0002_01, List.getElem?_cons_succ, List.getElem?_cons_zero]
    exact rfl
noncomputable def r69 (P : Params) : Obj := by
  refine (fun (o : Obj) (_ : q8_69 P = o) => o) ?b ?h
  case h =>
    dsimp only [q8_69, fb, pw, PySem.Challenge.pw_yh0002_01, List.getElem?_cons_succ, List.getElem?_cons_zero]
    exact rfl
noncomputable def r87 (P : Params) : Obj := by
  refine (fun (o : Obj) (_ : q10_87 P = o) => o) ?b ?h
  case h =>
    dsimp only [q10_87, fb, pw, PySem.Challenge.pw_yh0002_01, List.getElem?_cons_succ, List.getElem?_cons_zero]
    exact rfl
noncomputable def r131 (P : Params) : Obj := by
  refine (fun (o : Obj) (_ : q27_131 P = o) => o) ?b ?h
  case h =>
    dsimp only [q27_131, fb, pw, PySem.Challenge.pw_yh0002_01, List.getElem?_cons_succ, List.getElem?_cons_zero]
    exact rfl
noncomputable def r138 (P : Params) : Obj := by
  refine (fun (o : Obj) (_ : q27_138 P = o) => o) ?b ?h
  case h =>
    dsimp only [q27_138, fb, pw, PySem.Challenge.pw_yh0002_01, List.getElem?_cons_succ, List.getElem?_cons_zero]
    exact rfl
noncomputable def r145 (P : Params) : Obj := by
  refine (fun (o : Obj) (_ : q27_145 P = o) => o) ?b ?h
  case h =>
    dsimp only [q27_145, fb, pw, PySem.Challenge.pw_yh0002_01, List.getElem?_cons_succ, List.getElem?_cons_zero]
    exact rfl
noncomputable def r150 (P : Params) : Obj := by
  refine (fun (o : Obj) (_ : q27_150 P = o) => o) ?b ?h
  case h =>
    dsimp only [q27_150, fb, pw, PySem.Challenge.pw_yh0002_01, List.getElem?_cons_succ, List.getElem?_cons_zero]
    exact rfl
noncomputable def r157 (P : Params) : Obj := by
  refine (fun (o : Obj) (_ : q27_157 P = o) => o) ?b ?h
  case h =>
    dsimp only [q27_157, fb, pw, PySem.Challenge.pw_yh0002_01, List.getElem?_cons_succ, List.getElem?_cons_zero]
    exact rfl
noncomputable def r164 (P : Params) : Obj := by
  refine (fun (o : Obj) (_ : q27_164 P = o) => o) ?b ?h
  case h =>
    dsimp only [q27_164, fb, pw, PySem.Challenge.pw_yh0002_01, List.getElem?_cons_succ, List.getElem?_cons_zero]
    exact rfl
noncomputable def r171 (P : Params) : Obj := by
  refine (fun (o : Obj) (_ : q27_171 P = o) => o) ?b ?h
  case h =>
    dsimp only [q27_171, fb, pw, PySem.Challenge.pw_yh0002_01, List.getElem?_cons_succ, List.getElem?_cons_zero]
    exact rfl
noncomputable def r178 (P : Params) : Obj := by
  refine (fun (o : Obj) (_ : q27_178 P = o) => o) ?b ?h
  case h =>
    dsimp only [q27_178, fb, pw, PySem.Challenge.pw_yh0002_01, List.getElem?_cons_succ, List.getElem?_cons_zero]
    exact rfl
noncomputable def r183 (P : Params) : Obj := by
  refine (fun (o : Obj) (_ : q27_183 P = o) => o) ?b ?h
  case h =>
    dsimp only [q27_183, fb, pw, PySem.Challenge.pw_yh0002_01, List.getElem?_cons_succ, List.getElem?_cons_zero]
    exact rfl
noncomputable def r190 (P : Params) : Obj := by
  refine (fun (o : Obj) (_ : q27_190 P = o) => o) ?b ?h
  case h =>
    dsimp only [q27_190, fb, pw, PySem.Challenge.pw_yh0002_01, List.getElem?_cons_succ, List.getElem?_cons_zero]
    exact rfl
noncomputable def r195 (P : Params) : Obj := by
  refine (fun (o : Obj) (_ : q27_195 P = o) => o) ?b ?h
  case h =>
    dsimp only [q27_195, fb, pw, PySem.Challenge.pw_yh0002_01, List.getElem?_cons_succ, List.getElem?_cons_zero]
    exact rfl
noncomputable def KF (P : Params) : Frag := (nat_lit 2, q14_2 P) :: (nat_lit 3, q27_3 P) :: (nat_lit 15, q3_15 P) :: (nat_lit 17, q3_17 P) :: (nat_lit 18, q3_18 P) :: (nat_lit 20, q3_20 P) :: (nat_lit 21, r21 P) :: (nat_lit 23, q3_23 P) :: (nat_lit 27, q8_27 P) :: (nat_lit 29, q8_29 P) :: (nat_lit 30, q8_30 P) :: (nat_lit 32, q8_32 P) :: (nat_lit 33, r33 P) :: (nat_lit 35, q8_35 P) :: (nat_lit 39, q8_39 P) :: (nat_lit 41, q8_41 P) :: (nat_lit 42, q8_42 P) :: (nat_lit 44, q8_44 P) :: (nat_lit 45, r45 P) :: (nat_lit 59, q8_59 P) :: (nat_lit 63, q8_63 P) :: (nat_lit 65, q8_65 P) :: (nat_lit 66, q8_66 P) :: (nat_lit 68, q8_68 P) :: (nat_lit 69, r69 P) :: (nat_lit 77, q9_77 P) :: (nat_lit 81, q10_81 P) :: (nat_lit 83, q10_83 P) :: (nat_lit 84, q10_84 P) :: (nat_lit 86, q10_86 P) :: (nat_lit 87, r87 P) :: (nat_lit 88, q14_88 P) :: (nat_lit 95, q14_95 P) :: (nat_lit 96, q14_96 P) :: (nat_lit 97, q14_97 P) :: (nat_lit 98, q14_98 P) :: (nat_lit 101, q14_101 P) :: (nat_lit 108, q14_108 P) :: (nat_lit 109, q14_109 P) :: (nat_lit 110, q14_110 P) :: (nat_lit 113, q14_113 P) :: (nat_lit 120, q14_120 P) :: (nat_lit 121, q14_121 P) :: (nat_lit 122, q14_122 P) :: (nat_lit 125, q27_125 P) :: (nat_lit 127, q27_127 P) :: (nat_lit 128, q27_128 P) :: (nat_lit 130, q27_130 P) :: (nat_lit 131, r131 P) :: (nat_lit 132, q27_132 P) :: (nat_lit 134, q27_134 P) :: (nat_lit 135, q27_135 P) :: (nat_lit 137, q27_137 P) :: (nat_lit 138, r138 P) :: (nat_lit 139, q27_139 P) :: (nat_lit 141, q27_141 P) :: (nat_lit 142, q27_142 P) :: (nat_lit 144, q27_144 P) :: (nat_lit 145, r145 P) :: (nat_lit 146, q27_146 P) :: (nat_lit 149, q27_149 P) :: (nat_lit 150, r150 P) :: (nat_lit 151, q27_151 P) :: (nat_lit 153, q27_153 P) :: (nat_lit 154, q27_154 P) :: (nat_lit 156, q27_156 P) :: (nat_lit 157, r157 P) :: (nat_lit 158, q27_158 P) :: (nat_lit 160, q27_160 P) :: (nat_lit 161, q27_161 P) :: (nat_lit 163, q27_163 P) :: (nat_lit 164, r164 P) :: (nat_lit 165, q27_165 P) :: (nat_lit 167, q27_167 P) :: (nat_lit 168, q27_168 P) :: (nat_lit 170, q27_170 P) :: (nat_lit 171, r171 P) :: (nat_lit 172, q27_172 P) :: (nat_lit 174, q27_174 P) :: (nat_lit 175, q27_175 P) :: (nat_lit 177, q27_177 P) :: (nat_lit 178, r178 P) :: (nat_lit 179, q27_179 P) :: (nat_lit 182, q27_182 P) :: (nat_lit 183, r183 P) :: (nat_lit 184, q27_184 P) :: (nat_lit 186, q27_186 P) :: (nat_lit 187, q27_187 P) :: (nat_lit 189, q27_189 P) :: (nat_lit 190, r190 P) :: (nat_lit 191, q27_191 P) :: (nat_lit 194, q27_194 P) :: (nat_lit 195, r195 P) :: []
noncomputable def KA : List Addr := 2 :: 3 :: 15 :: 17 :: 18 :: 20 :: 21 :: 23 :: 27 :: 29 :: 30 :: 32 :: 33 :: 35 :: 39 :: 41 :: 42 :: 44 :: 45 :: 59 :: 63 :: 65 :: 66 :: 68 :: 69 :: 77 :: 81 :: 83 :: 84 :: 86 :: 87 :: 88 :: 95 :: 96 :: 97 :: 98 :: 101 :: 108 :: 109 :: 110 :: 113 :: 120 :: 121 :: 122 :: 125 :: 127 :: 128 :: 130 :: 131 :: 132 :: 134 :: 135 :: 137 :: 138 :: 139 :: 141 :: 142 :: 144 :: 145 :: 146 :: 149 :: 150 :: 151 :: 153 :: 154 :: 156 :: 157 :: 158 :: 160 :: 161 :: 163 :: 164 :: 165 :: 167 :: 168 :: 170 :: 171 :: 172 :: 174 :: 175 :: 177 :: 178 :: 179 :: 182 :: 183 :: 184 :: 186 :: 187 :: 189 :: 190 :: 191 :: 194 :: 195 :: []
noncomputable def vw : Program := by
  refine (fun (K : Program) (_ : view pw [0,1,3,5,7,9,10,11,12,13,14,15,16,17,18,19,20,21,22,23,24,25,26] = K) => K) ?b ?h
  case h =>
    dsimp only [view, pw, PySem.Challenge.pw_yh0002_01, List.filterMap_cons, List.filterMap_nil, List.getElem?_cons_succ, List.getElem?_cons_zero]
    exact rfl
noncomputable def loo : List PySem.Str := [PySem.Str.ofString "c6_set", PySem.Str.ofString "c7_set", PySem.Str.ofString "c8_set", PySem.Str.ofString "c9_set"]
noncomputable def HK : Hook := kHook KF KA (fun _ => by kernel_rfl)
end
end
-- KLawD
noncomputable section
open PySem PySem.W PyProof.Rows
set_option Elab.async false
set_option maxRecDepth 100000
set_option maxHeartbeats 0
set_option linter.unusedVariables false
noncomputable section
noncomputable def fsc (k : Nat) : Scope := match pw.main.body[k]? with | some (.FunctionDef _ _ _ _ _ _ sc _ _ _) => sc | _ => default
noncomputable def lawSc : Scope := by
  refine (fun (o : Scope) (_ : fsc 26 = o) => o) ?b ?h
  case h =>
    dsimp only [fsc, pw, PySem.Challenge.pw_yh0002_01, List.getElem?_cons_succ, List.getElem?_cons_zero]
    exact rfl
noncomputable def lawA : List Stmt := by
  refine (fun (o : List Stmt) (_ : ((fb 26).drop 0).take 2 = o) => o) ?b ?h
  case h =>
    dsimp only [fb, pw, PySem.Challenge.pw_yh0002_01, List.getElem?_cons_succ, List.getElem?_cons_zero, List.drop, List.take]
    exact rfl
noncomputable def lawB : List Stmt := by
  refine (fun (o : List Stmt) (_ : ((fb 26).drop 2).take 2 = o) => o) ?b ?h
  case h =>
    dsimp only [fb, pw, PySem.Challenge.pw_yh0002_01, List.getElem?_cons_succ, List.getElem?_cons_zero, List.drop, List.take]
    exact rfl
noncomputable def lawC : List Stmt := by
  refine (fun (o : List Stmt) (_ : ((fb 26).drop 4).take 3 = o) => o) ?b ?h
  case h =>
    dsimp only [fb, pw, PySem.Challenge.pw_yh0002_01, List.getElem?_cons_succ, List.getElem?_cons_zero, List.drop, List.take]
    exact rfl
noncomputable def lawD : List Stmt := by
  refine (fun (o : List Stmt) (_ : ((fb 26).drop 7).take 4 = o) => o) ?b ?h
  case h =>
    dsimp only [fb, pw, PySem.Challenge.pw_yh0002_01, List.getElem?_cons_succ, List.getElem?_cons_zero, List.drop, List.take]
    exact rfl
noncomputable def lawE : List Stmt := by
  refine (fun (o : List Stmt) (_ : ((fb 26).drop 11).take 1 = o) => o) ?b ?h
  case h =>
    dsimp only [fb, pw, PySem.Challenge.pw_yh0002_01, List.getElem?_cons_succ, List.getElem?_cons_zero, List.drop, List.take]
    exact rfl
noncomputable def lawF : List Stmt := by
  refine (fun (o : List Stmt) (_ : ((fb 26).drop 12).take 2 = o) => o) ?b ?h
  case h =>
    dsimp only [fb, pw, PySem.Challenge.pw_yh0002_01, List.getElem?_cons_succ, List.getElem?_cons_zero, List.drop, List.take]
    exact rfl
noncomputable def lawG : List Stmt := by
  refine (fun (o : List Stmt) (_ : ((fb 26).drop 14).take 2 = o) => o) ?b ?h
  case h =>
    dsimp only [fb, pw, PySem.Challenge.pw_yh0002_01, List.getElem?_cons_succ, List.getElem?_cons_zero, List.drop, List.take]
    exact rfl
noncomputable def lawH : List Stmt := by
  refine (fun (o : List Stmt) (_ : ((fb 26).drop 16).take 2 = o) => o) ?b ?h
  case h =>
    dsimp only [fb, pw, PySem.Challenge.pw_yh0002_01, List.getElem?_cons_succ, List.getElem?_cons_zero, List.drop, List.take]
    exact rfl
noncomputable def lawI : List Stmt := by
  refine (fun (o : List Stmt) (_ : ((fb 26).drop 18).take 2 = o) => o) ?b ?h
  case h =>
    dsimp only [fb, pw, PySem.Challenge.pw_yh0002_01, List.getElem?_cons_succ, List.getElem?_cons_zero, List.drop, List.take]
    exact rfl
noncomputable def forB (l : List Stmt) : List Stmt := match l with | [.For _ _ b _ _] => b | [_, .For _ _ b _ _] => b | _ => []
noncomputable def lawEa : List Stmt := by
  refine (fun (o : List Stmt) (_ : ((forB lawE).drop 0).take 3 = o) => o) ?b ?h
  case h =>
    dsimp only [forB, lawE, List.drop, List.take]
    exact rfl
noncomputable def lawEb : List Stmt := by
  refine (fun (o : List Stmt) (_ : ((forB lawE).drop 3).take 4 = o) => o) ?b ?h
  case h =>
    dsimp only [forB, lawE, List.drop, List.take]
    exact rfl
noncomputable def lawEc : List Stmt := by
  refine (fun (o : List Stmt) (_ : ((forB lawE).drop 7).take 5 = o) => o) ?b ?h
  case h =>
    dsimp only [forB, lawE, List.drop, List.take]
    exact rfl
noncomputable def lawEd : List Stmt := by
  refine (fun (o : List Stmt) (_ : ((forB lawE).drop 12).take 1 = o) => o) ?b ?h
  case h =>
    dsimp only [forB, lawE, List.drop, List.take]
    exact rfl
noncomputable def lawEe : List Stmt := by
  refine (fun (o : List Stmt) (_ : ((forB lawE).drop 13).take 3 = o) => o) ?b ?h
  case h =>
    dsimp only [forB, lawE, List.drop, List.take]
    exact rfl
theorem lawE_parts : forB lawE = lawEa ++ (lawEb ++ (lawEc ++ (lawEd ++ lawEe))) := by kernel_rfl
theorem law_parts : fb 26 = lawA ++ (lawB ++ (lawC ++ (lawD ++ (lawE ++ (lawF ++ (lawG ++ (lawH ++ lawI))))))) := by kernel_rfl
end
end
-- KPre
noncomputable section
open PySem PySem.W PyProof.Rows
set_option Elab.async false
set_option maxRecDepth 100000
set_option maxHeartbeats 0
theorem kc_cons {cm : Str → Option Value} {n : Str} {c : Addr} {r : List (Str × Addr)} {cells : List (Addr × Obj)} {G : Prop} (x : CellsAre cm ((n, c) :: r) cells) (k : ∀ o q, cells = (c, o) :: q → o.data = .cell (cm n) → CellsAre cm r q → G) : G := by
  cases x with | cons h r => exact k _ _ rfl h r
theorem kc_nil {cm : Str → Option Value} {cells : List (Addr × Obj)} (x : CellsAre cm [] cells) : cells = [] := by
  cases x; rfl
theorem kc_tenK {cm : Str → Option Value} {n1 n2 n3 n4 n5 n6 n7 n8 n9 n10 : Str} {c1 c2 c3 c4 c5 c6 c7 c8 c9 c10 : Addr} {cells : List (Addr × Obj)} {G : Prop} (x : CellsAre cm [(n1, c1), (n2, c2), (n3, c3), (n4, c4), (n5, c5), (n6, c6), (n7, c7), (n8, c8), (n9, c9), (n10, c10)] cells)
    (k : ∀ o1 o2 o3 o4 o5 o6 o7 o8 o9 o10, cells = [(c1, o1), (c2, o2), (c3, o3), (c4, o4), (c5, o5), (c6, o6), (c7, o7), (c8, o8), (c9, o9), (c10, o10)] → o1.data = .cell (cm n1) → o2.data = .cell (cm n2) → o3.data = .cell (cm n3) → o4.data = .cell (cm n4) → o5.data = .cell (cm n5) → o6.data = .cell (cm n6) → o7.data = .cell (cm n7) → o8.data = .cell (cm n8) → o9.data = .cell (cm n9) → o10.data = .cell (cm n10) → G) : G :=
  kc_cons x fun o1 q1 e1 d1 r1 => kc_cons r1 fun o2 q2 e2 d2 r2 => kc_cons r2 fun o3 q3 e3 d3 r3 => kc_cons r3 fun o4 q4 e4 d4 r4 => kc_cons r4 fun o5 q5 e5 d5 r5 => kc_cons r5 fun o6 q6 e6 d6 r6 => kc_cons r6 fun o7 q7 e7 d7 r7 => kc_cons r7 fun o8 q8 e8 d8 r8 => kc_cons r8 fun o9 q9 e9 d9 r9 => kc_cons r9 fun o10 q10 e10 d10 r10 => k o1 o2 o3 o4 o5 o6 o7 o8 o9 o10 ((e1.trans (congrArg ((c1, o1) :: ·) (e2.trans (congrArg ((c2, o2) :: ·) (e3.trans (congrArg ((c3, o3) :: ·) (e4.trans (congrArg ((c4, o4) :: ·) (e5.trans (congrArg ((c5, o5) :: ·) (e6.trans (congrArg ((c6, o6) :: ·) (e7.trans (congrArg ((c7, o7) :: ·) (e8.trans (congrArg ((c8, o8) :: ·) (e9.trans (congrArg ((c9, o9) :: ·) (e10.trans (congrArg ((c10, o10) :: ·) (kc_nil r10)))))))))))))))))))))) d1 d2 d3 d4 d5 d6 d7 d8 d9 d10
end
-- KTopD
noncomputable section
open PySem PySem.W PyProof.Rows PySem.Calls PySem.Spec
set_option Elab.async false
set_option maxRecDepth 100000
set_option maxHeartbeats 8000000
set_option linter.unusedVariables false
noncomputable abbrev rdW (c p : Int) : Int := 2 * p + Builtin.bitAnd (c.fdiv (2 ^ p.toNat)) 1
theorem rdW_b (c p : Int) : 2 * p ≤ rdW c p ∧ rdW c p ≤ 2 * p + 1 := by
  unfold rdW
  rw [bitAnd_m1]
  omega
noncomputable def nxW (lv : List Int) (c p : Int) : Int := lv.getD (rdW c p).toNat 0
theorem getD_mem {lv : List Int} {n : Nat} (h : n < lv.length) : lv.getD n 0 ∈ lv := by
  rw [List.getD_eq_getElem?_getD, List.getElem?_eq_getElem h]
  exact List.getElem_mem h
theorem nxW_b {lv : List Int} (hl : lv.length = 8) (hb : ∀ v ∈ lv, 0 ≤ v ∧ v < 4) {c p : Int} (hp : 0 ≤ p ∧ p < 4) : 0 ≤ nxW lv c p ∧ nxW lv c p < 4 := by
  have h := rdW_b c p
  exact hb _ (getD_mem (by omega))
noncomputable def topGo (lv rv : List Int) (c place : Int) : Nat → Int → Int → Int
  | 0, top, _ => top
  | n + 1, top, o => if o = place then top else topGo lv rv c place n (if rv.getD (rdW c o).toNat 0 > rv.getD top.toNat 0 then rdW c o else top) (nxW lv c o)
noncomputable def reach (lv : List Int) (c place : Int) : Nat → Int → Prop
  | 0, o => o = place
  | n + 1, o => o = place ∨ reach lv c place n (nxW lv c o)
noncomputable def dist (lv : List Int) (c place : Int) : Nat → Int → Nat
  | 0, o => 0
  | n + 1, o => if o = place then 0 else dist lv c place n (nxW lv c o) + 1
theorem topGo_more {lv rv : List Int} {c place : Int} : ∀ {n : Nat} {top o : Int}, reach lv c place n o → topGo lv rv c place (n + 2) top o = topGo lv rv c place (n + 1) top o
  | 0, top, o, h => by
    have h' : o = place := h
    simp only [topGo, h', if_true]
  | n + 1, top, o, h => by
    by_cases e : o = place
    · simp only [topGo, e, if_true]
    · have h' : reach lv c place n (nxW lv c o) := h.resolve_left e
      rw [topGo, if_neg e, topGo_more h']
      conv => rhs; rw [topGo, if_neg e]
theorem dist_more {lv : List Int} {c place : Int} : ∀ {n : Nat} {o : Int}, reach lv c place n o → dist lv c place (n + 2) o = dist lv c place (n + 1) o
  | 0, o, h => by
    have h' : o = place := h
    simp only [dist, h', if_true]
  | n + 1, o, h => by
    by_cases e : o = place
    · simp only [dist, e, if_true]
    · have h' : reach lv c place n (nxW lv c o) := h.resolve_left e
      rw [dist, if_neg e, dist_more h']
      conv => rhs; rw [dist, if_neg e]
theorem reach_more {lv : List Int} {c place : Int} : ∀ {n : Nat} {o : Int}, reach lv c place n o → reach lv c place (n + 1) o
  | 0, o, h => .inl h
  | n + 1, o, h => h.elim .inl fun h => .inr (reach_more h)
noncomputable def TopInv (lv rv : List Int) (c place T top o : Int) : Prop := 0 ≤ top ∧ top < 8 ∧ 0 ≤ o ∧ o < 4 ∧ reach lv c place 3 o ∧ topGo lv rv c place 4 top o = T
theorem TopInv.step {lv rv : List Int} {c place T top top' o : Int} (h : TopInv lv rv c place T top o) (hl : lv.length = 8) (hb : ∀ v ∈ lv, 0 ≤ v ∧ v < 4) (ne : ¬ o = place)
    (ht : (if rv.getD (rdW c o).toNat 0 > rv.getD top.toNat 0 then rdW c o else top) = top') : TopInv lv rv c place T top' (nxW lv c o) := by
  obtain ⟨h0, h1, h2, h3, h4, h5⟩ := h
  have hr := rdW_b c o
  have hn := nxW_b hl hb (c := c) ⟨h2, h3⟩
  have hR := h4.resolve_left ne
  refine ⟨?_, ?_, hn.1, hn.2, reach_more hR, ?_⟩
  · rw [← ht]; split <;> omega
  · rw [← ht]; split <;> omega
  · rw [topGo_more hR, ← h5]
    conv => rhs; rw [topGo, if_neg ne, ht]
theorem TopInv.less {lv rv : List Int} {c place T top o : Int} (h : TopInv lv rv c place T top o) (ne : ¬ o = place) : dist lv c place 4 (nxW lv c o) < dist lv c place 4 o := by
  obtain ⟨h0, h1, h2, h3, h4, h5⟩ := h
  have hR := h4.resolve_left ne
  have e : dist lv c place 4 o = dist lv c place 3 (nxW lv c o) + 1 := by rw [dist, if_neg ne]
  rw [e]
  exact Nat.lt_succ_of_le (Nat.le_of_eq (dist_more hR))
theorem TopInv.done {lv rv : List Int} {c place T top o : Int} (h : TopInv lv rv c place T top o) (e : o = place) : top = T := by
  obtain ⟨h0, h1, h2, h3, h4, h5⟩ := h
  rw [topGo, if_pos e] at h5
  exact h5
theorem pig : ∀ a b c d e : Fin 4, a = b ∨ a = c ∨ a = d ∨ a = e ∨ b = c ∨ b = d ∨ b = e ∨ c = d ∨ c = e ∨ d = e := by decide +kernel
theorem tnI {a b : Int} (ha : 0 ≤ a ∧ a < 4) (hb : 0 ≤ b ∧ b < 4) (e : a.toNat = b.toNat) : a = b := by omega
theorem pigI {a b c d e : Int} (ha : 0 ≤ a ∧ a < 4) (hb : 0 ≤ b ∧ b < 4) (hc : 0 ≤ c ∧ c < 4) (hd : 0 ≤ d ∧ d < 4) (he : 0 ≤ e ∧ e < 4) :
    a = b ∨ a = c ∨ a = d ∨ a = e ∨ b = c ∨ b = d ∨ b = e ∨ c = d ∨ c = e ∨ d = e := by
  have h := pig ⟨a.toNat, by omega⟩ ⟨b.toNat, by omega⟩ ⟨c.toNat, by omega⟩ ⟨d.toNat, by omega⟩ ⟨e.toNat, by omega⟩
  simp only [Fin.mk.injEq] at h
  exact h.imp (tnI ha hb) (Or.imp (tnI ha hc) (Or.imp (tnI ha hd) (Or.imp (tnI ha he) (Or.imp (tnI hb hc) (Or.imp (tnI hb hd) (Or.imp (tnI hb he) (Or.imp (tnI hc hd) (Or.imp (tnI hc he) (tnI hd he)))))))))
theorem reach_start {lv : List Int} (hl : lv.length = 8) (hb : ∀ v ∈ lv, 0 ≤ v ∧ v < 4) {c p0 p1 p2 p3 p4 : Int} (h0 : 0 ≤ p0 ∧ p0 < 4) (e1 : p1 = nxW lv c p0) (e2 : p2 = nxW lv c p1) (e3 : p3 = nxW lv c p2) (e4 : p4 = nxW lv c p3) :
    reach lv c p4 3 (nxW lv c p4) := by
  have h1 : 0 ≤ p1 ∧ p1 < 4 := e1 ▸ nxW_b hl hb h0
  have h2 : 0 ≤ p2 ∧ p2 < 4 := e2 ▸ nxW_b hl hb h1
  have h3 : 0 ≤ p3 ∧ p3 < 4 := e3 ▸ nxW_b hl hb h2
  have h4 : 0 ≤ p4 ∧ p4 < 4 := e4 ▸ nxW_b hl hb h3
  show nxW lv c p4 = p4 ∨ nxW lv c (nxW lv c p4) = p4 ∨ nxW lv c (nxW lv c (nxW lv c p4)) = p4 ∨ nxW lv c (nxW lv c (nxW lv c (nxW lv c p4))) = p4
  have f1 : ∀ {x y : Int}, x = y → nxW lv c x = nxW lv c y := fun h => h ▸ rfl
  rcases pigI h0 h1 h2 h3 h4 with e | e | e | e | e | e | e | e | e | e
  · -- p0 = p1
    have a := f1 e; rw [← e1, ← e2] at a
    have b := f1 a; rw [← e2, ← e3] at b
    have c' := f1 b; rw [← e3, ← e4] at c'
    have d := f1 c'; rw [← e4] at d
    exact .inl d.symm
  · have a := f1 e; rw [← e1, ← e3] at a
    have b := f1 a; rw [← e2, ← e4] at b
    have c' := f1 b; rw [← e3] at c'
    have d := f1 c'; rw [← e4] at d
    exact .inr (.inl d.symm)
  · have a := f1 e; rw [← e1, ← e4] at a
    have b := f1 a; rw [← e2] at b
    have c' := f1 b; rw [← e3] at c'
    have d := f1 c'; rw [← e4] at d
    exact .inr (.inr (.inl d.symm))
  · have a := f1 e; rw [← e1] at a
    have b := f1 a; rw [← e2] at b
    have c' := f1 b; rw [← e3] at c'
    have d := f1 c'; rw [← e4] at d
    exact .inr (.inr (.inr d.symm))
  · have a := f1 e; rw [← e2, ← e3] at a
    have b := f1 a; rw [← e3, ← e4] at b
    have c' := f1 b; rw [← e4] at c'
    exact .inl c'.symm
  · have a := f1 e; rw [← e2, ← e4] at a
    have b := f1 a; rw [← e3] at b
    have c' := f1 b; rw [← e4] at c'
    exact .inr (.inl c'.symm)
  · have a := f1 e; rw [← e2] at a
    have b := f1 a; rw [← e3] at b
    have c' := f1 b; rw [← e4] at c'
    exact .inr (.inr (.inl c'.symm))
  · have a := f1 e; rw [← e3, ← e4] at a
    have b := f1 a; rw [← e4] at b
    exact .inl b.symm
  · have a := f1 e; rw [← e3] at a
    have b := f1 a; rw [← e4] at b
    exact .inr (.inl b.symm)
  · have a := f1 e; rw [← e4] at a
    exact .inl a.symm
theorem TopInv.pack {lv rv : List Int} {c place T top o : Int} (h : TopInv lv rv c place T top o) : (0 ≤ top ∧ top < 8) ∧ (0 ≤ o ∧ o < 4) ∧ TopInv lv rv c place T top o := ⟨⟨h.1, h.2.1⟩, ⟨h.2.2.1, h.2.2.2.1⟩, h⟩
theorem TopInv.stepY {lv rv : List Int} {c place T top o o' : Int} (h : TopInv lv rv c place T top o) (hl : lv.length = 8) (hb : ∀ v ∈ lv, 0 ≤ v ∧ v < 4) (e : o' = nxW lv c o) (ne : ¬ o = place)
    (ht : rv.getD (rdW c o).toNat 0 > rv.getD top.toNat 0) : TopInv lv rv c place T (rdW c o) o' := e ▸ h.step hl hb ne (if_pos ht)
theorem TopInv.stepN {lv rv : List Int} {c place T top o o' : Int} (h : TopInv lv rv c place T top o) (hl : lv.length = 8) (hb : ∀ v ∈ lv, 0 ≤ v ∧ v < 4) (e : o' = nxW lv c o) (ne : ¬ o = place)
    (ht : ¬ rv.getD (rdW c o).toNat 0 > rv.getD top.toNat 0) : TopInv lv rv c place T top o' := e ▸ h.step hl hb ne (if_neg ht)
theorem TopInv.lessE {lv rv : List Int} {c place T top o o' : Int} (h : TopInv lv rv c place T top o) (e : o' = nxW lv c o) (ne : ¬ o = place) : dist lv c place 4 o' < dist lv c place 4 o := e ▸ h.less ne
noncomputable def nx4 (lv : List Int) (c p : Int) : Int := nxW lv c (nxW lv c (nxW lv c (nxW lv c p)))
noncomputable def topW (lv rv : List Int) (c p : Int) : Int := topGo lv rv c (nx4 lv c p) 4 (rdW c (nx4 lv c p)) (nxW lv c (nx4 lv c p))
theorem TopInv.start {lv rv : List Int} (hl : lv.length = 8) (hb : ∀ v ∈ lv, 0 ≤ v ∧ v < 4) {c p0 p1 p2 p3 p4 o : Int} (h0 : 0 ≤ p0 ∧ p0 < 4) (e1 : p1 = nxW lv c p0) (e2 : p2 = nxW lv c p1) (e3 : p3 = nxW lv c p2) (e4 : p4 = nxW lv c p3) (e5 : o = nxW lv c p4) :
    TopInv lv rv c p4 (topW lv rv c p0) (rdW c p4) o := by
  have h1 : 0 ≤ p1 ∧ p1 < 4 := e1 ▸ nxW_b hl hb h0
  have h2 : 0 ≤ p2 ∧ p2 < 4 := e2 ▸ nxW_b hl hb h1
  have h3 : 0 ≤ p3 ∧ p3 < 4 := e3 ▸ nxW_b hl hb h2
  have h4 : 0 ≤ p4 ∧ p4 < 4 := e4 ▸ nxW_b hl hb h3
  have h5 : 0 ≤ o ∧ o < 4 := e5 ▸ nxW_b hl hb h4
  have hr := rdW_b c p4
  refine ⟨by omega, by omega, h5.1, h5.2, e5 ▸ reach_start hl hb h0 e1 e2 e3 e4, ?_⟩
  unfold topW nx4
  rw [← e1, ← e2, ← e3, ← e4, ← e5]
section
variable {prog : Program} {w : World} {A : Around} {E : Value → Shared → Prop} {s : Shared}
theorem item_led {value slice : PySem.Expr} {l : Addr} {vs : List Value} {lv : List Int} {c p : Int} {u : Tok} {Q : Value → Shared → Prop} (hl : s.heap.IsList l vs.toArray) (hi : IntsAre vs lv) (hlen : lv.length = 8) (hb : ∀ v ∈ lv, 0 ≤ v ∧ v < 4)
    (hp : 0 ≤ p ∧ p < 4) (h : ∀ p' t, p' = nxW lv c p → 0 ≤ p' ∧ p' < 4 → Q (.int p' t) s)
    (hs : subscripted slice false (.ref l) (.int (rdW c p) u) = operate [.ref l, .int (rdW c p) u] (getItem (.ref l) (.int (rdW c p) u)) := by with_unfolding_all rfl) :
    wpAny (model prog w) A (subscriptTail value slice (.ref l) (.int (rdW c p) u)) Q E s := by
  have hr := rdW_b c p
  exact item_anyK hl hi (by omega) (by omega) (by omega) (fun t => h _ t rfl (nxW_b hlen hb hp)) hs
theorem item_rank {value slice : PySem.Expr} {l : Addr} {vs : List Value} {rv : List Int} {k : Int} {u : Tok} {Q : Value → Shared → Prop} (hl : s.heap.IsList l vs.toArray) (hi : IntsAre vs rv) (hlen : rv.length = 8)
    (hk : 0 ≤ k ∧ k < 8) (h : ∀ t, Q (.int (rv.getD k.toNat 0) t) s)
    (hs : subscripted slice false (.ref l) (.int k u) = operate [.ref l, .int k u] (getItem (.ref l) (.int k u)) := by with_unfolding_all rfl) :
    wpAny (model prog w) A (subscriptTail value slice (.ref l) (.int k u)) Q E s :=
  item_anyK hl hi hk.1 (by omega) (by omega) h hs
theorem rd8 {c p : Int} (hp : 0 ≤ p ∧ p < 4) : 0 ≤ rdW c p ∧ rdW c p < 8 := by
  have hr := rdW_b c p
  omega
end
end
-- KGame
noncomputable section
open PySem PySem.W PyProof.Rows PySem.Calls PySem.Spec
set_option Elab.async false
set_option maxRecDepth 100000
set_option maxHeartbeats 8000000
set_option linter.unusedVariables false
noncomputable def agP (rd way : List Int) (road : Int) (i : Nat) : Bool := ((way.getD ((0 : Int) + (i : Int)).toNat 0).fdiv 2 == rd.getD road.toNat 0)
noncomputable def agL (rd ws : List Int) (road : Int) : List Int := ((List.range (((ws.length + 1 : Nat) : Int) - 0).toNat).filter (agP rd (ws ++ [road]) road)).map fun (i : Nat) => (0 : Int) + (i : Int)
noncomputable abbrev bitI (o p : Int) : Int := Builtin.bitAnd (o.fdiv (2 ^ p.toNat)) 1
noncomputable def mxL (l : List Int) : Int := l.foldl max 0
noncomputable def ringL (rd ws : List Int) (road : Int) : List Int := (ws ++ [road]).drop ((agL rd ws road).getD 0 0).toNat
noncomputable def wtL (wt l : List Int) : List Int := l.map fun r => wt.getD r.toNat 0
noncomputable def turnV (rec' : List Int → Int → Bool) (rd wt ws : List Int) (road : Int) : Bool :=
  if agL rd ws road = [] then rec' (ws ++ [road]) (rd.getD road.toNat 0) else (mxL (wtL wt (ringL rd ws road))).fmod 2 == 1
noncomputable def firstV (rd wt : List Int) (owner : Int) : Nat → List Int → Int → Bool
  | 0, _, _ => false
  | n + 1, ws, p =>
    if bitI owner p ≠ 0 then turnV (firstV rd wt owner n) rd wt ws (2 * p) || turnV (firstV rd wt owner n) rd wt ws (2 * p + 1)
    else turnV (firstV rd wt owner n) rd wt ws (2 * p) && turnV (firstV rd wt owner n) rd wt ws (2 * p + 1)
theorem ag_facts {rd ws : List Int} {road : Int} (h : agL rd ws road ≠ []) : ∃ k : Nat, ((agL rd ws road).getD 0 0).toNat = k ∧ k ≤ ws.length ∧ ((ws ++ [road]).getD k 0).fdiv 2 = rd.getD road.toNat 0 := by
  have hpos : 0 < (agL rd ws road).length := List.length_pos_iff.mpr h
  have hm := getD_mem hpos
  unfold agL at hm
  obtain ⟨k, hk, e⟩ := List.mem_map.mp hm
  have hr := List.mem_filter.mp hk
  have h1 := List.mem_range.mp hr.1
  have h2 := hr.2
  unfold agP at h2
  rw [beq_iff_eq] at h2
  refine ⟨k, ?_, by omega, ?_⟩
  · unfold agL; rw [← e]; omega
  · have : ((0 : Int) + (k : Int)).toNat = k := by omega
    rw [this] at h2
    exact h2
theorem ag_none {rd ws : List Int} {road : Int} (h : agL rd ws road = []) : ∀ k, k ≤ ws.length → ((ws ++ [road]).getD k 0).fdiv 2 ≠ rd.getD road.toNat 0 := by
  intro k hk e
  unfold agL at h
  rw [List.map_eq_nil_iff, List.filter_eq_nil_iff] at h
  refine h k (List.mem_range.mpr (by omega)) ?_
  unfold agP
  have : ((0 : Int) + (k : Int)).toNat = k := by omega
  rw [this, e, beq_self_eq_true]
end
-- KPlain1
noncomputable section
open PySem PySem.W PyProof.Rows PySem.Calls PySem.Spec
set_option Elab.async false
set_option maxRecDepth 100000
set_option maxHeartbeats 8000000
set_option linter.unusedVariables false
theorem getD_left {a b : List Int} {k : Nat} (h : k < a.length) : (a ++ b).getD k 0 = a.getD k 0 := by
  rw [List.getD_eq_getElem?_getD, List.getD_eq_getElem?_getD, List.getElem?_append_left h]
section
variable (rd : List Int) (mine : Int → Bool) (w : Int → Int)
noncomputable def smL (l : List Int) : Int := l.foldr (fun r s => w r + s) 0
theorem smL_app (a b : List Int) : smL w (a ++ b) = smL w a + smL w b := by
  induction a with
  | nil => simp [smL]
  | cons x a ih => simp only [smL, List.cons_append, List.foldr_cons] at *; omega
noncomputable def turnG (rec' : List Int → Int → Bool) (ws : List Int) (road : Int) : Bool :=
  if agL rd ws road = [] then rec' (ws ++ [road]) (rd.getD road.toNat 0) else decide (0 < smL w (ringL rd ws road))
noncomputable def G : Nat → List Int → Int → Bool
  | 0, _, _ => false
  | n + 1, ws, p => if mine p then turnG rd w (G n) ws (2 * p) || turnG rd w (G n) ws (2 * p + 1) else turnG rd w (G n) ws (2 * p) && turnG rd w (G n) ws (2 * p + 1)
noncomputable def Surv : Nat → Int → Int → Prop
  | 0, _, c => 0 ≤ c
  | n + 1, p, c => 0 ≤ c ∧ (mine p = true → Surv n (rd.getD (2 * p).toNat 0) (c + w (2 * p)) ∨ Surv n (rd.getD (2 * p + 1).toNat 0) (c + w (2 * p + 1))) ∧
    (mine p = false → Surv n (rd.getD (2 * p).toNat 0) (c + w (2 * p)) ∧ Surv n (rd.getD (2 * p + 1).toNat 0) (c + w (2 * p + 1)))
noncomputable def Inv (ws : List Int) (p : Int) : Prop := ws.length ≤ 4 ∧ G rd mine w (4 - ws.length) ws p = true ∧ ∀ k, k < ws.length → G rd mine w (4 - k) (ws.take k) ((ws.getD k 0).fdiv 2) = true
theorem half_road {p r : Int} (h : r = 2 * p ∨ r = 2 * p + 1) : r.fdiv 2 = p := by
  rw [Int.fdiv_eq_ediv_of_nonneg _ (by decide)]; omega
theorem surv_main {M : Int} (hM : ∀ r, -M ≤ w r) (M0 : 0 ≤ M) : ∀ n ws p c, Inv rd mine w ws p → 4 * M + smL w ws ≤ c → Surv rd mine w n p c := by
  have low : ∀ l : List Int, -(l.length * M) ≤ smL w l := by
    intro l
    induction l with
    | nil => simp [smL]
    | cons x l ih =>
      have := hM x
      simp only [smL, List.foldr_cons, List.length_cons] at *
      have : ((l.length + 1 : Nat) : Int) * M = l.length * M + M := by rw [Int.natCast_add, Int.add_mul]; simp
      omega
  have low4 : ∀ l : List Int, l.length ≤ 4 → 0 ≤ 4 * M + smL w l := by
    intro l hl
    have h1 := low l
    have h2 : (l.length : Int) * M ≤ 4 * M := Int.mul_le_mul_of_nonneg_right (by omega) M0
    omega
  intro n
  induction n with
  | zero =>
    intro ws p c hI hc
    have := low4 ws hI.1
    show 0 ≤ c
    omega
  | succ n ih =>
    intro ws p c hI hc
    obtain ⟨hl, hG, hk⟩ := hI
    have h0 := low4 ws hl
    obtain ⟨m, hm⟩ : ∃ m, 4 - ws.length = m + 1 := by
      cases e : 4 - ws.length with
      | zero => rw [e] at hG; simp [G] at hG
      | succ m => exact ⟨m, rfl⟩
    rw [hm] at hG
    have step : ∀ r, (r = 2 * p ∨ r = 2 * p + 1) → turnG rd w (G rd mine w m) ws r = true → Surv rd mine w n (rd.getD r.toNat 0) (c + w r) := by
      intro r hr hT
      have hh := half_road hr
      have hs : smL w (ws ++ [r]) = smL w ws + w r := by rw [smL_app]; simp [smL]
      unfold turnG at hT
      by_cases ha : agL rd ws r = []
      · rw [if_pos ha] at hT
        refine ih (ws ++ [r]) _ _ ⟨by rw [List.length_append, List.length_singleton]; omega, ?_, fun k hk' => ?_⟩ (by omega)
        · have : 4 - (ws ++ [r]).length = m := by rw [List.length_append, List.length_singleton]; omega
          rw [this]; exact hT
        · rw [List.length_append, List.length_singleton] at hk'
          by_cases hlt : k < ws.length
          · rw [List.take_append_of_le_length (by omega), getD_left hlt]
            exact hk k hlt
          · have : k = ws.length := by omega
            subst this
            rw [List.take_left', List.getD_eq_getElem?_getD, List.getElem?_append_right (Nat.le_refl _), Nat.sub_self]
            · simp only [List.getElem?_cons_zero, Option.getD_some]
              rw [hh, hm]; exact hG
            · rfl
      · rw [if_neg ha] at hT
        obtain ⟨k, e1, e2, e3⟩ := ag_facts ha
        have hT := of_decide_eq_true hT
        unfold ringL at hT
        rw [e1] at hT
        have hsplit : smL w (ws ++ [r]) = smL w (ws.take k) + smL w ((ws ++ [r]).drop k) := by
          conv => lhs; rw [← List.take_append_drop k (ws ++ [r])]
          rw [smL_app, List.take_append_of_le_length e2]
        have hlen : (ws.take k).length = k := by rw [List.length_take]; omega
        rw [← e3]
        refine ih (ws.take k) _ _ ⟨by omega, ?_, fun j hj => ?_⟩ (by omega)
        · rw [hlen]
          by_cases hlt : k < ws.length
          · rw [getD_left hlt]
            exact hk k hlt
          · have : k = ws.length := by omega
            subst this
            rw [List.take_length, List.getD_eq_getElem?_getD, List.getElem?_append_right (Nat.le_refl _), Nat.sub_self]
            simp only [List.getElem?_cons_zero, Option.getD_some]
            rw [hh, hm]; exact hG
        · rw [hlen] at hj
          have hj2 : j < ws.length := by omega
          rw [List.take_take, Nat.min_eq_left (by omega)]
          have : (ws.take k).getD j 0 = ws.getD j 0 := by
            rw [List.getD_eq_getElem?_getD, List.getD_eq_getElem?_getD, List.getElem?_take_of_lt hj]
          rw [this]
          exact hk j hj2
    unfold G at hG
    refine ⟨by omega, fun hm1 => ?_, fun hm0 => ?_⟩
    · rw [if_pos hm1, Bool.or_eq_true] at hG
      rcases hG with h | h
      · exact .inl (step _ (.inl rfl) h)
      · exact .inr (step _ (.inr rfl) h)
    · rw [if_neg (by rw [hm0]; exact Bool.false_ne_true), Bool.and_eq_true] at hG
      exact ⟨step _ (.inl rfl) hG.1, step _ (.inr rfl) hG.2⟩
theorem surv_less : ∀ {n p c}, Surv rd mine w (n + 1) p c → Surv rd mine w n p c
  | 0, _, _, h => h.1
  | n + 1, _, _, h => ⟨h.1, fun e => (h.2.1 e).imp surv_less surv_less, fun e => ⟨surv_less (h.2.2 e).1, surv_less (h.2.2 e).2⟩⟩
theorem surv_le {m n : Nat} {p c : Int} (h : Surv rd mine w n p c) (hm : m ≤ n) : Surv rd mine w m p c := by
  induction n with
  | zero => have : m = 0 := by omega
            subst this; exact h
  | succ n ih =>
    by_cases e : m = n + 1
    · subst e; exact h
    · exact ih (surv_less rd mine w h) (by omega)
noncomputable def Win (p c : Int) : Prop := ∀ n, Surv rd mine w n p c
theorem Win.pos {p c : Int} (h : Win rd mine w p c) : 0 ≤ c := h 0
theorem Win.his {p c : Int} (h : Win rd mine w p c) (e : mine p = false) : Win rd mine w (rd.getD (2 * p).toNat 0) (c + w (2 * p)) ∧ Win rd mine w (rd.getD (2 * p + 1).toNat 0) (c + w (2 * p + 1)) :=
  ⟨fun n => ((h (n + 1)).2.2 e).1, fun n => ((h (n + 1)).2.2 e).2⟩
theorem Win.hers {p c : Int} (h : Win rd mine w p c) (e : mine p = true) : Win rd mine w (rd.getD (2 * p).toNat 0) (c + w (2 * p)) ∨ Win rd mine w (rd.getD (2 * p + 1).toNat 0) (c + w (2 * p + 1)) := by
  refine Classical.byContradiction fun hn => ?_
  rw [not_or] at hn
  obtain ⟨h1, h2⟩ := hn
  unfold Win at h1 h2
  rw [Classical.not_forall] at h1 h2
  obtain ⟨n1, h1⟩ := h1
  obtain ⟨n2, h2⟩ := h2
  rcases (h (max n1 n2 + 1)).2.1 e with k | k
  · exact h1 (surv_le rd mine w k (by omega))
  · exact h2 (surv_le rd mine w k (by omega))
theorem least {P : Int → Prop} (h0 : ∀ c, P c → 0 ≤ c) (h : ∃ c, P c) : ∃ m, P m ∧ ∀ c, P c → m ≤ c := by
  obtain ⟨c, hc⟩ := h
  have key : ∀ n : Nat, ∀ c, P c → c.toNat ≤ n → ∃ m, P m ∧ ∀ c, P c → m ≤ c := by
    intro n
    induction n with
    | zero =>
      intro c hc hn
      exact ⟨c, hc, fun d hd => by have := h0 d hd; have := h0 c hc; omega⟩
    | succ n ih =>
      intro c hc hn
      by_cases hx : ∃ d, P d ∧ d < c
      · obtain ⟨d, hd, hlt⟩ := hx
        exact ih d hd (by have := h0 d hd; omega)
      · exact ⟨c, hc, fun d hd => by
          by_cases hlt : d < c
          · exact (hx ⟨d, hd, hlt⟩).elim
          · omega⟩
  exact key _ c hc (Nat.le_refl _)
/-- the potential, the place's road, and what they keep -/
theorem energy : ∃ (f : Int → Int) (σ : Int → Int), (∀ p, σ p = 0 ∨ σ p = 1) ∧ ∀ p, (∃ c, Win rd mine w p c) → 
    (mine p = true → (∃ c, Win rd mine w (rd.getD (2 * p + σ p).toNat 0) c) ∧ f (rd.getD (2 * p + σ p).toNat 0) ≤ f p + w (2 * p + σ p)) ∧
    (mine p = false → ∀ b : Int, (b = 0 ∨ b = 1) → (∃ c, Win rd mine w (rd.getD (2 * p + b).toNat 0) c) ∧ f (rd.getD (2 * p + b).toNat 0) ≤ f p + w (2 * p + b)) := by
  have hf : ∀ p, ∃ m, (∃ c, Win rd mine w p c) → Win rd mine w p m ∧ ∀ c, Win rd mine w p c → m ≤ c := by
    intro p
    by_cases h : ∃ c, Win rd mine w p c
    · obtain ⟨m, hm⟩ := least (fun c => Win.pos rd mine w) h
      exact ⟨m, fun _ => hm⟩
    · exact ⟨0, fun e => (h e).elim⟩
  let f : Int → Int := fun p => Classical.choose (hf p)
  have hf' : ∀ p, (∃ c, Win rd mine w p c) → Win rd mine w p (f p) ∧ ∀ c, Win rd mine w p c → f p ≤ c := fun p => Classical.choose_spec (hf p)
  have hs : ∀ p, ∃ b : Int, (b = 0 ∨ b = 1) ∧ ((∃ c, Win rd mine w p c) → mine p = true → Win rd mine w (rd.getD (2 * p + b).toNat 0) (f p + w (2 * p + b))) := by
    intro p
    by_cases h : (∃ c, Win rd mine w p c) ∧ mine p = true
    · rcases Win.hers rd mine w (hf' p h.1).1 h.2 with k | k
      · exact ⟨0, .inl rfl, fun _ _ => by rw [Int.add_zero]; exact k⟩
      · exact ⟨1, .inr rfl, fun _ _ => k⟩
    · exact ⟨0, .inl rfl, fun a b => (h ⟨a, b⟩).elim⟩
  refine ⟨f, fun p => Classical.choose (hs p), fun p => (Classical.choose_spec (hs p)).1, fun p hp => ⟨fun e => ?_, fun e b hb => ?_⟩⟩
  · have h := (Classical.choose_spec (hs p)).2 hp e
    exact ⟨⟨_, h⟩, (hf' _ ⟨_, h⟩).2 _ h⟩
  · have h := Win.his rd mine w (hf' p hp).1 e
    rcases hb with rfl | rfl
    · rw [Int.add_zero]
      exact ⟨⟨_, h.1⟩, (hf' _ ⟨_, h.1⟩).2 _ h.1⟩
    · exact ⟨⟨_, h.2⟩, (hf' _ ⟨_, h.2⟩).2 _ h.2⟩
end
end
-- KPlain2
noncomputable section
open PySem PySem.W PyProof.Rows PySem.Calls PySem.Spec
set_option Elab.async false
set_option maxRecDepth 100000
set_option maxHeartbeats 8000000
set_option linter.unusedVariables false
theorem smL_low {w : Int → Int} {B : Int} (hB : 0 < B) : ∀ {l : List Int}, (∀ r ∈ l, -B ≤ w r) → -(l.length * B) ≤ smL w l
  | [], _ => by simp [smL]
  | x :: l, h => by
    have h1 := smL_low hB (fun r hr => h r (List.mem_cons_of_mem _ hr))
    have h2 := h x (List.mem_cons_self ..)
    have : ((l.length + 1 : Nat) : Int) * B = l.length * B + B := by rw [Int.natCast_add, Int.add_mul]; simp
    simp only [smL, List.foldr_cons, List.length_cons] at *
    omega
theorem smL_one {w : Int → Int} {B : Int} (hB : 0 < B) : ∀ {l : List Int}, (∀ r ∈ l, -B ≤ w r) → (∃ r ∈ l, w r = 5 * B) → 6 * B - l.length * B ≤ smL w l
  | [], _, h => by obtain ⟨r, hr, _⟩ := h; cases hr
  | x :: l, h, hx => by
    have hl := fun r hr => h r (List.mem_cons_of_mem _ hr)
    have h2 := h x (List.mem_cons_self ..)
    have e : ((l.length + 1 : Nat) : Int) * B = l.length * B + B := by rw [Int.natCast_add, Int.add_mul]; simp
    obtain ⟨r, hr, hw⟩ := hx
    rcases List.mem_cons.mp hr with rfl | hr
    · have h1 := smL_low hB hl
      simp only [smL, List.foldr_cons, List.length_cons] at *
      omega
    · have h1 := smL_one hB hl ⟨r, hr, hw⟩
      simp only [smL, List.foldr_cons, List.length_cons] at *
      omega
theorem smL_pos {w : Int → Int} {B : Int} (hB : 0 < B) {l : List Int} (hl : l.length ≤ 4) (h : ∀ r ∈ l, -B ≤ w r) (hx : ∃ r ∈ l, w r = 5 * B) : 0 < smL w l := by
  have h1 := smL_one hB h hx
  have h2 : (l.length : Int) * B ≤ 4 * B := Int.mul_le_mul_of_nonneg_right (by omega) (by omega)
  omega
theorem smL_neg (w : Int → Int) : ∀ l : List Int, smL (fun r => -w r) l = -smL w l
  | [] => by simp [smL]
  | x :: l => by
    have h := smL_neg w l
    simp only [smL, List.foldr_cons] at *
    omega
noncomputable def wgt (wt : List Int) (r : Int) : Int := if (wt.getD r.toNat 0).fmod 2 = 1 then (5 : Int) ^ ((wt.getD r.toNat 0).toNat + 1) else -(5 : Int) ^ ((wt.getD r.toNat 0).toNat + 1)
theorem pow_le5 {a b : Nat} (h : a ≤ b) : (5 : Int) ^ a ≤ 5 ^ b := by
  have h1 := Nat.pow_le_pow_right (n := 5) (by decide) h
  have e : ∀ n : Nat, (5 : Int) ^ n = ((5 ^ n : Nat) : Int) := fun n => by rw [Int.natCast_pow]; rfl
  rw [e, e]; omega
theorem pow_pos5 (a : Nat) : (0 : Int) < 5 ^ a := by
  have h1 := pow_le5 (Nat.zero_le a)
  have : (5 : Int) ^ 0 = 1 := rfl
  omega
theorem wgt_odd {wt : List Int} {l : List Int} {r : Int} (hl : l.length ≤ 4) (h0 : ∀ x ∈ l, 0 ≤ wt.getD x.toNat 0) (hr : r ∈ l) (hm : ∀ x ∈ l, wt.getD x.toNat 0 ≤ wt.getD r.toNat 0) (ho : (wt.getD r.toNat 0).fmod 2 = 1) : 0 < smL (wgt wt) l := by
  refine smL_pos (pow_pos5 (wt.getD r.toNat 0).toNat) hl (fun x hx => ?_) ⟨r, hr, ?_⟩
  · have h1 := h0 x hx
    have h2 := hm x hx
    unfold wgt
    split
    · have := pow_pos5 ((wt.getD x.toNat 0).toNat + 1)
      have := pow_pos5 (wt.getD r.toNat 0).toNat
      omega
    · rename_i hne
      have hlt : (wt.getD x.toNat 0).toNat + 1 ≤ (wt.getD r.toNat 0).toNat := by
        have : wt.getD x.toNat 0 ≠ wt.getD r.toNat 0 := fun e => hne (by rw [e]; exact ho)
        omega
      have := pow_le5 hlt
      omega
  · unfold wgt
    rw [if_pos ho, Int.pow_succ]; omega
theorem wgt_even {wt : List Int} {l : List Int} {r : Int} (hl : l.length ≤ 4) (h0 : ∀ x ∈ l, 0 ≤ wt.getD x.toNat 0) (hr : r ∈ l) (hm : ∀ x ∈ l, wt.getD x.toNat 0 ≤ wt.getD r.toNat 0) (ho : ¬ (wt.getD r.toNat 0).fmod 2 = 1) : smL (wgt wt) l < 0 := by
  have key : 0 < smL (fun r => -wgt wt r) l := by
    refine smL_pos (pow_pos5 (wt.getD r.toNat 0).toNat) hl (fun x hx => ?_) ⟨r, hr, ?_⟩
    · have h1 := h0 x hx
      have h2 := hm x hx
      unfold wgt
      split
      · rename_i hne
        have hlt : (wt.getD x.toNat 0).toNat + 1 ≤ (wt.getD r.toNat 0).toNat := by
          have : wt.getD x.toNat 0 ≠ wt.getD r.toNat 0 := fun e => ho (by rw [← e]; exact hne)
          omega
        have := pow_le5 hlt
        omega
      · have := pow_pos5 ((wt.getD x.toNat 0).toNat + 1)
        have := pow_pos5 (wt.getD r.toNat 0).toNat
        omega
    · unfold wgt
      rw [if_neg ho, Int.neg_neg, Int.pow_succ]; omega
  rw [smL_neg] at key
  omega
theorem foldmax_ge : ∀ (l : List Int) (a : Int), a ≤ l.foldl max a ∧ ∀ x ∈ l, x ≤ l.foldl max a
  | [], a => ⟨Int.le_refl _, fun x hx => by cases hx⟩
  | y :: l, a => by
    have h := foldmax_ge l (max a y)
    refine ⟨?_, fun x hx => ?_⟩
    · have := h.1
      simp only [List.foldl_cons]; omega
    · simp only [List.foldl_cons]
      rcases List.mem_cons.mp hx with rfl | hx
      · have := h.1; omega
      · exact h.2 x hx
theorem foldmax_mem : ∀ (l : List Int) (a : Int), l.foldl max a = a ∨ l.foldl max a ∈ l
  | [], a => .inl rfl
  | y :: l, a => by
    simp only [List.foldl_cons]
    rcases foldmax_mem l (max a y) with h | h
    · rw [h]
      by_cases e : a ≤ y
      · right; rw [Int.max_eq_right e]; exact List.mem_cons_self ..
      · left; omega
    · exact .inr (List.mem_cons_of_mem _ h)
theorem mxL_mem {l : List Int} (hn : l ≠ []) (h0 : ∀ x ∈ l, 0 ≤ x) : mxL l ∈ l := by
  rcases foldmax_mem l 0 with h | h
  · match l, hn with
    | x :: l, _ =>
      have h1 := (foldmax_ge (x :: l) 0).2 x (List.mem_cons_self ..)
      have h2 := h0 x (List.mem_cons_self ..)
      have : mxL (x :: l) = x := by unfold mxL; omega
      rw [this]; exact List.mem_cons_self ..
  · exact h
theorem mxL_eq {l : List Int} {m : Int} (hm : m ∈ l) (h0 : ∀ x ∈ l, 0 ≤ x) (hle : ∀ x ∈ l, x ≤ m) : m = mxL l := by
  have h1 := (foldmax_ge l 0).2 m hm
  have h2 := hle _ (mxL_mem (List.ne_nil_of_mem hm) h0)
  unfold mxL at *
  omega
theorem ring_sum {wt l : List Int} (hn : l ≠ []) (hl : l.length ≤ 4) (h0 : ∀ v ∈ wt, 0 ≤ v) : ((mxL (wtL wt l)).fmod 2 == 1) = decide (0 < smL (wgt wt) l) ∧ (!((mxL (wtL wt l)).fmod 2 == 1)) = decide (0 < smL (fun r => -wgt wt r) l) := by
  have h0' : ∀ n : Nat, 0 ≤ wt.getD n 0 := fun n => by
    rw [List.getD_eq_getElem?_getD]
    cases e : wt[n]? with
    | none => exact Int.le_refl _
    | some x => exact h0 x (List.mem_of_getElem? e)
  have h0l : ∀ x ∈ wtL wt l, 0 ≤ x := fun x hx => by
    unfold wtL at hx
    obtain ⟨r, hr, rfl⟩ := List.mem_map.mp hx
    exact h0' _
  have hne : wtL wt l ≠ [] := by unfold wtL; simpa using hn
  have hmem := mxL_mem hne h0l
  have hge := (foldmax_ge (wtL wt l) 0).2
  unfold wtL at hmem
  obtain ⟨r, hr, e⟩ := List.mem_map.mp hmem
  have hmax : ∀ x ∈ l, wt.getD x.toNat 0 ≤ wt.getD r.toNat 0 := fun x hx => by
    have := hge (wt.getD x.toNat 0) (List.mem_map.mpr ⟨x, hx, rfl⟩)
    rw [e]; exact this
  have e' : mxL (wtL wt l) = wt.getD r.toNat 0 := e.symm
  rw [e', smL_neg]
  by_cases ho : (wt.getD r.toNat 0).fmod 2 = 1
  · have h := wgt_odd hl (fun x _ => h0' _) hr hmax ho
    rw [ho]
    refine ⟨?_, ?_⟩
    · rw [decide_eq_true h]; rfl
    · rw [decide_eq_false (by omega)]; rfl
  · have h := wgt_even hl (fun x _ => h0' _) hr hmax ho
    have hb : ((wt.getD r.toNat 0).fmod 2 == 1) = false := by rw [beq_eq_false_iff_ne]; exact ho
    rw [hb]
    refine ⟨?_, ?_⟩
    · rw [decide_eq_false (by omega)]
    · rw [decide_eq_true (by omega)]; rfl
/-- the places on the way, and the one now, are different -/
noncomputable def Diff (ws : List Int) (p : Int) : Prop := (∀ v ∈ ws, 0 ≤ v ∧ v < 8) ∧ (0 ≤ p ∧ p < 4) ∧ (ws.map (fun v => v.fdiv 2) ++ [p]).Nodup
theorem Diff.len {ws : List Int} {p : Int} (h : Diff ws p) : ws.length ≤ 3 := by
  obtain ⟨hb, hp, hn⟩ := h
  match ws, hb, hn with
  | [], _, _ | [_], _, _ | [_, _], _, _ | [_, _, _], _, _ => simp
  | a :: b :: c :: d :: l, hb, hn =>
    exfalso
    simp only [List.mem_cons] at hb
    have ha := hb a (by simp)
    have hb' := hb b (by simp)
    have hc := hb c (by simp)
    have hd := hb d (by simp)
    have q : ∀ v : Int, (0 ≤ v ∧ v < 8) → 0 ≤ v.fdiv 2 ∧ v.fdiv 2 < 4 := fun v hv => by rw [Int.fdiv_eq_ediv_of_nonneg _ (by decide)]; omega
    have P := pigI (q a ha) (q b hb') (q c hc) (q d hd) hp
    simp only [List.map_cons, List.cons_append, List.nodup_cons, List.mem_cons, List.mem_append, List.not_mem_nil, or_false, not_or, List.mem_singleton, true_or, or_true, not_true] at hn
    obtain ⟨⟨n1, n2, n3, n4⟩, ⟨n5, n6, n7⟩, ⟨n8, n9⟩, ⟨n10, n11⟩, _⟩ := hn
    exact (fun h => Or.elim h n1 (fun h => Or.elim h n2 (fun h => Or.elim h n3 (fun h => Or.elim h n4.2 (fun h => Or.elim h n5 (fun h => Or.elim h n6 (fun h => Or.elim h n7.2 (fun h => Or.elim h n8 (fun h => Or.elim h n9.2 n11))))))))) P
theorem Diff.step {rd ws : List Int} {p r : Int} (h : Diff ws p) (hr : r = 2 * p ∨ r = 2 * p + 1) (hl : rd.length = 8) (hb : ∀ v ∈ rd, 0 ≤ v ∧ v < 4) (ha : agL rd ws r = []) : Diff (ws ++ [r]) (rd.getD r.toNat 0) := by
  obtain ⟨h1, h2, h3⟩ := h
  have hh := half_road hr
  refine ⟨fun v hv => ?_, hb _ (getD_mem (by omega)), ?_⟩
  · rcases List.mem_append.mp hv with hv | hv
    · exact h1 v hv
    · rw [List.mem_singleton] at hv; omega
  · rw [List.map_append, List.map_singleton, hh]
    rw [List.nodup_append]
    refine ⟨h3, by simp, ?_⟩
    intro a hma b hmb
    rw [List.mem_singleton] at hmb
    subst hmb
    have hN := ag_none ha
    rcases List.mem_append.mp hma with hma | hma
    · obtain ⟨v, hv, rfl⟩ := List.mem_map.mp hma
      obtain ⟨k, hk, rfl⟩ := List.getElem_of_mem hv
      have := hN k (by omega)
      rw [getD_left hk, List.getD_eq_getElem?_getD, List.getElem?_eq_getElem hk] at this
      exact this
    · rw [List.mem_singleton] at hma
      subst hma
      have := hN ws.length (Nat.le_refl _)
      rw [List.getD_eq_getElem?_getD, List.getElem?_append_right (Nat.le_refl _), Nat.sub_self] at this
      simp only [List.getElem?_cons_zero, Option.getD_some] at this
      rw [hh] at this
      exact this
theorem ring_len {rd ws : List Int} {r : Int} (hl : ws.length ≤ 3) (ha : agL rd ws r ≠ []) : ringL rd ws r ≠ [] ∧ (ringL rd ws r).length ≤ 4 := by
  obtain ⟨k, e1, e2, e3⟩ := ag_facts ha
  unfold ringL
  rw [e1]
  have : ((ws ++ [r]).drop k).length = ws.length + 1 - k := by rw [List.length_drop, List.length_append, List.length_singleton]
  exact ⟨fun e => by rw [e] at this; simp at this; omega, by omega⟩
theorem first_her {rd wt : List Int} {owner : Int} (h0 : ∀ v ∈ wt, 0 ≤ v) (hl : rd.length = 8) (hb : ∀ v ∈ rd, 0 ≤ v ∧ v < 4) : ∀ n ws p, ws.length + n = 4 → Diff ws p →
    firstV rd wt owner n ws p = G rd (fun p => decide (bitI owner p ≠ 0)) (wgt wt) n ws p ∧ (!firstV rd wt owner n ws p) = G rd (fun p => !decide (bitI owner p ≠ 0)) (fun r => -wgt wt r) n ws p := by
  intro n
  induction n with
  | zero => intro ws p h D; have := D.len; omega
  | succ n ih =>
    intro ws p h D
    have key : ∀ r, (r = 2 * p ∨ r = 2 * p + 1) → turnV (firstV rd wt owner n) rd wt ws r = turnG rd (wgt wt) (G rd (fun p => decide (bitI owner p ≠ 0)) (wgt wt) n) ws r ∧
        (!turnV (firstV rd wt owner n) rd wt ws r) = turnG rd (fun r => -wgt wt r) (G rd (fun p => !decide (bitI owner p ≠ 0)) (fun r => -wgt wt r) n) ws r := by
      intro r hr
      unfold turnV turnG
      by_cases ha : agL rd ws r = []
      · rw [if_pos ha, if_pos ha, if_pos ha]
        exact ih _ _ (by rw [List.length_append, List.length_singleton]; omega) (D.step hr hl hb ha)
      · rw [if_neg ha, if_neg ha, if_neg ha]
        have hR := ring_len (rd := rd) (r := r) D.len ha
        exact ring_sum hR.1 hR.2 h0
    have k0 := key (2 * p) (.inl rfl)
    have k1 := key (2 * p + 1) (.inr rfl)
    by_cases hm : bitI owner p ≠ 0
    · constructor
      · rw [firstV, G, if_pos hm, if_pos (decide_eq_true hm), k0.1, k1.1]
      · rw [firstV, G, if_pos hm, if_neg (by rw [decide_eq_true hm]; exact Bool.false_ne_true), Bool.not_or, k0.2, k1.2]
    · constructor
      · rw [firstV, G, if_neg hm, if_neg (by rw [decide_eq_false hm]; exact Bool.false_ne_true), k0.1, k1.1]
      · rw [firstV, G, if_neg hm, if_pos (by rw [decide_eq_false hm]; rfl), Bool.not_and, k0.2, k1.2]
end
-- KPlain3
noncomputable section
open PySem PySem.W PyProof.Rows PySem.Calls PySem.Spec
set_option Elab.async false
set_option maxRecDepth 100000
set_option maxHeartbeats 8000000
set_option linter.unusedVariables false
noncomputable def cycR (lv : List Int) (c place : Int) : Nat → Int → List Int
  | 0, _ => []
  | n + 1, o => if o = place then [] else rdW c o :: cycR lv c place n (nxW lv c o)
theorem cycR_len {lv : List Int} {c place : Int} : ∀ {n : Nat} {o : Int}, (cycR lv c place n o).length ≤ n
  | 0, _ => Nat.le_refl _
  | n + 1, o => by
    rw [cycR]
    split
    · exact Nat.zero_le _
    · have := cycR_len (lv := lv) (c := c) (place := place) (n := n) (o := nxW lv c o)
      rw [List.length_cons]; omega
theorem cycR_len' {lv : List Int} {c place : Int} : ∀ {n : Nat} {o : Int}, reach lv c place n o → (cycR lv c place (n + 1) o).length ≤ n
  | 0, o, h => by
    have h' : o = place := h
    rw [cycR, if_pos h']; exact Nat.le_refl _
  | n + 1, o, h => by
    rw [cycR]
    split
    · exact Nat.zero_le _
    · rename_i ne
      have := cycR_len' (n := n) (h.resolve_left ne)
      rw [List.length_cons]; omega
theorem topGo_facts {lv rv : List Int} {c place : Int} : ∀ {n : Nat} {top o : Int}, topGo lv rv c place n top o ∈ top :: cycR lv c place n o ∧ ∀ r ∈ top :: cycR lv c place n o, rv.getD r.toNat 0 ≤ rv.getD (topGo lv rv c place n top o).toNat 0
  | 0, top, o => by
    rw [topGo, cycR]
    exact ⟨List.mem_cons_self .., fun r hr => by rw [List.mem_singleton] at hr; rw [hr]; exact Int.le_refl _⟩
  | n + 1, top, o => by
    rw [topGo, cycR]
    by_cases e : o = place
    · rw [if_pos e, if_pos e]
      exact ⟨List.mem_cons_self .., fun r hr => by rw [List.mem_singleton] at hr; rw [hr]; exact Int.le_refl _⟩
    · rw [if_neg e, if_neg e]
      have h := topGo_facts (lv := lv) (rv := rv) (c := c) (place := place) (n := n) (top := if rv.getD (rdW c o).toNat 0 > rv.getD top.toNat 0 then rdW c o else top) (o := nxW lv c o)
      obtain ⟨h1, h2⟩ := h
      by_cases g : rv.getD (rdW c o).toNat 0 > rv.getD top.toNat 0
      · rw [if_pos g] at h1 h2 ⊢
        refine ⟨List.mem_cons_of_mem _ h1, fun r hr => ?_⟩
        rcases List.mem_cons.mp hr with rfl | hr
        · have := h2 _ (List.mem_cons_self ..); omega
        · exact h2 r hr
      · rw [if_neg g] at h1 h2 ⊢
        refine ⟨?_, fun r hr => ?_⟩
        · rcases List.mem_cons.mp h1 with h1 | h1
          · rw [h1]; exact List.mem_cons_self ..
          · exact List.mem_cons_of_mem _ (List.mem_cons_of_mem _ h1)
        · rcases List.mem_cons.mp hr with rfl | hr
          · exact h2 _ (List.mem_cons_self ..)
          · rcases List.mem_cons.mp hr with rfl | hr
            · have := h2 top (List.mem_cons_self ..); omega
            · exact h2 r (List.mem_cons_of_mem _ hr)
theorem tele {lv : List Int} {c place : Int} {w f : Int → Int} {W : Int → Prop} (h : ∀ x, W x → W (nxW lv c x) ∧ f (nxW lv c x) ≤ f x + w (rdW c x)) : ∀ {n : Nat} {o : Int}, W o → reach lv c place n o → f place ≤ f o + smL w (cycR lv c place (n + 1) o)
  | 0, o, hW, hr => by
    have h' : o = place := hr
    rw [cycR, if_pos h', h']; simp [smL]
  | n + 1, o, hW, hr => by
    rw [cycR]
    by_cases e : o = place
    · rw [if_pos e, e]; simp [smL]
    · rw [if_neg e]
      have h1 := h o hW
      have h2 := tele (n := n) h h1.1 (hr.resolve_left e)
      simp only [smL, List.foldr_cons] at *
      omega
noncomputable def ringC (lv : List Int) (c p : Int) : List Int := rdW c (nx4 lv c p) :: cycR lv c (nx4 lv c p) 4 (nxW lv c (nx4 lv c p))
theorem ringC_ge {lv : List Int} {c p : Int} {w f : Int → Int} {W : Int → Prop} (hl : lv.length = 8) (hb : ∀ v ∈ lv, 0 ≤ v ∧ v < 4) (hp : 0 ≤ p ∧ p < 4) (h : ∀ x, W x → W (nxW lv c x) ∧ f (nxW lv c x) ≤ f x + w (rdW c x)) (hW : W p) : 0 ≤ smL w (ringC lv c p) := by
  have h4 : W (nx4 lv c p) := (h _ (h _ (h _ (h _ hW).1).1).1).1
  have h5 := h _ h4
  have hr := reach_start hl hb hp (p1 := nxW lv c p) rfl rfl rfl rfl
  have h6 : f (nxW lv c (nxW lv c (nxW lv c (nxW lv c p)))) ≤ f (nxW lv c (nxW lv c (nxW lv c (nxW lv c (nxW lv c p))))) + smL w (cycR lv c (nxW lv c (nxW lv c (nxW lv c (nxW lv c p)))) 4 (nxW lv c (nxW lv c (nxW lv c (nxW lv c (nxW lv c p)))))) := tele h h5.1 hr
  have e : smL w (ringC lv c p) = w (rdW c (nx4 lv c p)) + smL w (cycR lv c (nx4 lv c p) 4 (nxW lv c (nx4 lv c p))) := rfl
  have e2 : nx4 lv c p = nxW lv c (nxW lv c (nxW lv c (nxW lv c p))) := rfl
  rw [e]
  rw [← e2] at h6
  omega
theorem ringC_len {lv : List Int} {c p : Int} (hl : lv.length = 8) (hb : ∀ v ∈ lv, 0 ≤ v ∧ v < 4) (hp : 0 ≤ p ∧ p < 4) : (ringC lv c p).length ≤ 4 := by
  have hr := reach_start hl hb hp (c := c) (p1 := nxW lv c p) rfl rfl rfl rfl
  have := cycR_len' hr
  unfold ringC
  rw [List.length_cons]
  exact Nat.succ_le_succ this
theorem cycR_in {lv : List Int} {c place : Int} (hl : lv.length = 8) (hb : ∀ v ∈ lv, 0 ≤ v ∧ v < 4) : ∀ {n : Nat} {o : Int}, (0 ≤ o ∧ o < 4) → ∀ r ∈ cycR lv c place n o, 0 ≤ r ∧ r < 8
  | 0, _, _, r, h => by cases h
  | n + 1, o, ho, r, h => by
    rw [cycR] at h
    split at h
    · cases h
    · rcases List.mem_cons.mp h with rfl | h
      · have := rdW_b c o; omega
      · exact cycR_in hl hb (nxW_b hl hb ho) r h
theorem ringC_in {lv : List Int} {c p : Int} (hl : lv.length = 8) (hb : ∀ v ∈ lv, 0 ≤ v ∧ v < 4) (hp : 0 ≤ p ∧ p < 4) : ∀ r ∈ ringC lv c p, 0 ≤ r ∧ r < 8 := by
  have h4 : 0 ≤ nx4 lv c p ∧ nx4 lv c p < 4 := nxW_b hl hb (nxW_b hl hb (nxW_b hl hb (nxW_b hl hb hp)))
  intro r h
  rcases List.mem_cons.mp h with rfl | h
  · have := rdW_b c (nx4 lv c p); omega
  · exact cycR_in hl hb (nxW_b hl hb h4) r h
theorem topW_in {lv rv : List Int} {c p : Int} (hl : lv.length = 8) (hb : ∀ v ∈ lv, 0 ≤ v ∧ v < 4) (hp : 0 ≤ p ∧ p < 4) : 0 ≤ topW lv rv c p ∧ topW lv rv c p < 8 :=
  ringC_in hl hb hp _ (topGo_facts (lv := lv) (rv := rv) (c := c) (place := nx4 lv c p) (n := 4) (top := rdW c (nx4 lv c p)) (o := nxW lv c (nx4 lv c p))).1
/-- what the tops and the worths have to do with one another -/
theorem top_odd {lv rv wt : List Int} {c p : Int} (hl : lv.length = 8) (hb : ∀ v ∈ lv, 0 ≤ v ∧ v < 4) (hp : 0 ≤ p ∧ p < 4) (h0 : ∀ n : Nat, 0 ≤ wt.getD n 0) (hw : ∀ a b : Nat, a < 8 → b < 8 → rv.getD a 0 ≤ rv.getD b 0 → wt.getD a 0 ≤ wt.getD b 0)
    (h : 0 ≤ smL (wgt wt) (ringC lv c p)) : (wt.getD (topW lv rv c p).toNat 0).fmod 2 = 1 := by
  refine Decidable.byContradiction fun ho => ?_
  have hT := topGo_facts (lv := lv) (rv := rv) (c := c) (place := nx4 lv c p) (n := 4) (top := rdW c (nx4 lv c p)) (o := nxW lv c (nx4 lv c p))
  have := wgt_even (wt := wt) (l := ringC lv c p) (r := topW lv rv c p) (ringC_len hl hb hp) (fun x _ => h0 _) hT.1 (fun x hx => hw _ _ (by have := ringC_in hl hb hp x hx; omega) (by have := topW_in (rv := rv) (c := c) hl hb hp; omega) (hT.2 x hx)) ho
  omega
theorem top_even {lv rv wt : List Int} {c p : Int} (hl : lv.length = 8) (hb : ∀ v ∈ lv, 0 ≤ v ∧ v < 4) (hp : 0 ≤ p ∧ p < 4) (h0 : ∀ n : Nat, 0 ≤ wt.getD n 0) (hw : ∀ a b : Nat, a < 8 → b < 8 → rv.getD a 0 ≤ rv.getD b 0 → wt.getD a 0 ≤ wt.getD b 0)
    (h : 0 ≤ smL (fun r => -wgt wt r) (ringC lv c p)) : ¬ (wt.getD (topW lv rv c p).toNat 0).fmod 2 = 1 := by
  intro ho
  have hT := topGo_facts (lv := lv) (rv := rv) (c := c) (place := nx4 lv c p) (n := 4) (top := rdW c (nx4 lv c p)) (o := nxW lv c (nx4 lv c p))
  have := wgt_odd (wt := wt) (l := ringC lv c p) (r := topW lv rv c p) (ringC_len hl hb hp) (fun x _ => h0 _) hT.1 (fun x hx => hw _ _ (by have := ringC_in hl hb hp x hx; omega) (by have := topW_in (rv := rv) (c := c) hl hb hp; omega) (hT.2 x hx)) ho
  rw [smL_neg] at h
  omega
noncomputable def f16 (i : Fin 16) : Int := (i.val : Int)
theorem to16 {x : Int} (h : 0 ≤ x ∧ x < 16) : ∃ i : Fin 16, x = f16 i := ⟨⟨x.toNat, by omega⟩, by show x = ((x.toNat : Nat) : Int); omega⟩
theorem pick_fin : ∀ o : Fin 16, ∀ b : Fin 16, Builtin.bitAnd (Builtin.bitAnd (f16 b) (f16 o)) (f16 o) = Builtin.bitAnd (f16 b) (f16 o) ∧ 0 ≤ Builtin.bitAnd (f16 b) (f16 o) ∧ Builtin.bitAnd (f16 b) (f16 o) < 16 ∧ 
    ∀ ch : Fin 16, Builtin.bitAnd (f16 ch) (f16 o) = Builtin.bitAnd (f16 b) (f16 o) → ∀ p : Fin 4, bitI (f16 o) (p.val : Int) ≠ 0 → bitI (f16 ch) (p.val : Int) = bitI (f16 b) (p.val : Int) := by decide +kernel
theorem mk_fin : ∀ b0 b1 b2 b3 : Fin 2, bitI (b0.val + 2 * b1.val + 4 * b2.val + 8 * b3.val : Int) 0 = b0.val ∧ bitI (b0.val + 2 * b1.val + 4 * b2.val + 8 * b3.val : Int) 1 = b1.val ∧ bitI (b0.val + 2 * b1.val + 4 * b2.val + 8 * b3.val : Int) 2 = b2.val ∧ bitI (b0.val + 2 * b1.val + 4 * b2.val + 8 * b3.val : Int) 3 = b3.val := by decide +kernel
theorem pick {o : Int} (ho : 0 ≤ o ∧ o < 16) (σ : Int → Int) (hσ : ∀ p, σ p = 0 ∨ σ p = 1) : ∃ part : Int, (0 ≤ part ∧ part < 16) ∧ Builtin.bitAnd part o = part ∧ ∀ ch : Int, (0 ≤ ch ∧ ch < 16) → Builtin.bitAnd ch o = part → ∀ p : Int, (0 ≤ p ∧ p < 4) → bitI o p ≠ 0 → bitI ch p = σ p := by
  have h2 : ∀ p, ∃ b : Fin 2, (b.val : Int) = σ p := fun p => by
    rcases hσ p with h | h
    · exact ⟨0, by rw [h]; rfl⟩
    · exact ⟨1, by rw [h]; rfl⟩
  obtain ⟨b0, e0⟩ := h2 0
  obtain ⟨b1, e1⟩ := h2 1
  obtain ⟨b2, e2⟩ := h2 2
  obtain ⟨b3, e3⟩ := h2 3
  obtain ⟨m0, m1, m2, m3⟩ := mk_fin b0 b1 b2 b3
  have hB : 0 ≤ (b0.val + 2 * b1.val + 4 * b2.val + 8 * b3.val : Int) ∧ (b0.val + 2 * b1.val + 4 * b2.val + 8 * b3.val : Int) < 16 := by have := b0.isLt; have := b1.isLt; have := b2.isLt; have := b3.isLt; omega
  generalize (b0.val + 2 * b1.val + 4 * b2.val + 8 * b3.val : Int) = b at *
  obtain ⟨o, rfl⟩ := to16 ho
  obtain ⟨b, rfl⟩ := to16 hB
  obtain ⟨p1, p2, p3, p4⟩ := pick_fin o b
  refine ⟨_, ⟨p2, p3⟩, p1, fun ch hch hc p hp hm => ?_⟩
  obtain ⟨ch, rfl⟩ := to16 hch
  have hp' : p = 0 ∨ p = 1 ∨ p = 2 ∨ p = 3 := by omega
  rcases hp' with rfl | rfl | rfl | rfl
  · have := p4 ch hc 0 hm
    rw [← e0, ← m0]; exact this
  · have := p4 ch hc 1 hm
    rw [← e1, ← m1]; exact this
  · have := p4 ch hc 2 hm
    rw [← e2, ← m2]; exact this
  · have := p4 ch hc 3 hm
    rw [← e3, ← m3]; exact this
theorem inv_start {rd : List Int} {mine : Int → Bool} {w : Int → Int} {p : Int} (h : G rd mine w 4 [] p = true) : Inv rd mine w [] p := ⟨by simp, h, fun k hk => by simp at hk⟩
theorem wgt_low (wt : List Int) : ∃ M : Int, 0 ≤ M ∧ (∀ r, -M ≤ wgt wt r) ∧ ∀ r, -M ≤ -wgt wt r := by
  have hx : ∀ l : List Int, ∃ M : Int, 5 ≤ M ∧ ∀ n : Nat, (5 : Int) ^ ((l.getD n 0).toNat + 1) ≤ M := by
    intro l
    induction l with
    | nil => exact ⟨5, Int.le_refl _, fun n => by simp⟩
    | cons x l ih =>
      obtain ⟨M, h5, hM⟩ := ih
      refine ⟨max M (5 ^ (x.toNat + 1)), by omega, fun n => ?_⟩
      cases n with
      | zero => simp only [List.getD_cons_zero]; omega
      | succ n => have := hM n; simp only [List.getD_cons_succ]; omega
  obtain ⟨M, h5, hM⟩ := hx wt
  have hp : ∀ r : Int, 0 < (5 : Int) ^ ((wt.getD r.toNat 0).toNat + 1) := fun r => pow_pos5 _
  refine ⟨M, by omega, fun r => ?_, fun r => ?_⟩
  · have := hM r.toNat; have := hp r; unfold wgt; split <;> omega
  · have := hM r.toNat; have := hp r; unfold wgt; split <;> omega
theorem bitI_01 (o p : Int) : bitI o p = 0 ∨ bitI o p = 1 := by
  show Builtin.bitAnd _ 1 = 0 ∨ Builtin.bitAnd _ 1 = 1
  rw [bitAnd_m1]; omega
/-- fixed roads for the one who wins the first-ring game -/
theorem posit {rd : List Int} {w : Int → Int} {M : Int} (hl : rd.length = 8) (hb : ∀ v ∈ rd, 0 ≤ v ∧ v < 4) {o : Int} (ho : 0 ≤ o ∧ o < 16) {mine : Int → Bool} (hm : ∀ p, 0 ≤ p ∧ p < 4 → mine p = decide (bitI o p ≠ 0)) (hM : ∀ r, -M ≤ w r) (M0 : 0 ≤ M) :
    ∃ part : Int, (0 ≤ part ∧ part < 16) ∧ Builtin.bitAnd part o = part ∧ ∀ ch : Int, (0 ≤ ch ∧ ch < 16) → Builtin.bitAnd ch o = part → ∀ p : Int, (0 ≤ p ∧ p < 4) → G rd mine w 4 [] p = true → 0 ≤ smL w (ringC rd ch p) := by
  obtain ⟨f, σ, hσ, hE⟩ := energy rd mine w
  obtain ⟨part, h1, h2, h3⟩ := pick ho σ hσ
  refine ⟨part, h1, h2, fun ch hch hc p hp hG => ?_⟩
  refine ringC_ge (f := f) (W := fun x => (0 ≤ x ∧ x < 4) ∧ ∃ c, Win rd mine w x c) hl hb hp (fun x hx => ?_) ⟨hp, 4 * M, fun n => surv_main rd mine w hM M0 n [] p _ (inv_start hG) (by simp [smL])⟩
  obtain ⟨hx4, hW⟩ := hx
  have hr : rdW ch x = 2 * x + bitI ch x := rfl
  have hn : nxW rd ch x = rd.getD (2 * x + bitI ch x).toNat 0 := rfl
  have hx := hE x hW
  by_cases hmx : mine x = true
  · have hk := hx.1 hmx
    have hb1 : bitI o x ≠ 0 := by
      rw [hm x hx4] at hmx; exact of_decide_eq_true hmx
    have hs := h3 ch hch hc x hx4 hb1
    rw [← hs] at hk
    refine ⟨⟨nxW_b hl hb hx4, ?_⟩, ?_⟩
    · rw [hn]; exact hk.1
    · rw [hn, hr]; exact hk.2
  · have hk := hx.2 (by simpa using hmx) (bitI ch x) (bitI_01 _ _)
    refine ⟨⟨nxW_b hl hb hx4, ?_⟩, ?_⟩
    · rw [hn]; exact hk.1
    · rw [hn, hr]; exact hk.2
end
-- KBase
noncomputable section
open PySem PySem.W PyProof.Rows PySem.Calls PySem.Spec
set_option Elab.async false
set_option maxRecDepth 100000
set_option maxHeartbeats 8000000
noncomputable abbrev pwC : Program := PySem.Challenge.pw_yh0002_01
noncomputable abbrev LW : List PySem.Str := looseW vw loo
theorem frKeep {h₀ h h' : Heap} {L : Addr} {m : PySem.Str → Option Value} (F : Fr h₀ L h m) (k : ∀ b o, h.get? b = some o → h'.get? b = some o) : Fr h₀ L h' m := by
  obtain ⟨oL, a1, a2, hL, a3⟩ := F.ns
  exact ⟨⟨oL, a1, a2, k _ _ hL, a3⟩, fun b o e => k _ _ (F.keep b o e), F.above⟩
theorem newsKeep {h₀ h h' : Heap} {L : Addr} {news : List (Addr × Obj)} (N : News h₀ L h news) (k : ∀ b o, h.get? b = some o → h'.get? b = some o) : News h₀ L h' news :=
  fun p hp => ⟨k _ _ (N p hp).1, (N p hp).2⟩
/-- a call of a def that changes nothing that stands -/
noncomputable abbrev CV (w : World) (mean : ExcName → Option Value) (mg mb : PySem.Str → Option Value) (f : Addr) (vs : List Value) (k u : Nat) (hyp : Heap → Prop) (post : Value → Heap → Prop) : Prop :=
  ∀ (dp un : Nat) (gd : Option (List Code)) (cn : PySem.Str) (cs : Scope) (a : Addr) (ccd : Value) (cl : List (PySem.Str × Addr)) (outer : List Env) (A₀ : Around) (base h₀ : Heap) (L : Addr) (m : PySem.Str → Option Value) (news : List (Addr × Obj)) (s : Shared) (Q E : Value → Shared → Prop),
    Below A₀ base outer h₀ → Fr h₀ L s.heap m → (KF w.params).In h₀ → News h₀ L s.heap news → Top vw LW mean mg mb h₀ → cs.kind = .function → hyp s.heap → dp + k < recursionLimit → un + u < cLine →
    (∀ v h' tk', Fr h₀ L h' m → News h₀ L h' news → (∀ b o, s.heap.get? b = some o → h'.get? b = some o) → post v h' → Q v { s with heap := h', toks := tk' }) →
    wpAny (model pwC w) (ktrTop dp un gd cn cs L a ccd cl outer) (call (.ref f) vs) Q E s
section
variable {prog : Program} {w : World} {A A₀ : Around} {s : Shared} {K : Frag} {L : Addr} {h₀ base : Heap} {m mg mb : PySem.Str → Option Value} {p : Program} {loose : List PySem.Str} {mean : ExcName → Option Value}
theorem code_defV {env : Env} {outer : List Env} {R : Result → Shared → Prop} {name qual : PySem.Str} {params : Arguments} {body : List Stmt} {scope : Scope} {dV kV doc pm cdv ct oc : Value} {an od : Option Addr} {osl : Array (Option Value)} {f : Addr} {args : Args} {binds : List (PySem.Str × Value)}
    (B : Below A₀ base outer h₀) (F : Fr h₀ L s.heap m) (X₀ : K.In h₀) (T : Top p loose mean mg mb h₀) (hA : A.frames = some (env :: outer)) (hf : env.frame = some L) (hke : env.scope.kind = .function)
    (ho : K.lookup f = some ⟨oc, od, .func (fnOf name qual params body scope dV kV doc pm an cdv ct), osl⟩) (hcd : codeIn K cdv qual = true) (hroom : A.depth < recursionLimit)
    (hbind : BindsTo s (fnOf name qual params body scope dV kV doc pm an cdv ct) args binds) (hloc : ∀ y ∈ binds, scope.names.lookup y.1 = some .local)
    (h : ∀ L' h₁, Fr h₀ L s.heap m → Fr s.heap L' h₁ (fun y => binds.reverse.lookup y) → News s.heap L' h₁ [] → Below A base (env :: outer) s.heap → K.In s.heap → Top p loose mean mg mb s.heap →
      wpAny (model prog w) (A.deeper (envOf qual scope L' f cdv)) (execs body (envOf qual scope L' f cdv))
        (fun fl s' => LeaveK h₀ L m s.heap R (match fl with | .ret v => v | _ => .none) s')
        (fun e s' => wpAny (model prog w) (A.deeper (envOf qual scope L' f cdv)) (leaving (envOf qual scope L' f cdv) e) (fun _ s'' => R (.error e) s'') (fun e' s'' => R (.error e') s'') s')
        { s with heap := h₁, toks := s.toks + binds.length })
    (hco : scope.isCoroutine = false) (hgen : scope.isGenerator = false) (hk : scope.kind = .function)
    (hcell : ∀ x ∈ scope.names, x.2 ≠ .cell) : codeAny (model prog w) A (.call (.ref f) args) R s := by
  refine codeAny_call_def (fd := fnOf name qual params body scope dV kV doc pm an cdv ct) (body := body) (binds := binds) hroom ((X₀.keeps F.keep) _ _ ho) rfl (T.nolimit.keeps F.keep) (codeRec_of (X₀.keeps F.keep) hcd) rfl hbind hcell hloc (fun h₁ hns hk₁ => ?_) hco hgen hk
  have B₁ := pushX B F hf hke
  refine wpAny_mono (h _ h₁ F ⟨hns, hk₁, Nat.le_refl _⟩ News.nil ⟨hA, B₁.stays, B₁.frames⟩ (X₀.keeps F.keep) (T.keeps F.keep)) (fun fl s' hl => ?_) fun _ _ y => y
  obtain ⟨L', m', news', F', N', k⟩ := hl
  have F2 := frKeep F F'.keep
  refine k F2 fun p hp => ⟨(N' p hp).1, fun q => ?_, ?_⟩
  · have h1 := (N' p hp).2.2
    obtain ⟨oL, _, _, hL, _⟩ := F.ns
    rw [q, hL] at h1; cases h1
  · cases q : h₀.get? p.1 with
    | none => rfl
    | some o => have h1 := (N' p hp).2.2; rw [F.keep _ _ q] at h1; cases h1
theorem code_defCV {env : Env} {outer : List Env} {R : Result → Shared → Prop} {name qual : PySem.Str} {params : Arguments} {body : List Stmt} {scope : Scope} {dV kV doc pm cdv ct oc : Value} {an od : Option Addr} {osl : Array (Option Value)} {f : Addr} {args : Args} {binds : List (PySem.Str × Value)}
    (B : Below A₀ base outer h₀) (F : Fr h₀ L s.heap m) (X₀ : K.In h₀) (T : Top p loose mean mg mb h₀) (hA : A.frames = some (env :: outer)) (hf : env.frame = some L) (hke : env.scope.kind = .function)
    (ho : K.lookup f = some ⟨oc, od, .func (fnOf name qual params body scope dV kV doc pm an cdv ct), osl⟩) (hcd : codeIn K cdv qual = true) (hroom : A.depth < recursionLimit)
    (hbind : BindsTo s (fnOf name qual params body scope dV kV doc pm an cdv ct) args binds) (hkind : (binds.all fun y => scope.names.lookup y.1 == some .local || scope.names.lookup y.1 == some .cell) = true)
    (hnd : ((cellsFrom 0 scope.names []).map (·.1)).Nodup)
    (h : ∀ L' h₁ tk cells, Fr h₀ L s.heap m → Fr s.heap L' h₁ (bindL (envOfC qual scope L' f cdv).kindOf binds fun _ => none) → News s.heap L' h₁ cells →
      CellsAre (bindC (envOfC qual scope L' f cdv).kindOf binds fun _ => none) (cellsFrom (L' + 1) scope.names []) cells → Below A base (env :: outer) s.heap → K.In s.heap → Top p loose mean mg mb s.heap →
      wpAny (model prog w) (A.deeper (envOfC qual scope L' f cdv)) (execs body (envOfC qual scope L' f cdv))
        (fun fl s' => LeaveK h₀ L m s.heap R (match fl with | .ret v => v | _ => .none) s')
        (fun e s' => wpAny (model prog w) (A.deeper (envOfC qual scope L' f cdv)) (leaving (envOfC qual scope L' f cdv) e) (fun _ s'' => R (.error e) s'') (fun e' s'' => R (.error e') s'') s')
        { s with heap := h₁, toks := tk })
    (hco : scope.isCoroutine = false) (hgen : scope.isGenerator = false) (hk : scope.kind = .function) : codeAny (model prog w) A (.call (.ref f) args) R s := by
  have B₁ := pushX B F hf hke
  refine codeAny_call_function hroom ((X₀.keeps F.keep) _ _ ho) rfl hco hgen rfl (codeRec_of (X₀.keeps F.keep) hcd) (hbind _ _ _ _ ?_)
  refine wpAny_newFunctionEnv_cells hk (kindsX hkind _) fun env' he s' x => ?_
  subst he
  refine ⟨(T.nolimit.keeps F.keep).keeps x.toInCall.keep, codeAny_func ?_⟩
  obtain ⟨h₁, tk, rfl, _⟩ := x.done
  have hk₁ := x.toInCall.keep
  obtain ⟨cells, NC, Y⟩ := Cl.news (h₀ := s.heap) (Nat.le_refl _) fun n c hm => ⟨x.cell n c (lookup_of_mem_nodup (cellsFrom_names scope.names 0 (s.heap.objs.size + 1) [] [] rfl ▸ hnd) hm), x.above n c hm⟩
  refine wpAny_mono (h s.heap.objs.size h₁ tk cells F ⟨x.toInCall.ns, hk₁, Nat.le_refl _⟩ NC Y ⟨hA, B₁.stays, B₁.frames⟩ (X₀.keeps F.keep) (T.keeps F.keep)) (fun fl s' hl => ?_) fun _ _ y => y
  obtain ⟨L', m', news', F', N', k⟩ := hl
  have F2 := frKeep F F'.keep
  refine k F2 fun p hp => ⟨(N' p hp).1, fun q => ?_, ?_⟩
  · have h1 := (N' p hp).2.2
    obtain ⟨oL, _, _, hL, _⟩ := F.ns
    rw [q, hL] at h1; cases h1
  · cases q : h₀.get? p.1 with
    | none => rfl
    | some o => have h1 := (N' p hp).2.2; rw [F.keep _ _ q] at h1; cases h1
end
theorem cvUse {w : World} {mean : ExcName → Option Value} {mg mb : PySem.Str → Option Value} {f : Addr} {vs : List Value} {k u : Nat} {hyp : Heap → Prop} {post : Value → Heap → Prop} (C : CV w mean mg mb f vs k u hyp post)
    {dp un : Nat} {gd : Option (List Code)} {cn : PySem.Str} {cs : Scope} {a : Addr} {ccd : Value} {cl : List (PySem.Str × Addr)} {outer : List Env} {A₀ : Around} {base h₀ : Heap} {L : Addr} {m : PySem.Str → Option Value} {news : List (Addr × Obj)} {s : Shared} {Q E : Value → Shared → Prop}
    (B : Below A₀ base outer h₀) (F : Fr h₀ L s.heap m) (X : (KF w.params).In h₀) (N : News h₀ L s.heap news) (T : Top vw LW mean mg mb h₀) (hk : cs.kind = .function) (hy : hyp s.heap) (hd : dp + k < recursionLimit) (hu : un + u < cLine)
    (h : ∀ v h' tk', Fr h₀ L h' m → News h₀ L h' news → (∀ b o, s.heap.get? b = some o → h'.get? b = some o) → post v h' → Q v { s with heap := h', toks := tk' }) :
    wpAny (model pwC w) (ktrTop dp un gd cn cs L a ccd cl outer) (call (.ref f) vs) Q E s := C _ _ _ _ _ _ _ _ _ _ _ _ _ _ _ _ _ _ B F X N T hk hy hd hu h
/-- a call that hands back a new object, and changes nothing that stands -/
noncomputable abbrev CVN (w : World) (mean : ExcName → Option Value) (mg mb : PySem.Str → Option Value) (f : Addr) (vs : List Value) (k u : Nat) (hyp : Heap → Prop) (post : Obj → Prop) : Prop :=
  ∀ (dp un : Nat) (gd : Option (List Code)) (cn : PySem.Str) (cs : Scope) (a : Addr) (ccd : Value) (cl : List (PySem.Str × Addr)) (outer : List Env) (A₀ : Around) (base h₀ : Heap) (L : Addr) (m : PySem.Str → Option Value) (news : List (Addr × Obj)) (s : Shared) (Q E : Value → Shared → Prop),
    Below A₀ base outer h₀ → Fr h₀ L s.heap m → (KF w.params).In h₀ → News h₀ L s.heap news → Top vw LW mean mg mb h₀ → cs.kind = .function → hyp s.heap → dp + k < recursionLimit → un + u < cLine →
    (∀ D o h' tk', Fr h₀ L h' m → News h₀ L h' ((D, o) :: news) → (∀ p ∈ news, p.1 ≠ D) → (∀ b o, s.heap.get? b = some o → h'.get? b = some o) → post o → Q (.ref D) { s with heap := h', toks := tk' }) →
    wpAny (model pwC w) (ktrTop dp un gd cn cs L a ccd cl outer) (call (.ref f) vs) Q E s
theorem cvnUse {w : World} {mean : ExcName → Option Value} {mg mb : PySem.Str → Option Value} {f : Addr} {vs : List Value} {k u : Nat} {hyp : Heap → Prop} {post : Obj → Prop} (C : CVN w mean mg mb f vs k u hyp post)
    {dp un : Nat} {gd : Option (List Code)} {cn : PySem.Str} {cs : Scope} {a : Addr} {ccd : Value} {cl : List (PySem.Str × Addr)} {outer : List Env} {A₀ : Around} {base h₀ : Heap} {L : Addr} {m : PySem.Str → Option Value} {news : List (Addr × Obj)} {s : Shared} {Q E : Value → Shared → Prop}
    (B : Below A₀ base outer h₀) (F : Fr h₀ L s.heap m) (X : (KF w.params).In h₀) (N : News h₀ L s.heap news) (T : Top vw LW mean mg mb h₀) (hk : cs.kind = .function) (hy : hyp s.heap) (hd : dp + k < recursionLimit) (hu : un + u < cLine)
    (h : ∀ D o h' tk', Fr h₀ L h' m → News h₀ L h' ((D, o) :: news) → (∀ p ∈ news, p.1 ≠ D) → (∀ b o, s.heap.get? b = some o → h'.get? b = some o) → post o → Q (.ref D) { s with heap := h', toks := tk' }) :
    wpAny (model pwC w) (ktrTop dp un gd cn cs L a ccd cl outer) (call (.ref f) vs) Q E s := C _ _ _ _ _ _ _ _ _ _ _ _ _ _ _ _ _ _ B F X N T hk hy hd hu h
theorem newsAdd {h₀ g h' : Heap} {L L' D : Addr} {m : PySem.Str → Option Value} {news news' : List (Addr × Obj)} {o : Obj} (F : Fr h₀ L g m) (N : News h₀ L g news) (k : ∀ b o, g.get? b = some o → h'.get? b = some o) (N' : News g L' h' news') (hm : (D, o) ∈ news') :
    News h₀ L h' ((D, o) :: news) ∧ ∀ p ∈ news, p.1 ≠ D := by
  obtain ⟨h1, h2, h3⟩ := N' _ hm
  dsimp only at h1 h2 h3
  refine ⟨fun p hp => ?_, fun p hp e => ?_⟩
  · rcases List.mem_cons.mp hp with rfl | hp
    · refine ⟨h1, fun q => ?_, ?_⟩
      · obtain ⟨oL, _, _, hL, _⟩ := F.ns
        dsimp only at q
        rw [q, hL] at h3; cases h3
      · cases q : h₀.get? D with
        | none => rfl
        | some o' => rw [F.keep _ _ q] at h3; cases h3
    · exact newsKeep N k p hp
  · have h4 := (N p hp).1
    rw [e, h3] at h4; cases h4
end
-- KCmp
noncomputable section
open PySem PySem.W PyProof.Rows PySem.Calls PySem.Spec PySem.SeqAt
set_option Elab.async false
set_option maxRecDepth 100000
set_option maxHeartbeats 8000000
set_option linter.unusedVariables false
open PySem.AutoSeq1 (wpAny_loadPart')
open PySem.MeetsSeq PySem.MeetsSeq2 PySem.MeetsSeq3 PySem.SeqRoads2
/-- the order of two lists of ints -/
noncomputable def ltL : List Int → List Int → Bool
  | [], [] => false
  | [], _ :: _ => true
  | _ :: _, [] => false
  | x :: xs, y :: ys => if x == y then ltL xs ys else decide (x < y)
theorem drop_at {l : List Int} {i : Nat} (h : i < l.length) : l.drop i = l.getD i 0 :: l.drop (i + 1) := by
  rw [List.drop_eq_getElem_cons h, List.getD_eq_getElem?_getD, List.getElem?_eq_getElem h]; rfl
theorem ints_arr {items : Array Value} {ns : List Int} (h : IntsAre items.toList ns) {i : Nat} (hi : i < ns.length) : ∃ t, items[i]? = some (.int (ns.getD i 0) t) := by
  have hl := h.length
  have hs : i < items.toList.length := by omega
  obtain ⟨n, t, e1, e2⟩ := IntsAre.at h i (items.toList[i]) (List.getElem?_eq_getElem hs)
  refine ⟨t, ?_⟩
  rw [← Array.getElem?_toList, List.getElem?_eq_getElem hs, e1, List.getD_eq_getElem?_getD, e2]; rfl
theorem lt_loop (l b : Addr) (items items2 : Array Value) (ns ms : List Int) (n n2 : Nat) (dd dd2 : Option Addr) (sl sl2 : Array (Option Value)) (hi1 : IntsAre items.toList ns) (hi2 : IntsAre items2.toList ms) (k : Nat) :
    ∀ i : Nat, ns.length - i = k → i ≤ ns.length → i ≤ ms.length → Meets (Builtin.«list.__eq__.loop» ⟨[.ref l, .ref b, rawInt i, rawInt 0], []⟩)
      (fun A R s => s.heap.get? l = some { cls := .type "list", dict := dd, data := .seq items n, slots := sl } ∧ s.heap.get? b = some { cls := .type "list", dict := dd2, data := .seq items2 n2, slots := sl2 } ∧
        R (.ok (.ret (.bool (ltL (ns.drop i) (ms.drop i))))) s) := by
  have z1 : items.size = ns.length := by rw [← Array.length_toList]; exact hi1.length
  have z2 : items2.size = ms.length := by rw [← Array.length_toList]; exact hi2.length
  induction k with
  | zero =>
    intro i hk hin him prog w A R s h
    obtain ⟨hp, g, d, tk, os⟩ := s; obtain ⟨hl, hb, h⟩ := h
    wp_walk using wpAny_loadPart' hl, wpAny_loadPart' hb
    have e1 : items[((i : Nat) : Int).toNat]? = none := by simp; omega
    have hd : ns.drop i = [] := by simp; omega
    rw [hd] at h
    by_cases hm : i < ms.length
    · obtain ⟨t2, e2⟩ := ints_arr hi2 hm
      have e2' : items2[((i : Nat) : Int).toNat]? = some (.int (ms.getD i 0) t2) := e2
      rw [e1, e2']
      wp_walk using wpAny_loadPart' hl, wpAny_loadPart' hb
      rw [drop_at hm] at h
      show R (.ok (.ret (.bool (decide (items.size < items2.size))))) _
      have : decide (items.size < items2.size) = true := by simp; omega
      rw [this]; exact h
    · have e2' : items2[((i : Nat) : Int).toNat]? = none := by simp; omega
      rw [e1, e2']
      wp_walk using wpAny_loadPart' hl, wpAny_loadPart' hb
      have hd2 : ms.drop i = [] := by simp; omega
      rw [hd2] at h
      show R (.ok (.ret (.bool (decide (items.size < items2.size))))) _
      have : decide (items.size < items2.size) = false := by simp; omega
      rw [this]; exact h
  | succ k ih =>
    intro i hk hin him prog w A R s h
    obtain ⟨hp, g, d, tk, os⟩ := s; obtain ⟨hl, hb, h⟩ := h
    wp_walk using wpAny_loadPart' hl, wpAny_loadPart' hb
    have hlt : i < ns.length := by omega
    obtain ⟨t1, e1⟩ := ints_arr hi1 hlt
    have e1' : items[((i : Nat) : Int).toNat]? = some (.int (ns.getD i 0) t1) := e1
    have hc : ((i : Int) + 1) = ((i + 1 : Nat) : Int) := by push_cast; rfl
    rw [drop_at hlt] at h
    by_cases hm : i < ms.length
    · obtain ⟨t2, e2⟩ := ints_arr hi2 hm
      have e2' : items2[((i : Nat) : Int).toNat]? = some (.int (ms.getD i 0) t2) := e2
      rw [e1', e2']
      rw [drop_at hm] at h
      refine wpAny_bind (EqAt.int_int _ _ _ _ prog w _ _ ?_)
      by_cases hq : ns.getD i 0 = ms.getD i 0
      · have hb' : (ns.getD i 0 == ms.getD i 0) = true := by simpa using hq
        have hbs : (ms.getD i 0 == ns.getD i 0) = true := by simpa using hq.symm
        rw [hb']
        unfold ltL at h
        rw [if_pos hb'] at h
        wp_walk
        rw [hc]
        exact ⟨plainId_quiet plain_eq_loop _, codeAny_builtin entry_eq_loop (by
          rw [Around.under_plainId plain_eq_loop _]
          exact ih (i + 1) (by omega) (by omega) (by omega) prog w A R _ ⟨hl, hb, h⟩)⟩
      · have hb' : (ns.getD i 0 == ms.getD i 0) = false := by simpa using hq
        have hbs : (ms.getD i 0 == ns.getD i 0) = false := by simpa using Ne.symm hq
        rw [hb']
        unfold ltL at h
        rw [if_neg (by rw [hb']; decide)] at h
        wp_walk using wpAny_loadPart' hl, wpAny_loadPart' hb
        rw [e1', e2']
        refine wpAny_bind (PyProof.Rows.lt_int ?_)
        wp_walk
        exact h
    · have e2' : items2[((i : Nat) : Int).toNat]? = none := by simp; omega
      rw [e1', e2']
      wp_walk using wpAny_loadPart' hl, wpAny_loadPart' hb
      have hd2 : ms.drop i = [] := by simp; omega
      rw [hd2] at h
      show R (.ok (.ret (.bool (decide (items.size < items2.size))))) _
      have : decide (items.size < items2.size) = false := by simp; omega
      rw [this]; exact h
theorem lt_list (l b : Addr) (items items2 : Array Value) (ns ms : List Int) (n n2 : Nat) (dd dd2 : Option Addr) (sl sl2 : Array (Option Value)) (hi1 : IntsAre items.toList ns) (hi2 : IntsAre items2.toList ms) :
    Meets (Builtin.«list.__lt__» ⟨[.ref l, .ref b], []⟩)
      (fun A R s => s.heap.get? l = some { cls := .type "list", dict := dd, data := .seq items n, slots := sl } ∧ s.heap.get? b = some { cls := .type "list", dict := dd2, data := .seq items2 n2, slots := sl2 } ∧
        R (.ok (.ret (.bool (ltL ns ms)))) s) := by
  intro prog w A R s h
  obtain ⟨hp, g, d, tk, os⟩ := s; obtain ⟨hl, hb, h⟩ := h
  have f3 := AutoSeq1.sub_list_list
  wp_walk using wpAny_loadPart' hl, wpAny_loadPart' hb
  exact ⟨plainId_quiet plain_eq_loop _, codeAny_builtin entry_eq_loop (by
    rw [Around.under_plainId plain_eq_loop _]
    exact lt_loop l b items items2 ns ms n n2 dd dd2 sl sl2 hi1 hi2 _ 0 rfl (Nat.zero_le _) (Nat.zero_le _) prog w A R _ ⟨hl, hb, by simpa using h⟩)⟩
theorem lt_lists {prog : Program} {w : World} {A : Around} {E : Value → Shared → Prop} {s : Shared} {l b : Addr} {items items2 : Array Value} {ns ms : List Int} {Q : Value → Shared → Prop} (hl : s.heap.IsList l items) (hb : s.heap.IsList b items2) (hi1 : IntsAre items.toList ns) (hi2 : IntsAre items2.toList ms) (hu : A.units < cLine) (h : Q (.bool (ltL ns ms)) s) :
    wpAny (model prog w) A (compareOp .Lt (.ref l) (.ref b)) Q E s := by
  obtain ⟨⟨cls, dd, data, sl⟩, ho, hc, n, hd⟩ := id hl
  obtain ⟨⟨cls2, dd2, data2, sl2⟩, ho2, hc2, n2, hd2⟩ := id hb
  simp only at hc hd hc2 hd2
  subst hc hd hc2 hd2
  exact richCompare_meets_room (op := .Lt) ⟨_, ho, rfl⟩ ⟨_, ho2, rfl⟩ F.slot_list_lt F.entry_list_lt (F.args_list_lt_2 _ _) (lt_list l b items items2 ns ms n n2 dd dd2 sl sl2 hi1 hi2)
    ⟨ho, ho2, show Value.bool (ltL ns ms) ≠ Value.notImplemented ∧ Q (.bool (ltL ns ms)) s from ⟨(fun x => nomatch x), h⟩⟩ hu
theorem gt_loop (l b : Addr) (items items2 : Array Value) (ns ms : List Int) (n n2 : Nat) (dd dd2 : Option Addr) (sl sl2 : Array (Option Value)) (hi1 : IntsAre items.toList ns) (hi2 : IntsAre items2.toList ms) (k : Nat) :
    ∀ i : Nat, ns.length - i = k → i ≤ ns.length → i ≤ ms.length → Meets (Builtin.«list.__eq__.loop» ⟨[.ref l, .ref b, rawInt i, rawInt 4], []⟩)
      (fun A R s => s.heap.get? l = some { cls := .type "list", dict := dd, data := .seq items n, slots := sl } ∧ s.heap.get? b = some { cls := .type "list", dict := dd2, data := .seq items2 n2, slots := sl2 } ∧
        R (.ok (.ret (.bool (ltL (ms.drop i) (ns.drop i))))) s) := by
  have z1 : items.size = ns.length := by rw [← Array.length_toList]; exact hi1.length
  have z2 : items2.size = ms.length := by rw [← Array.length_toList]; exact hi2.length
  induction k with
  | zero =>
    intro i hk hin him prog w A R s h
    obtain ⟨hp, g, d, tk, os⟩ := s; obtain ⟨hl, hb, h⟩ := h
    wp_walk using wpAny_loadPart' hl, wpAny_loadPart' hb
    have e1 : items[((i : Nat) : Int).toNat]? = none := by simp; omega
    have hd : ns.drop i = [] := by simp; omega
    rw [hd] at h
    by_cases hm : i < ms.length
    · obtain ⟨t2, e2⟩ := ints_arr hi2 hm
      have e2' : items2[((i : Nat) : Int).toNat]? = some (.int (ms.getD i 0) t2) := e2
      rw [e1, e2']
      wp_walk using wpAny_loadPart' hl, wpAny_loadPart' hb
      rw [drop_at hm] at h
      show R (.ok (.ret (.bool (decide (items.size > items2.size))))) _
      have : decide (items.size > items2.size) = false := by simp; omega
      rw [this]; exact h
    · have e2' : items2[((i : Nat) : Int).toNat]? = none := by simp; omega
      rw [e1, e2']
      wp_walk using wpAny_loadPart' hl, wpAny_loadPart' hb
      have hd2 : ms.drop i = [] := by simp; omega
      rw [hd2] at h
      show R (.ok (.ret (.bool (decide (items.size > items2.size))))) _
      have : decide (items.size > items2.size) = false := by simp; omega
      rw [this]; exact h
  | succ k ih =>
    intro i hk hin him prog w A R s h
    obtain ⟨hp, g, d, tk, os⟩ := s; obtain ⟨hl, hb, h⟩ := h
    wp_walk using wpAny_loadPart' hl, wpAny_loadPart' hb
    have hlt : i < ns.length := by omega
    obtain ⟨t1, e1⟩ := ints_arr hi1 hlt
    have e1' : items[((i : Nat) : Int).toNat]? = some (.int (ns.getD i 0) t1) := e1
    have hc : ((i : Int) + 1) = ((i + 1 : Nat) : Int) := by push_cast; rfl
    rw [drop_at hlt] at h
    by_cases hm : i < ms.length
    · obtain ⟨t2, e2⟩ := ints_arr hi2 hm
      have e2' : items2[((i : Nat) : Int).toNat]? = some (.int (ms.getD i 0) t2) := e2
      rw [e1', e2']
      rw [drop_at hm] at h
      refine wpAny_bind (EqAt.int_int _ _ _ _ prog w _ _ ?_)
      by_cases hq : ns.getD i 0 = ms.getD i 0
      · have hb' : (ns.getD i 0 == ms.getD i 0) = true := by simpa using hq
        have hbs : (ms.getD i 0 == ns.getD i 0) = true := by simpa using hq.symm
        rw [hb']
        unfold ltL at h
        rw [if_pos hbs] at h
        wp_walk
        rw [hc]
        exact ⟨plainId_quiet plain_eq_loop _, codeAny_builtin entry_eq_loop (by
          rw [Around.under_plainId plain_eq_loop _]
          exact ih (i + 1) (by omega) (by omega) (by omega) prog w A R _ ⟨hl, hb, h⟩)⟩
      · have hb' : (ns.getD i 0 == ms.getD i 0) = false := by simpa using hq
        have hbs : (ms.getD i 0 == ns.getD i 0) = false := by simpa using Ne.symm hq
        rw [hb']
        unfold ltL at h
        rw [if_neg (by rw [hbs]; decide)] at h
        wp_walk using wpAny_loadPart' hl, wpAny_loadPart' hb
        rw [e1', e2']
        refine wpAny_bind (PyProof.Rows.gt_int ?_)
        wp_walk
        exact h
    · have e2' : items2[((i : Nat) : Int).toNat]? = none := by simp; omega
      rw [e1', e2']
      wp_walk using wpAny_loadPart' hl, wpAny_loadPart' hb
      have hd2 : ms.drop i = [] := by simp; omega
      rw [hd2] at h
      show R (.ok (.ret (.bool (decide (items.size > items2.size))))) _
      have : decide (items.size > items2.size) = true := by simp; omega
      rw [this]; exact h
theorem gt_list (l b : Addr) (items items2 : Array Value) (ns ms : List Int) (n n2 : Nat) (dd dd2 : Option Addr) (sl sl2 : Array (Option Value)) (hi1 : IntsAre items.toList ns) (hi2 : IntsAre items2.toList ms) :
    Meets (Builtin.«list.__gt__» ⟨[.ref l, .ref b], []⟩)
      (fun A R s => s.heap.get? l = some { cls := .type "list", dict := dd, data := .seq items n, slots := sl } ∧ s.heap.get? b = some { cls := .type "list", dict := dd2, data := .seq items2 n2, slots := sl2 } ∧
        R (.ok (.ret (.bool (ltL ms ns)))) s) := by
  intro prog w A R s h
  obtain ⟨hp, g, d, tk, os⟩ := s; obtain ⟨hl, hb, h⟩ := h
  have f3 := AutoSeq1.sub_list_list
  wp_walk using wpAny_loadPart' hl, wpAny_loadPart' hb
  exact ⟨plainId_quiet plain_eq_loop _, codeAny_builtin entry_eq_loop (by
    rw [Around.under_plainId plain_eq_loop _]
    exact gt_loop l b items items2 ns ms n n2 dd dd2 sl sl2 hi1 hi2 _ 0 rfl (Nat.zero_le _) (Nat.zero_le _) prog w A R _ ⟨hl, hb, by simpa using h⟩)⟩
theorem gt_lists {prog : Program} {w : World} {A : Around} {E : Value → Shared → Prop} {s : Shared} {l b : Addr} {items items2 : Array Value} {ns ms : List Int} {Q : Value → Shared → Prop} (hl : s.heap.IsList l items) (hb : s.heap.IsList b items2) (hi1 : IntsAre items.toList ns) (hi2 : IntsAre items2.toList ms) (hu : A.units < cLine) (h : Q (.bool (ltL ms ns)) s) :
    wpAny (model prog w) A (compareOp .Gt (.ref l) (.ref b)) Q E s := by
  obtain ⟨⟨cls, dd, data, sl⟩, ho, hc, n, hd⟩ := id hl
  obtain ⟨⟨cls2, dd2, data2, sl2⟩, ho2, hc2, n2, hd2⟩ := id hb
  simp only at hc hd hc2 hd2
  subst hc hd hc2 hd2
  exact richCompare_meets_room (op := .Gt) ⟨_, ho, rfl⟩ ⟨_, ho2, rfl⟩ F.slot_list_gt F.entry_list_gt (F.args_list_gt_2 _ _) (gt_list l b items items2 ns ms n n2 dd dd2 sl sl2 hi1 hi2)
    ⟨ho, ho2, show Value.bool (ltL ms ns) ≠ Value.notImplemented ∧ Q (.bool (ltL ms ns)) s from ⟨(fun x => nomatch x), h⟩⟩ hu
end
-- KTurn
noncomputable section
open PySem PySem.W PyProof.Rows PySem.Calls PySem.Spec
set_option Elab.async false
set_option maxRecDepth 100000
set_option maxHeartbeats 8000000
section
variable {prog : Program} {w : World} {A₀ A : Around} {s : Shared} {base h₀ : Heap} {L : Addr} {m : PySem.Str → Option Value} {news : List (Addr × Obj)} {K : Frag} {p : Program} {loose : List PySem.Str} {mean : ExcName → Option Value} {mg mb : PySem.Str → Option Value}
    {R : Result → Shared → Prop} {name qual : PySem.Str} {params : Arguments} {body : List Stmt} {scope : Scope} {dV kV doc pm cdv ct oc : Value} {an od : Option Addr} {osl : Array (Option Value)} {f : Addr} {args : Args} {binds : List (PySem.Str × Value)} {env : Env}
theorem code_defT (B : Below A₀ base [] h₀) (F : Fr h₀ L s.heap m) (X₀ : K.In h₀) (N : News h₀ L s.heap news) (T : Top p loose mean mg mb h₀) (hA : A.frames = some [env]) (hf : env.frame = some L) (hke : env.scope.kind = .function)
    (ho : K.lookup f = some ⟨oc, od, .func (fnOf name qual params body scope dV kV doc pm an cdv ct), osl⟩) (hcd : codeIn K cdv qual = true) (hroom : A.depth < recursionLimit)
    (hbind : BindsTo s (fnOf name qual params body scope dV kV doc pm an cdv ct) args binds) (hloc : ∀ y ∈ binds, scope.names.lookup y.1 = some .local)
    (h : ∀ L' h₁, Fr h₀ L s.heap m → Fr s.heap L' h₁ (fun y => binds.reverse.lookup y) → News s.heap L' h₁ [] → Below A base [env] s.heap → K.In s.heap → Top p loose mean mg mb s.heap → KtsDicts ([env].filterMap (·.frame)) s.heap →
      wpAny (model prog w) (A.deeper (envOf qual scope L' f cdv)) (execs body (envOf qual scope L' f cdv))
        (fun fl s' => LeaveS0 ([env].filterMap (·.frame)) h₀ L m s.heap (fun r s' => News h₀ L s'.heap news → R r s') (match fl with | .ret v => v | _ => .none) s')
        (fun e s' => wpAny (model prog w) (A.deeper (envOf qual scope L' f cdv)) (leaving (envOf qual scope L' f cdv) e) (fun _ s'' => R (.error e) s'') (fun e' s'' => R (.error e') s'') s')
        { s with heap := h₁, toks := s.toks + binds.length })
    (hco : scope.isCoroutine = false) (hgen : scope.isGenerator = false) (hk : scope.kind = .function)
    (hcell : ∀ x ∈ scope.names, x.2 ≠ .cell) : codeAny (model prog w) A (.call (.ref f) args) R s := by
  have X := X₀.keeps F.keep
  refine codeAny_call_def (fd := fnOf name qual params body scope dV kV doc pm an cdv ct) (body := body) (binds := binds) hroom (X _ _ ho) rfl (T.nolimit.keeps F.keep) (codeRec_of X hcd) rfl hbind hcell hloc (fun h₁ hns hk₁ => ?_) hco hgen hk
  have B₁ := pushX B F hf hke
  have F' := F
  obtain ⟨⟨oL, es, ep, hLg, hLd, hLk, hLf⟩, _, _⟩ := F'
  have memL : ∀ b, b ∈ [env].filterMap (·.frame) → b = L := fun b hb => by
    obtain ⟨e', he, hf'⟩ := List.mem_filterMap.mp hb
    rw [List.mem_singleton.mp he, hf] at hf'
    exact (Option.some.inj hf').symm
  refine wpAny_mono (h s.heap.objs.size h₁ F ⟨hns, hk₁, Nat.le_refl _⟩ News.nil ⟨hA, B₁.stays, B₁.frames⟩ X (T.keeps F.keep) (fun b hb => by
      rw [memL b hb]
      exact ⟨oL, es, ep, hLg, hLd⟩)) (fun fl s' hl => ?_) fun _ _ y => y
  obtain ⟨g', L', m', news', T', F', N', k⟩ := hl
  have nL₀ : h₀.get? L = none := kts_self F
  obtain ⟨sl, hs⟩ := T'.up hLg
  refine k ⟨⟨_, es, ep, F'.keep _ _ hs, hLd, hLk, hLf⟩, fun b o e => F'.keep b o (T'.other b o (F.keep b o e) (fun q => by
    rw [memL b q, nL₀] at e
    cases e)), F.above⟩ (fun p hp => ⟨(N' p hp).1, fun q => ?_, ?_⟩) (fun p hp => ⟨F'.keep _ _ (T'.other _ _ (N p hp).1 (fun q => (N p hp).2.1 (memL _ q))), (N p hp).2⟩)
  · have := (N' p hp).2.2; rw [q, hs] at this; cases this
  · cases q : h₀.get? p.1 with
    | none => rfl
    | some o =>
      obtain ⟨sl', hs'⟩ := T'.up (F.keep _ _ q)
      have := (N' p hp).2.2
      rw [hs'] at this
      cases this
end
/-- a call from the outermost frame that hands back a new object; the frame's own slots may turn (an exception flew below it) -/
noncomputable abbrev CVT (w : World) (mean : ExcName → Option Value) (mg mb : PySem.Str → Option Value) (f : Addr) (vs : List Value) (k u : Nat) (hyp : Heap → Prop) (post : Obj → Prop) : Prop :=
  ∀ (dp un : Nat) (gd : Option (List Code)) (cn : PySem.Str) (cs : Scope) (a : Addr) (ccd : Value) (cl : List (PySem.Str × Addr)) (A₀ : Around) (h₀ : Heap) (L : Addr) (m : PySem.Str → Option Value) (news : List (Addr × Obj)) (s : Shared) (Q E : Value → Shared → Prop),
    Below A₀ h₀ [] h₀ → Fr h₀ L s.heap m → (KF w.params).In h₀ → News h₀ L s.heap news → Top vw LW mean mg mb h₀ → cs.kind = .function → hyp s.heap → dp + k < recursionLimit → un + u < cLine →
    (∀ D o h' tk', Fr h₀ L h' m → News h₀ L h' ((D, o) :: news) → post o → Q (.ref D) { s with heap := h', toks := tk' }) →
    wpAny (model pwC w) (ktrTop dp un gd cn cs L a ccd cl []) (call (.ref f) vs) Q E s
theorem cvtUse {w : World} {mean : ExcName → Option Value} {mg mb : PySem.Str → Option Value} {f : Addr} {vs : List Value} {k u : Nat} {hyp : Heap → Prop} {post : Obj → Prop} (C : CVT w mean mg mb f vs k u hyp post)
    {dp un : Nat} {gd : Option (List Code)} {cn : PySem.Str} {cs : Scope} {a : Addr} {ccd : Value} {cl : List (PySem.Str × Addr)} {A₀ : Around} {h₀ : Heap} {L : Addr} {m : PySem.Str → Option Value} {news : List (Addr × Obj)} {s : Shared} {Q E : Value → Shared → Prop}
    (B : Below A₀ h₀ [] h₀) (F : Fr h₀ L s.heap m) (X : (KF w.params).In h₀) (N : News h₀ L s.heap news) (T : Top vw LW mean mg mb h₀) (hk : cs.kind = .function) (hy : hyp s.heap) (hd : dp + k < recursionLimit) (hu : un + u < cLine)
    (h : ∀ D o h' tk', Fr h₀ L h' m → News h₀ L h' ((D, o) :: news) → post o → Q (.ref D) { s with heap := h', toks := tk' }) :
    wpAny (model pwC w) (ktrTop dp un gd cn cs L a ccd cl []) (call (.ref f) vs) Q E s := C _ _ _ _ _ _ _ _ _ _ _ _ _ _ _ _ B F X N T hk hy hd hu h
end
-- KExc
noncomputable section
open PySem PySem.W PyProof.Rows PySem.Calls PySem.Spec
set_option Elab.async false
set_option maxRecDepth 100000
set_option maxHeartbeats 8000000
noncomputable def OwnExc (h : Heap) (e C t : Addr) (vs : List Value) : Prop := (∃ o ws, h.get? e = some o ∧ o.cls = .ref C ∧ o.data = .fields ws ∧ ws[0]? = some (.ref t)) ∧ h.TupAt t vs
theorem ownExc_of {h₀ h : Heap} {L e t C : Addr} {news : List (Addr × Obj)} {vs : List Value} (N : News h₀ L h news) (G : Got news e t (.ref C) vs) : OwnExc h e C t vs := by
  obtain ⟨oe, ot, ws, nt, h1, h2, hc, hd, h0, htc, htd⟩ := G
  exact ⟨⟨oe, ws, (N _ h1).1, hc, hd, h0⟩, ⟨ot, nt, (N _ h2).1, htc, htd⟩⟩
section
variable {prog : Program} {w : World} {A : Around} {E : Value → Shared → Prop} {s : Shared} {e t0 C : Addr} {K : Frag} {m : PySem.Str} {tk : Tok}
theorem ownTy {M : Model} {h : Heap} {vs : List Value} (x : OwnExc h e C t0 vs) : Looks M h (typeOf (.ref e)) (.ref C) := by
  obtain ⟨⟨o, ws, ho, hc, _⟩, _⟩ := x
  exact hc ▸ (Looks.ld ho).andThen .now
theorem bexcArgsO {M : Model} {items : List Value} {Q : Value × List Value → Shared → Prop} (x : OwnExc s.heap e C t0 items) (hq : Q (.ref t0, items) s) :
    wpAny M A (Builtin.BaseException.bexcArgs (.ref e)) Q E s := by
  obtain ⟨⟨o, vs, ho, _, hd, h0⟩, ot, k, hto, _, htd⟩ := x
  unfold Builtin.BaseException.bexcArgs
  refine wpAny_bind (wpAny_field ho hd h0 (wpAny_bind (wpAny_seqItems hto htd ?_)))
  have : items.toArray.toList = items := by simp
  show wpAny M A (pure (Value.ref t0, items.toArray.toList)) Q E s
  rw [this]; exact wpAny_pure hq
theorem bexcStrO {Q : Fin → Shared → Prop} (x : OwnExc s.heap e C t0 [.str m tk]) (hq : Q (.done (.ret (.str m tk))) s) :
    wpAny (model prog w) A (Builtin.«BaseException.__str__» ⟨[.ref e], []⟩) Q E s := by
  unfold Builtin.«BaseException.__str__»
  repeat (first | with_reducible refine bexcArgsO x ?_ | wp_step)
  exact hq
theorem bind_bexc (self : Value) : bindSpecial (.builtin "BaseException.__str__") self = pure (.builtin "BaseException.__str__", [self]) := rfl
theorem specialO {args : List Value} {Q : Option Value → Shared → Prop} {vs : List Value} (X : K.In s.heap) (I : OwnExc s.heap e C t0 vs) (hs : findIn K (.ref C) "__str__" = some (some (.builtin "BaseException.__str__")))
    {M : Model} (h : wpAny M A (call (.builtin "BaseException.__str__") (.ref e :: args)) (fun v => Q (some v)) E s) : wpAny M A (callSpecial? (.ref e) "__str__" args) Q E s :=
  wpAny_bind (wpAny_bind ((ownTy I).here ((looks_findIn X hs).here (wpAny_holding (wpAny_bind ((Looks.of_pure (bind_bexc _)).here (wpAny_bind (wpAny_mono h (fun _ _ z => wpAny_pure z) fun _ _ z => z))))))))
theorem strOfO (hu : A.units < cLine) {Q : Value → Shared → Prop} (X : K.In s.heap) (I : OwnExc s.heap e C t0 [.str m tk]) (hs : findIn K (.ref C) "__str__" = some (some (.builtin "BaseException.__str__"))) (hm : mroIn K C (.type "BaseException") = some true) (hq : Q (.str m tk) s) :
    wpAny (model prog w) A (Builtin.Str.strOf (.ref e)) Q E s := by
  have c : ∀ {Q : Value → Shared → Prop}, Q (.str m tk) s → wpAny (model prog w) A (call (.builtin "BaseException.__str__") [.ref e]) Q E s := fun {Q} hq =>
    wpAny_call (codeAny_call_builtin (b := Builtin.«BaseException.__str__») (by decide +kernel) F.entry_bexc_str (check_slot (i := "BaseException.__str__") (owner := "BaseException") (n := "__str__") (by decide +kernel) (by decide +kernel) ((ownTy I).andThen (looks_mroIn X hm)) (F.args_bexc_str _)
      (bexcStrO I hq)))
  unfold Builtin.Str.strOf
  repeat (first | with_reducible refine wpAny_cRoomFor hu ?_ | with_reducible refine specialO X I hs (c ?_) | wp_step)
  exact hq
theorem str_own (hu : A.units + 2 < cLine) {Q : Value → Shared → Prop} (X : K.In s.heap) (I : OwnExc s.heap e C t0 [.str m tk]) (hs : findIn K (.ref C) "__str__" = some (some (.builtin "BaseException.__str__"))) (hm : mroIn K C (.type "BaseException") = some true) (h : Q (.str m tk) s) :
    wpAny (model prog w) A (call (.type "str") [.ref e]) Q E s :=
  callType_new F.called_str (by decide) (F.typeCall_str_1 _) (F.newCall_str_1 _) (fun obj => F.args_object_init_2 obj _) F.entry_str_new
    (meets_str_new (S := fun A' R s' => A'.units + 1 < cLine ∧ K.In s'.heap ∧ OwnExc s'.heap e C t0 [.str m tk] ∧ R (.ok (.ret (.str m tk))) s')
      fun _ _ A' _ _ hq => strOfO (A := A'.in1) hq.1 hq.2.1 hq.2.2.1 hs hm hq.2.2.2)
    ⟨(show A.units + 1 + 1 < cLine from hu), X, I, typeIs_str _ _ _, h⟩
end
end
-- KSets
noncomputable section
open PySem PySem.W PyProof.Rows PySem.Calls PySem.Spec
set_option Elab.async false
set_option maxRecDepth 100000
set_option maxHeartbeats 8000000
/-- the elements of a set's object that are ints, as the table bears them -/
noncomputable def intsOf (o : Obj) : List Int := match o.data with
  | .set es _ _ => es.toList.map (·.1)
  | _ => []
noncomputable def okSet (o : Obj) : Bool := (match o with
  | ⟨.type "set", none, .set es _ t, sl⟩ => sl.isEmpty && es.toList.all (fun e => match e.2 with | .int i _ => i == e.1 && hashInt i == i | _ => false) && t.fits es.size && decide (es.size < scanBound)
  | _ => false)
theorem setOf_ok {prog : Program} {w : World} {h : Heap} {a : Addr} {o : Obj} (ho : h.get? a = some o) (ok : okSet o = true) : h.SetOf (intKind prog w) a (fun k => decide (k ∈ intsOf o)) (intsOf o).length := by
  unfold okSet at ok
  split at ok
  · rename_i es ep t sl
    simp only [Bool.and_eq_true, List.all_eq_true, decide_eq_true_eq] at ok
    obtain ⟨⟨⟨h1, h2⟩, h3⟩, h4⟩ := ok
    have key : ∀ e ∈ es.toList, ∃ tk, e.2 = .int e.1 tk ∧ hashInt e.1 = e.1 := fun e he => by
      have := h2 e he
      split at this
      · rename_i i tk hi
        simp only [Bool.and_eq_true, beq_iff_eq] at this
        obtain ⟨rfl, h⟩ := this
        exact ⟨tk, hi, h⟩
      · cases this
    refine ⟨_, es, ep, t, ho, ⟨rfl, rfl, ?_⟩, rfl, fun e he => ?_, fun k => ?_, h4, h3, ?_⟩
    · simpa using h1
    · obtain ⟨tk, e2, hh⟩ := key e he
      refine ⟨⟨e.1, ?_, hh.symm⟩, ?_⟩
      · rw [e2]; exact intKind_is _ _ _ _
      · rw [e2]; rfl
    · simp only [intsOf, decide_eq_true_eq, List.mem_map]
      constructor
      · rintro ⟨e, he, rfl⟩
        obtain ⟨tk, e2, hh⟩ := key e he
        exact ⟨e, he, by rw [e2]; exact intKind_is _ _ _ _⟩
      · rintro ⟨e, he, hk⟩
        obtain ⟨tk, e2, hh⟩ := key e he
        refine ⟨e, he, ?_⟩
        exact (intKind prog w).inj _ _ _ (by rw [e2]; exact intKind_is _ _ _ _) hk
    · simp [intsOf]
  · cases ok
section
variable {prog : Program} {w : World} {A : Around} {E : Value → Shared → Prop} {s : Shared} {K : Frag} {h₀ : Heap} {L a : Addr} {m : PySem.Str → Option Value}
theorem in_setK {o : Obj} {i : Int} {t : Tok} {Q : Value → Shared → Prop} (F : Fr h₀ L s.heap m) (X : K.In h₀) (hl : K.lookup a = some o) (ok : okSet o = true) (h : Q (.bool (decide (i ∈ intsOf o))) { s with toks := s.toks + 1 }) :
    wpAny (model prog w) A (compareOp .In (.int i t) (.ref a)) Q E s :=
  wpAny_inSet_of (knd := intKind prog w) (intKind_is _ _ _ _) rfl (setOf_ok ((X.keeps F.keep) _ _ hl) ok) h
end
theorem ok6 (P : Params) : okSet (q3_23 P) = true := by kernel_rfl
theorem ok7 (P : Params) : okSet (q8_35 P) = true := by kernel_rfl
theorem ok8 (P : Params) : okSet (q8_59 P) = true := by kernel_rfl
theorem ok9 (P : Params) : okSet (q9_77 P) = true := by kernel_rfl
theorem ints6 (P : Params) : intsOf (q3_23 P) = [65529, 65530, 65531, 65532, 65533] := by kernel_rfl
noncomputable def rg (a n : Nat) : List Int := (List.range n).map fun i => ((a + i : Nat) : Int)
theorem ints7 (P : Params) : intsOf (q8_35 P) = rg 12272 12 := by kernel_rfl
theorem ints8 (P : Params) : ∀ i, i ∈ intsOf (q8_59 P) ↔ i ∈ [832, 833, 8206, 8207] ++ rg 8234 5 ++ rg 8298 6 := fun i =>
  (show List.Perm (intsOf (q8_59 P)) ([832, 833, 8206, 8207] ++ rg 8234 5 ++ rg 8298 6) from by
    have : (intsOf (q8_59 P)).isPerm ([832, 833, 8206, 8207] ++ rg 8234 5 ++ rg 8298 6) = true := by kernel_rfl
    exact List.isPerm_iff.mp this).mem_iff
theorem ints9 (P : Params) : intsOf (q9_77 P) = 917505 :: rg 917536 96 := by kernel_rfl
end
-- HeapQ4
noncomputable section
open PySem PySem.W PyProof.Rows
set_option Elab.async false
set_option maxRecDepth 100000
set_option maxHeartbeats 0
noncomputable def kc0 : Nat := 403
noncomputable def cLoop : Code := .builtin "set.update.loop" { pos := [.ref 77, .ref 78], kw := [] }
noncomputable def pLoop : Pos := { line := 18, col := 9, endLine := 18, endCol := 52 }
noncomputable def Tc (P : Params) (a b : Obj) : BT := (.node (boot_o_0 P) (.node (boot_o_1 P) (.node (q8_3 P) (.node (boot_o_7 P) (.node (q3_15 P) (.node (q8_31 P) (.node (q8_63 P) .nil .nil) .nil) (.node (q8_47 P) .nil .nil)) (.node (q3_23 P) (.node (q8_39 P) (.node (q9_71 P) .nil .nil) .nil) (.node (q8_55 P) .nil .nil))) (.node (q0_11 P) (.node (q3_19 P) (.node (q8_35 P) (.node (q8_67 P) .nil .nil) .nil) (.node (q8_51 P) .nil .nil)) (.node (q8_27 P) (.node (q8_43 P) (.node (q9_75 P) .nil .nil) .nil) (.node (q8_59 P) .nil .nil)))) (.node (boot_o_5 P) (.node (boot_o_9 P) (.node (q3_17 P) (.node (q8_33 P) (.node (q8_65 P) .nil .nil) .nil) (.node (q8_49 P) .nil .nil)) (.node (q3_25 P) (.node (q8_41 P) (.node (q9_73 P) .nil .nil) .nil) (.node (q8_57 P) .nil .nil))) (.node (q0_13 P) (.node (q3_21 P) (.node (q8_37 P) (.node (q8_69 P) .nil .nil) .nil) (.node (q8_53 P) .nil .nil)) (.node (q8_29 P) (.node (q8_45 P) (.node a .nil .nil) .nil) (.node (q8_61 P) .nil .nil))))) (.node (boot_o_2 P) (.node (boot_o_4 P) (.node (boot_o_8 P) (.node (q3_16 P) (.node (q8_32 P) (.node (q8_64 P) .nil .nil) .nil) (.node (q8_48 P) .nil .nil)) (.node (q3_24 P) (.node (q8_40 P) (.node (q9_72 P) .nil .nil) .nil) (.node (q8_56 P) .nil .nil))) (.node (q8_12 P) (.node (q3_20 P) (.node (q8_36 P) (.node (q8_68 P) .nil .nil) .nil) (.node (q8_52 P) .nil .nil)) (.node (q8_28 P) (.node (q8_44 P) (.node (q9_76 P) .nil .nil) .nil) (.node (q8_60 P) .nil .nil)))) (.node (boot_o_6 P) (.node (boot_o_10 P) (.node (q3_18 P) (.node (q8_34 P) (.node (q8_66 P) .nil .nil) .nil) (.node (q8_50 P) .nil .nil)) (.node (q3_26 P) (.node (q8_42 P) (.node (q9_74 P) .nil .nil) .nil) (.node (q8_58 P) .nil .nil))) (.node (q0_14 P) (.node (q3_22 P) (.node (q8_38 P) (.node (q9_70 P) .nil .nil) .nil) (.node (q8_54 P) .nil .nil)) (.node (q8_30 P) (.node (q8_46 P) (.node b .nil .nil) .nil) (.node (q8_62 P) .nil .nil))))))
noncomputable abbrev stc (P : Params) (a b : Obj) (k : Nat) (o : OsState) : SharedT := ⟨Tc P a b, 79, {}, #[], {}, k, o⟩
end
-- KHeadL
noncomputable section
open PySem PySem.W PyProof.Rows
set_option Elab.async false
set_option maxRecDepth 100000
set_option maxHeartbeats 0
set_option linter.unusedVariables false
noncomputable section
noncomputable abbrev pF (w : World) (b : Bool) : World := w.withFollow "special-get-raises" b
noncomputable abbrev TB := PySem.W.Fast.tw14364793385576792824
noncomputable abbrev annR : Option Value := some (.ref 6)
/-- a stretch of the top, from state to state -/
noncomputable abbrev SegOk (w : World) (a b n : Nat) (s s' : OsState → SharedT) (p p' : Pos) : Prop := ∀ os, segRunT treeTable pw w 11 annR 1 n (s os) (piecesOf (sts a b) env0 c0 p fr0) = some (Flow.next, s' os, c0, p')
theorem seg_0_3_f (w : World) : (fun os => PySem.W.Fast.tw10110043849684766642 TB pw (pF w false) 11 (some (.ref 6)) 1 239 (st (L0 (pF w false).params) n0 k0 os) ⟨(PySem.W.Fast.tw12563942051412417395 (sts 0 3) env0).wrap doneF deadEnd id id, c0, p0, fr0⟩)
  = fun os => some (Flow.next, st (L3 (pF w false).params) n3 k3 os, c0, p3) := by kernel_rfl
theorem SegOk.of {w : World} {a b n : Nat} {s s' : OsState → SharedT} {p p' : Pos} (h : (fun os => PySem.W.Fast.tw10110043849684766642 TB pw w 11 (some (.ref 6)) 1 n (s os) ⟨(PySem.W.Fast.tw12563942051412417395 (sts a b) env0).wrap doneF deadEnd id id, c0, p, fr0⟩) = fun os => some (Flow.next, s' os, c0, p')) : SegOk w a b n s s' p p' := fun os => by
  have := congrFun h os
  rw [← PySem.W.Fast.te10110043849684766642, ← PySem.W.Fast.te12563942051412417395] at this
  unfold TB at this
  rw [← PySem.W.Fast.te14364793385576792824] at this
  exact this
theorem x_0_3 (w : World) : SegOk (pF w false) 0 3 239 (st (L0 (pF w false).params) n0 k0) (st (L3 (pF w false).params) n3 k3) p0 p3 := .of (seg_0_3_f w)
theorem pre_f (w : World) : (fun os => PySem.W.Fast.tw15667345088766844465 TB pw (pF w false) 11 (some (.ref 6)) 12 ⟨boot_heap (pF w false).params, ⟨[]⟩, boot_drawn, boot_toks, os⟩ (topStub pw))
  = fun os => some ((st (L0 (pF w false).params) n0 k0 os).abs, (⟨PySem.W.Fast.tw11892475500146522536 TB c0, c0, p0, fr0⟩ : Thread)) := by kernel_rfl
theorem block_f (w : World) : (fun os => PySem.W.Fast.tw10110043849684766642 TB pw (pF w false) 11 (some (.ref 6)) 1 1 (st (L0 (pF w false).params) n0 k0 os) (blockOf (behindTheImports pw) env0 c0 p0 fr0))
  = fun os => some (Flow.next, st (L0 (pF w false).params) n0 k0 os, c0, p0) := by kernel_rfl
theorem fin_f (w : World) : (fun os => PySem.W.Fast.tw14082659384304107361 TB pw (pF w false) 11 (some (.ref 6)) 2 (st (L27 (pF w false).params) n27 k27 os).abs ⟨doneF .next, c0, p27, fr0⟩)
  = fun os => some (st (L27 (pF w false).params) n27 k27 os).abs := by kernel_rfl
theorem size_f (w : World) : (fun (_ : Nat) => ((boot_heap (pF w false).params).isNs mainGlobals && (⟨[]⟩ : Array GenState).size == 0, (boot_heap (pF w false).params).objs.size, (boot_heap (pF w false).params).nsMap mainGlobals "__annotations__")) = fun _ => (true, 11, annR) := by kernel_rfl
theorem plain_o : opening pw = plainProg pw.main.scope.names := rfl
theorem plain_f : ∀ s : Shared, fenceModules? pw s = some s := fun s => rfl
theorem plain_n : Nat.ble 600 13000 = true := by decide
theorem open_ok : ∀ w : World, (fencedOpening treeTable pw w 13000).map (fun s => (s.heap, s.gens, s.drawn, s.toks)) = some (boot_heap w.params, ⟨[]⟩, boot_drawn, boot_toks) := boot_open plain_o plain_n plain_f
end
end
-- KChk
noncomputable section
open PySem PySem.W PyProof.Rows
set_option Elab.async false
set_option maxRecDepth 100000
set_option maxHeartbeats 0
set_option linter.unusedVariables false
noncomputable section
noncomputable abbrev den8 : Code → Sem Fin := PySem.W.Fast.tw11892475500146522536 TB
noncomputable abbrev st8 (w : World) (b led : Bool) (x : Bool → Obj) (y : Obj) (k : Nat) (os : OsState) : SharedT := stc (pF w b).params (x led) y k os
noncomputable abbrev Chunk (b led : Bool) (n : Nat) (x x' : Bool → Obj) (y y' : Obj) (kk kk' : Nat) : Prop := ∀ (w : World) (k : Result → Sem Fin) (h : Option Value) (g : Bool) (l : List Value) (cd : Code) (q : Pos) (kept : List Value) (f2 f3 f4 : Frame),
  (fun os => PySem.W.Fast.tw10295753902157049106 TB pw (pF w b) 11 (some (.ref 6)) 1 n (st8 w b led x y kk os) ⟨den8 cLoop, cLoop, pLoop, [.ret k h g l cd q kept, f2, f3, f4]⟩)
  = fun os => some (st8 w b led x' y' kk' os, ⟨den8 cLoop, cLoop, pLoop, [.ret k h g l cd q kept, f2, f3, f4]⟩)
noncomputable def eqN : List Nat → List Nat → Bool
  | [], [] => true
  | a :: r, b :: q => Nat.beq a b && eqN r q
  | _, _ => false
theorem eqN_eq : ∀ {l q : List Nat}, eqN l q = true → l = q
  | [], [], _ => rfl
  | a :: r, b :: q, h => by
    obtain ⟨h1, h2⟩ := Bool.and_eq_true_iff.mp h
    rw [Nat.eq_of_beq_eq_true h1, eqN_eq h2]
  | [], _ :: _, h => by cases h
  | _ :: _, [], h => by cases h
noncomputable def eqI : Int → Nat → Bool
  | .ofNat n, m => Nat.beq n m
  | _, _ => false
theorem eqI_eq : ∀ {i : Int} {n : Nat}, eqI i n = true → i = Int.ofNat n
  | .ofNat n, m, h => by rw [Nat.eq_of_beq_eq_true h]
  | .negSucc n, m, h => by cases h
/-- a pair of the table: hash, and the int that bears it -/
noncomputable def eqP : Int × Value → Nat × Nat → Bool
  | (h, .int i t), (a, b) => eqI h a && (eqI i a && Nat.beq t b)
  | _, _ => false
noncomputable def ofP (p : Nat × Nat) : Int × Value := (Int.ofNat p.1, .int (Int.ofNat p.1) p.2)
theorem eqP_eq {x : Int × Value} {p : Nat × Nat} (h : eqP x p = true) : x = ofP p := by
  obtain ⟨a, b⟩ := p
  obtain ⟨h0, v⟩ := x
  cases v with
  | int i t =>
    obtain ⟨h1, h2⟩ := Bool.and_eq_true_iff.mp h
    obtain ⟨h2, h3⟩ := Bool.and_eq_true_iff.mp h2
    have e1 := eqI_eq h1
    have e2 := eqI_eq h2
    have e3 := Nat.eq_of_beq_eq_true h3
    subst e1; subst e2; subst e3
    rfl
  | _ => cases h
noncomputable def eqL : List (Int × Value) → List (Nat × Nat) → Bool
  | [], [] => true
  | a :: r, b :: q => eqP a b && eqL r q
  | _, _ => false
theorem eqL_eq : ∀ {l : List (Int × Value)} {q : List (Nat × Nat)}, eqL l q = true → l = q.map ofP
  | [], [], _ => rfl
  | a :: r, b :: q, h => by
    obtain ⟨h1, h2⟩ := Bool.and_eq_true_iff.mp h
    rw [eqP_eq h1, eqL_eq h2]; rfl
  | [], _ :: _, h => by cases h
  | _ :: _, [], h => by cases h
noncomputable def setL (items : List (Nat × Nat)) (ver mask : Nat) (place : List Nat) (mv : Nat) (led : Bool) : Data :=
  .set ⟨items.map ofP⟩ ver { mask := mask, place := ⟨place⟩, dummies := #[], finger := 0, led := led, moves := mv, plain := true }
noncomputable def isNil : List Nat → Bool | [] => true | _ => false
/-- the object, its set's parts told anew -/
noncomputable def fixO (items : List (Nat × Nat)) (ver mask : Nat) (place : List Nat) (mv : Nat) : Obj → Option Obj
  | ⟨c, d, .set ⟨e⟩ v ⟨m, ⟨pl⟩, ⟨du⟩, fi, led, mo, pn⟩, sl⟩ =>
    match eqL e items && (Nat.beq v ver && (Nat.beq m mask && (eqN pl place && (isNil du && (Nat.beq fi 0 && (Nat.beq mo mv && pn)))))) with
    | true => some ⟨c, d, setL items ver mask place mv led, sl⟩
    | false => none
  | _ => none
theorem fixO_eq {items : List (Nat × Nat)} {ver mask : Nat} {place : List Nat} {mv : Nat} {o o' : Obj} (h : fixO items ver mask place mv o = some o') : o = o' := by
  obtain ⟨c, d, da, sl⟩ := o
  cases da with
  | set e v t =>
    obtain ⟨e⟩ := e
    obtain ⟨m, ⟨pl⟩, ⟨du⟩, fi, led, mo, pn⟩ := t
    unfold fixO at h
    dsimp only at h
    split at h
    · rename_i hc
      simp only [Bool.and_eq_true] at hc
      obtain ⟨h1, h2, h3, h4, h5, h6, h7, h8⟩ := hc
      have e1 := eqL_eq h1
      have e2 := Nat.eq_of_beq_eq_true h2
      have e3 := Nat.eq_of_beq_eq_true h3
      have e4 := eqN_eq h4
      have e6 := Nat.eq_of_beq_eq_true h6
      have e7 := Nat.eq_of_beq_eq_true h7
      cases du with
      | cons a r => cases h5
      | nil =>
        subst e1; subst e2; subst e3; subst e4; subst e6; subst e7; subst h8
        exact Option.some.inj h
    · cases h
  | _ => cases h
theorem ins_same : ∀ (T : BT) (i : Nat) (o : Obj), T.get i = some o → T.ins i o = T
  | .nil, _, _, h => by cases h
  | .node v l r, i, o, h => by
    unfold BT.get at h
    unfold BT.ins
    cases e : Nat.beq i 0 with
    | true => rw [e] at h; dsimp only at h ⊢; rw [Option.some.inj h]
    | false =>
      rw [e] at h
      dsimp only at h ⊢
      cases e2 : Nat.beq (i % 2) 1 with
      | true => rw [e2] at h; dsimp only at h ⊢; rw [ins_same l _ _ h]
      | false => rw [e2] at h; dsimp only at h ⊢; rw [ins_same r _ _ h]
noncomputable def fixR (items : List (Nat × Nat)) (ver mask : Nat) (place : List Nat) (mv toks : Nat) : Option (SharedT × Thread) → Option (SharedT × Thread)
  | some (⟨T, n, li, g, dr, k, os⟩, t) => match Nat.beq k toks with
    | true => match T.get 77 with
      | some o => match fixO items ver mask place mv o with
        | some o' => some (⟨T.ins 77 o', n, li, g, dr, toks, os⟩, t)
        | none => none
      | none => none
    | false => none
  | none => none
theorem fixR_eq {items : List (Nat × Nat)} {ver mask : Nat} {place : List Nat} {mv toks : Nat} {r : Option (SharedT × Thread)} {x : SharedT × Thread} (h : fixR items ver mask place mv toks r = some x) : r = some x := by
  cases r with
  | none => cases h
  | some y =>
    obtain ⟨⟨T, n, li, g, dr, k, os⟩, t⟩ := y
    unfold fixR at h
    dsimp only at h
    split at h
    · rename_i hk
      split at h
      · rename_i o ho
        split at h
        · rename_i o' ho'
          have e := fixO_eq ho'
          subst e
          rw [ins_same _ _ _ ho] at h
          rw [← Nat.eq_of_beq_eq_true hk] at h
          exact h
        · cases h
      · cases h
    · cases h
noncomputable def upP : Nat → Nat → Nat → List (Nat × Nat)
  | 0, _, _ => []
  | n + 1, a, t => (a, t) :: upP n (a + 1) (t + 1)
noncomputable def upN : Nat → Nat → List Nat
  | 0, _ => []
  | n + 1, a => a :: upN n (a + 1)
noncomputable def oS (items : List (Nat × Nat)) (ver mask : Nat) (place : List Nat) (mv : Nat) (led : Bool) : Obj := { cls := .type "set", data := setL items ver mask place mv led }
theorem Chunk.of {b led : Bool} {n : Nat} {x : Bool → Obj} {y y' : Obj} {kk kk' : Nat} {items : List (Nat × Nat)} {ver mask : Nat} {place : List Nat} {mv : Nat}
    (hh : ∀ (w : World) (k : Result → Sem Fin) (h : Option Value) (g : Bool) (l : List Value) (cd : Code) (q : Pos) (kept : List Value) (f2 f3 f4 : Frame),
  (fun os => fixR items ver mask place mv kk' (PySem.W.Fast.tw10295753902157049106 TB pw (pF w b) 11 (some (.ref 6)) 1 n (st8 w b led x y kk os) ⟨den8 cLoop, cLoop, pLoop, [.ret k h g l cd q kept, f2, f3, f4]⟩))
  = fun os => some (st8 w b led (oS items ver mask place mv) y' kk' os, ⟨den8 cLoop, cLoop, pLoop, [.ret k h g l cd q kept, f2, f3, f4]⟩)) : Chunk b led n x (oS items ver mask place mv) y y' kk kk' := by
  intro w k h g l cd q kept f2 f3 f4
  funext os
  exact fixR_eq (congrFun (hh w k h g l cd q kept f2 f3 f4) os)
noncomputable def yS (k : Nat) : Obj := { cls := .type "list_iterator", data := .fields #[.ref 76, .int (Int.ofNat k) 0] }
noncomputable def kS (k : Nat) : Nat := kc0 + k
noncomputable def i31 (k : Nat) : List (Nat × Nat) := (917536, 307) :: (917505, 301) :: (917538, 309) :: (917539, 310) :: (917537, 308) :: upP (k - 5) 917540 311
noncomputable def s31 (k : Nat) : Bool → Obj := oS (i31 k) (k + 1) 31 (upN k 0) 1
noncomputable def sUp (c m mv k : Nat) : Bool → Obj := oS ((917505, 301) :: upP (k - 1) 917536 307) (k + c) m (1 :: upN (k - 1) 32) mv
end
noncomputable section
noncomputable abbrev runC (b led : Bool) (n : Nat) (x : Bool → Obj) (y : Obj) (kk : Nat) (w : World) (k : Result → Sem Fin) (h : Option Value) (g : Bool) (l : List Value) (cd : Code) (q : Pos) (kept : List Value) (f2 f3 f4 : Frame) (os : OsState) : Option (SharedT × Thread) :=
  PySem.W.Fast.tw10295753902157049106 TB pw (pF w b) 11 (some (.ref 6)) 1 n (st8 w b led x y kk os) ⟨den8 cLoop, cLoop, pLoop, [.ret k h g l cd q kept, f2, f3, f4]⟩
noncomputable abbrev endC (b led : Bool) (x' : Bool → Obj) (y' : Obj) (kk' : Nat) (w : World) (k : Result → Sem Fin) (h : Option Value) (g : Bool) (l : List Value) (cd : Code) (q : Pos) (kept : List Value) (f2 f3 f4 : Frame) (os : OsState) : Option (SharedT × Thread) :=
  some (st8 w b led x' y' kk' os, ⟨den8 cLoop, cLoop, pLoop, [.ret k h g l cd q kept, f2, f3, f4]⟩)
/-- both answers of the world's row at once -/
noncomputable abbrev Chunk2 (n : Nat) (x x' : Bool → Obj) (y y' : Obj) (kk kk' : Nat) (items : List (Nat × Nat)) (ver mask : Nat) (place : List Nat) (mv : Nat) : Prop :=
  ∀ (led : Bool) (w : World) (k : Result → Sem Fin) (h : Option Value) (g : Bool) (l : List Value) (cd : Code) (q : Pos) (kept : List Value) (f2 f3 f4 : Frame),
  (fun os => (fixR items ver mask place mv kk' (runC false led n x y kk w k h g l cd q kept f2 f3 f4 os), fixR items ver mask place mv kk' (runC true led n x y kk w k h g l cd q kept f2 f3 f4 os)))
  = fun os => (endC false led x' y' kk' w k h g l cd q kept f2 f3 f4 os, endC true led x' y' kk' w k h g l cd q kept f2 f3 f4 os)
theorem Chunk2.f {n : Nat} {x x' : Bool → Obj} {y y' : Obj} {kk kk' : Nat} {items : List (Nat × Nat)} {ver mask : Nat} {place : List Nat} {mv : Nat} (c : Chunk2 n x x' y y' kk kk' items ver mask place mv) (led : Bool) : Chunk false led n x x' y y' kk kk' := by
  intro w k h g l cd q kept f2 f3 f4
  funext os
  exact fixR_eq (Prod.mk.inj (congrFun (c led w k h g l cd q kept f2 f3 f4) os)).1
theorem Chunk2.t {n : Nat} {x x' : Bool → Obj} {y y' : Obj} {kk kk' : Nat} {items : List (Nat × Nat)} {ver mask : Nat} {place : List Nat} {mv : Nat} (c : Chunk2 n x x' y y' kk kk' items ver mask place mv) (led : Bool) : Chunk true led n x x' y y' kk kk' := by
  intro w k h g l cd q kept f2 f3 f4
  funext os
  exact fixR_eq (Prod.mk.inj (congrFun (c led w k h g l cd q kept f2 f3 f4) os)).2
end
end
-- KHead8
noncomputable section
open PySem PySem.W PyProof.Rows
set_option Elab.async false
set_option maxRecDepth 100000
set_option maxHeartbeats 0
set_option linter.unusedVariables false
noncomputable section
noncomputable def x0 : Bool → Obj := oS [] 0 7 [] 0
theorem c_0 : Chunk2 162 x0 (s31 8) (yS 0) (yS 8) (kS 0) (kS 8) (i31 8) 9 31 (upN 8 0) 1 := by
  intro led w k h g l cd q kept f2 f3 f4
  kernel_rfl
theorem c_8 : Chunk2 20 (s31 8) (s31 9) (yS 8) (yS 9) (kS 8) (kS 9) (i31 9) 10 31 (upN 9 0) 1 := by
  intro led w k h g l cd q kept f2 f3 f4
  kernel_rfl
theorem c_9 : Chunk2 20 (s31 9) (s31 10) (yS 9) (yS 10) (kS 9) (kS 10) (i31 10) 11 31 (upN 10 0) 1 := by
  intro led w k h g l cd q kept f2 f3 f4
  kernel_rfl
theorem c_10 : Chunk2 20 (s31 10) (s31 11) (yS 10) (yS 11) (kS 10) (kS 11) (i31 11) 12 31 (upN 11 0) 1 := by
  intro led w k h g l cd q kept f2 f3 f4
  kernel_rfl
theorem c_11 : Chunk2 20 (s31 11) (s31 12) (yS 11) (yS 12) (kS 11) (kS 12) (i31 12) 13 31 (upN 12 0) 1 := by
  intro led w k h g l cd q kept f2 f3 f4
  kernel_rfl
theorem c_12 : Chunk2 20 (s31 12) (s31 13) (yS 12) (yS 13) (kS 12) (kS 13) (i31 13) 14 31 (upN 13 0) 1 := by
  intro led w k h g l cd q kept f2 f3 f4
  kernel_rfl
theorem c_13 : Chunk2 20 (s31 13) (s31 14) (yS 13) (yS 14) (kS 13) (kS 14) (i31 14) 15 31 (upN 14 0) 1 := by
  intro led w k h g l cd q kept f2 f3 f4
  kernel_rfl
theorem c_14 : Chunk2 20 (s31 14) (s31 15) (yS 14) (yS 15) (kS 14) (kS 15) (i31 15) 16 31 (upN 15 0) 1 := by
  intro led w k h g l cd q kept f2 f3 f4
  kernel_rfl
theorem c_15 : Chunk2 20 (s31 15) (s31 16) (yS 15) (yS 16) (kS 15) (kS 16) (i31 16) 17 31 (upN 16 0) 1 := by
  intro led w k h g l cd q kept f2 f3 f4
  kernel_rfl
theorem c_16 : Chunk2 20 (s31 16) (s31 17) (yS 16) (yS 17) (kS 16) (kS 17) (i31 17) 18 31 (upN 17 0) 1 := by
  intro led w k h g l cd q kept f2 f3 f4
  kernel_rfl
theorem c_17 : Chunk2 20 (s31 17) (s31 18) (yS 17) (yS 18) (kS 17) (kS 18) (i31 18) 19 31 (upN 18 0) 1 := by
  intro led w k h g l cd q kept f2 f3 f4
  kernel_rfl
theorem c_18 : Chunk2 22 (s31 18) (sUp 2 127 2 19) (yS 18) (yS 19) (kS 18) (kS 19) ((917505, 301) :: upP 18 917536 307) 21 127 (1 :: upN 18 32) 2 := by
  intro led w k h g l cd q kept f2 f3 f4
  kernel_rfl
theorem c_19 : Chunk2 20 (sUp 2 127 2 19) (sUp 2 127 2 20) (yS 19) (yS 20) (kS 19) (kS 20) ((917505, 301) :: upP 19 917536 307) 22 127 (1 :: upN 19 32) 2 := by
  intro led w k h g l cd q kept f2 f3 f4
  kernel_rfl
theorem c_20 : Chunk2 20 (sUp 2 127 2 20) (sUp 2 127 2 21) (yS 20) (yS 21) (kS 20) (kS 21) ((917505, 301) :: upP 20 917536 307) 23 127 (1 :: upN 20 32) 2 := by
  intro led w k h g l cd q kept f2 f3 f4
  kernel_rfl
theorem c_21 : Chunk2 20 (sUp 2 127 2 21) (sUp 2 127 2 22) (yS 21) (yS 22) (kS 21) (kS 22) ((917505, 301) :: upP 21 917536 307) 24 127 (1 :: upN 21 32) 2 := by
  intro led w k h g l cd q kept f2 f3 f4
  kernel_rfl
theorem c_22 : Chunk2 20 (sUp 2 127 2 22) (sUp 2 127 2 23) (yS 22) (yS 23) (kS 22) (kS 23) ((917505, 301) :: upP 22 917536 307) 25 127 (1 :: upN 22 32) 2 := by
  intro led w k h g l cd q kept f2 f3 f4
  kernel_rfl
theorem c_23 : Chunk2 20 (sUp 2 127 2 23) (sUp 2 127 2 24) (yS 23) (yS 24) (kS 23) (kS 24) ((917505, 301) :: upP 23 917536 307) 26 127 (1 :: upN 23 32) 2 := by
  intro led w k h g l cd q kept f2 f3 f4
  kernel_rfl
theorem c_24 : Chunk2 20 (sUp 2 127 2 24) (sUp 2 127 2 25) (yS 24) (yS 25) (kS 24) (kS 25) ((917505, 301) :: upP 24 917536 307) 27 127 (1 :: upN 24 32) 2 := by
  intro led w k h g l cd q kept f2 f3 f4
  kernel_rfl
theorem c_25 : Chunk2 20 (sUp 2 127 2 25) (sUp 2 127 2 26) (yS 25) (yS 26) (kS 25) (kS 26) ((917505, 301) :: upP 25 917536 307) 28 127 (1 :: upN 25 32) 2 := by
  intro led w k h g l cd q kept f2 f3 f4
  kernel_rfl
theorem c_26 : Chunk2 20 (sUp 2 127 2 26) (sUp 2 127 2 27) (yS 26) (yS 27) (kS 26) (kS 27) ((917505, 301) :: upP 26 917536 307) 29 127 (1 :: upN 26 32) 2 := by
  intro led w k h g l cd q kept f2 f3 f4
  kernel_rfl
theorem c_27 : Chunk2 20 (sUp 2 127 2 27) (sUp 2 127 2 28) (yS 27) (yS 28) (kS 27) (kS 28) ((917505, 301) :: upP 27 917536 307) 30 127 (1 :: upN 27 32) 2 := by
  intro led w k h g l cd q kept f2 f3 f4
  kernel_rfl
theorem c_28 : Chunk2 20 (sUp 2 127 2 28) (sUp 2 127 2 29) (yS 28) (yS 29) (kS 28) (kS 29) ((917505, 301) :: upP 28 917536 307) 31 127 (1 :: upN 28 32) 2 := by
  intro led w k h g l cd q kept f2 f3 f4
  kernel_rfl
theorem c_29 : Chunk2 20 (sUp 2 127 2 29) (sUp 2 127 2 30) (yS 29) (yS 30) (kS 29) (kS 30) ((917505, 301) :: upP 29 917536 307) 32 127 (1 :: upN 29 32) 2 := by
  intro led w k h g l cd q kept f2 f3 f4
  kernel_rfl
theorem c_30 : Chunk2 20 (sUp 2 127 2 30) (sUp 2 127 2 31) (yS 30) (yS 31) (kS 30) (kS 31) ((917505, 301) :: upP 30 917536 307) 33 127 (1 :: upN 30 32) 2 := by
  intro led w k h g l cd q kept f2 f3 f4
  kernel_rfl
theorem c_31 : Chunk2 20 (sUp 2 127 2 31) (sUp 2 127 2 32) (yS 31) (yS 32) (kS 31) (kS 32) ((917505, 301) :: upP 31 917536 307) 34 127 (1 :: upN 31 32) 2 := by
  intro led w k h g l cd q kept f2 f3 f4
  kernel_rfl
theorem c_32 : Chunk2 20 (sUp 2 127 2 32) (sUp 2 127 2 33) (yS 32) (yS 33) (kS 32) (kS 33) ((917505, 301) :: upP 32 917536 307) 35 127 (1 :: upN 32 32) 2 := by
  intro led w k h g l cd q kept f2 f3 f4
  kernel_rfl
theorem c_33 : Chunk2 20 (sUp 2 127 2 33) (sUp 2 127 2 34) (yS 33) (yS 34) (kS 33) (kS 34) ((917505, 301) :: upP 33 917536 307) 36 127 (1 :: upN 33 32) 2 := by
  intro led w k h g l cd q kept f2 f3 f4
  kernel_rfl
theorem c_34 : Chunk2 20 (sUp 2 127 2 34) (sUp 2 127 2 35) (yS 34) (yS 35) (kS 34) (kS 35) ((917505, 301) :: upP 34 917536 307) 37 127 (1 :: upN 34 32) 2 := by
  intro led w k h g l cd q kept f2 f3 f4
  kernel_rfl
theorem c_35 : Chunk2 20 (sUp 2 127 2 35) (sUp 2 127 2 36) (yS 35) (yS 36) (kS 35) (kS 36) ((917505, 301) :: upP 35 917536 307) 38 127 (1 :: upN 35 32) 2 := by
  intro led w k h g l cd q kept f2 f3 f4
  kernel_rfl
theorem c_36 : Chunk2 20 (sUp 2 127 2 36) (sUp 2 127 2 37) (yS 36) (yS 37) (kS 36) (kS 37) ((917505, 301) :: upP 36 917536 307) 39 127 (1 :: upN 36 32) 2 := by
  intro led w k h g l cd q kept f2 f3 f4
  kernel_rfl
theorem c_37 : Chunk2 20 (sUp 2 127 2 37) (sUp 2 127 2 38) (yS 37) (yS 38) (kS 37) (kS 38) ((917505, 301) :: upP 37 917536 307) 40 127 (1 :: upN 37 32) 2 := by
  intro led w k h g l cd q kept f2 f3 f4
  kernel_rfl
theorem c_38 : Chunk2 20 (sUp 2 127 2 38) (sUp 2 127 2 39) (yS 38) (yS 39) (kS 38) (kS 39) ((917505, 301) :: upP 38 917536 307) 41 127 (1 :: upN 38 32) 2 := by
  intro led w k h g l cd q kept f2 f3 f4
  kernel_rfl
theorem c_39 : Chunk2 20 (sUp 2 127 2 39) (sUp 2 127 2 40) (yS 39) (yS 40) (kS 39) (kS 40) ((917505, 301) :: upP 39 917536 307) 42 127 (1 :: upN 39 32) 2 := by
  intro led w k h g l cd q kept f2 f3 f4
  kernel_rfl
theorem c_40 : Chunk2 20 (sUp 2 127 2 40) (sUp 2 127 2 41) (yS 40) (yS 41) (kS 40) (kS 41) ((917505, 301) :: upP 40 917536 307) 43 127 (1 :: upN 40 32) 2 := by
  intro led w k h g l cd q kept f2 f3 f4
  kernel_rfl
theorem c_41 : Chunk2 20 (sUp 2 127 2 41) (sUp 2 127 2 42) (yS 41) (yS 42) (kS 41) (kS 42) ((917505, 301) :: upP 41 917536 307) 44 127 (1 :: upN 41 32) 2 := by
  intro led w k h g l cd q kept f2 f3 f4
  kernel_rfl
theorem c_42 : Chunk2 20 (sUp 2 127 2 42) (sUp 2 127 2 43) (yS 42) (yS 43) (kS 42) (kS 43) ((917505, 301) :: upP 42 917536 307) 45 127 (1 :: upN 42 32) 2 := by
  intro led w k h g l cd q kept f2 f3 f4
  kernel_rfl
theorem c_43 : Chunk2 20 (sUp 2 127 2 43) (sUp 2 127 2 44) (yS 43) (yS 44) (kS 43) (kS 44) ((917505, 301) :: upP 43 917536 307) 46 127 (1 :: upN 43 32) 2 := by
  intro led w k h g l cd q kept f2 f3 f4
  kernel_rfl
theorem c_44 : Chunk2 20 (sUp 2 127 2 44) (sUp 2 127 2 45) (yS 44) (yS 45) (kS 44) (kS 45) ((917505, 301) :: upP 44 917536 307) 47 127 (1 :: upN 44 32) 2 := by
  intro led w k h g l cd q kept f2 f3 f4
  kernel_rfl
theorem c_45 : Chunk2 20 (sUp 2 127 2 45) (sUp 2 127 2 46) (yS 45) (yS 46) (kS 45) (kS 46) ((917505, 301) :: upP 45 917536 307) 48 127 (1 :: upN 45 32) 2 := by
  intro led w k h g l cd q kept f2 f3 f4
  kernel_rfl
theorem c_46 : Chunk2 20 (sUp 2 127 2 46) (sUp 2 127 2 47) (yS 46) (yS 47) (kS 46) (kS 47) ((917505, 301) :: upP 46 917536 307) 49 127 (1 :: upN 46 32) 2 := by
  intro led w k h g l cd q kept f2 f3 f4
  kernel_rfl
theorem c_47 : Chunk2 20 (sUp 2 127 2 47) (sUp 2 127 2 48) (yS 47) (yS 48) (kS 47) (kS 48) ((917505, 301) :: upP 47 917536 307) 50 127 (1 :: upN 47 32) 2 := by
  intro led w k h g l cd q kept f2 f3 f4
  kernel_rfl
theorem c_48 : Chunk2 20 (sUp 2 127 2 48) (sUp 2 127 2 49) (yS 48) (yS 49) (kS 48) (kS 49) ((917505, 301) :: upP 48 917536 307) 51 127 (1 :: upN 48 32) 2 := by
  intro led w k h g l cd q kept f2 f3 f4
  kernel_rfl
theorem c_49 : Chunk2 20 (sUp 2 127 2 49) (sUp 2 127 2 50) (yS 49) (yS 50) (kS 49) (kS 50) ((917505, 301) :: upP 49 917536 307) 52 127 (1 :: upN 49 32) 2 := by
  intro led w k h g l cd q kept f2 f3 f4
  kernel_rfl
theorem c_50 : Chunk2 20 (sUp 2 127 2 50) (sUp 2 127 2 51) (yS 50) (yS 51) (kS 50) (kS 51) ((917505, 301) :: upP 50 917536 307) 53 127 (1 :: upN 50 32) 2 := by
  intro led w k h g l cd q kept f2 f3 f4
  kernel_rfl
theorem c_51 : Chunk2 20 (sUp 2 127 2 51) (sUp 2 127 2 52) (yS 51) (yS 52) (kS 51) (kS 52) ((917505, 301) :: upP 51 917536 307) 54 127 (1 :: upN 51 32) 2 := by
  intro led w k h g l cd q kept f2 f3 f4
  kernel_rfl
theorem c_52 : Chunk2 20 (sUp 2 127 2 52) (sUp 2 127 2 53) (yS 52) (yS 53) (kS 52) (kS 53) ((917505, 301) :: upP 52 917536 307) 55 127 (1 :: upN 52 32) 2 := by
  intro led w k h g l cd q kept f2 f3 f4
  kernel_rfl
theorem c_53 : Chunk2 20 (sUp 2 127 2 53) (sUp 2 127 2 54) (yS 53) (yS 54) (kS 53) (kS 54) ((917505, 301) :: upP 53 917536 307) 56 127 (1 :: upN 53 32) 2 := by
  intro led w k h g l cd q kept f2 f3 f4
  kernel_rfl
theorem c_54 : Chunk2 20 (sUp 2 127 2 54) (sUp 2 127 2 55) (yS 54) (yS 55) (kS 54) (kS 55) ((917505, 301) :: upP 54 917536 307) 57 127 (1 :: upN 54 32) 2 := by
  intro led w k h g l cd q kept f2 f3 f4
  kernel_rfl
theorem c_55 : Chunk2 20 (sUp 2 127 2 55) (sUp 2 127 2 56) (yS 55) (yS 56) (kS 55) (kS 56) ((917505, 301) :: upP 55 917536 307) 58 127 (1 :: upN 55 32) 2 := by
  intro led w k h g l cd q kept f2 f3 f4
  kernel_rfl
theorem c_56 : Chunk2 20 (sUp 2 127 2 56) (sUp 2 127 2 57) (yS 56) (yS 57) (kS 56) (kS 57) ((917505, 301) :: upP 56 917536 307) 59 127 (1 :: upN 56 32) 2 := by
  intro led w k h g l cd q kept f2 f3 f4
  kernel_rfl
theorem c_57 : Chunk2 20 (sUp 2 127 2 57) (sUp 2 127 2 58) (yS 57) (yS 58) (kS 57) (kS 58) ((917505, 301) :: upP 57 917536 307) 60 127 (1 :: upN 57 32) 2 := by
  intro led w k h g l cd q kept f2 f3 f4
  kernel_rfl
theorem c_58 : Chunk2 20 (sUp 2 127 2 58) (sUp 2 127 2 59) (yS 58) (yS 59) (kS 58) (kS 59) ((917505, 301) :: upP 58 917536 307) 61 127 (1 :: upN 58 32) 2 := by
  intro led w k h g l cd q kept f2 f3 f4
  kernel_rfl
theorem c_59 : Chunk2 20 (sUp 2 127 2 59) (sUp 2 127 2 60) (yS 59) (yS 60) (kS 59) (kS 60) ((917505, 301) :: upP 59 917536 307) 62 127 (1 :: upN 59 32) 2 := by
  intro led w k h g l cd q kept f2 f3 f4
  kernel_rfl
theorem c_60 : Chunk2 20 (sUp 2 127 2 60) (sUp 2 127 2 61) (yS 60) (yS 61) (kS 60) (kS 61) ((917505, 301) :: upP 60 917536 307) 63 127 (1 :: upN 60 32) 2 := by
  intro led w k h g l cd q kept f2 f3 f4
  kernel_rfl
theorem c_61 : Chunk2 20 (sUp 2 127 2 61) (sUp 2 127 2 62) (yS 61) (yS 62) (kS 61) (kS 62) ((917505, 301) :: upP 61 917536 307) 64 127 (1 :: upN 61 32) 2 := by
  intro led w k h g l cd q kept f2 f3 f4
  kernel_rfl
theorem c_62 : Chunk2 20 (sUp 2 127 2 62) (sUp 2 127 2 63) (yS 62) (yS 63) (kS 62) (kS 63) ((917505, 301) :: upP 62 917536 307) 65 127 (1 :: upN 62 32) 2 := by
  intro led w k h g l cd q kept f2 f3 f4
  kernel_rfl
theorem c_63 : Chunk2 20 (sUp 2 127 2 63) (sUp 2 127 2 64) (yS 63) (yS 64) (kS 63) (kS 64) ((917505, 301) :: upP 63 917536 307) 66 127 (1 :: upN 63 32) 2 := by
  intro led w k h g l cd q kept f2 f3 f4
  kernel_rfl
theorem c_64 : Chunk2 20 (sUp 2 127 2 64) (sUp 2 127 2 65) (yS 64) (yS 65) (kS 64) (kS 65) ((917505, 301) :: upP 64 917536 307) 67 127 (1 :: upN 64 32) 2 := by
  intro led w k h g l cd q kept f2 f3 f4
  kernel_rfl
theorem c_65 : Chunk2 20 (sUp 2 127 2 65) (sUp 2 127 2 66) (yS 65) (yS 66) (kS 65) (kS 66) ((917505, 301) :: upP 65 917536 307) 68 127 (1 :: upN 65 32) 2 := by
  intro led w k h g l cd q kept f2 f3 f4
  kernel_rfl
theorem c_66 : Chunk2 20 (sUp 2 127 2 66) (sUp 2 127 2 67) (yS 66) (yS 67) (kS 66) (kS 67) ((917505, 301) :: upP 66 917536 307) 69 127 (1 :: upN 66 32) 2 := by
  intro led w k h g l cd q kept f2 f3 f4
  kernel_rfl
theorem c_67 : Chunk2 20 (sUp 2 127 2 67) (sUp 2 127 2 68) (yS 67) (yS 68) (kS 67) (kS 68) ((917505, 301) :: upP 67 917536 307) 70 127 (1 :: upN 67 32) 2 := by
  intro led w k h g l cd q kept f2 f3 f4
  kernel_rfl
theorem c_68 : Chunk2 20 (sUp 2 127 2 68) (sUp 2 127 2 69) (yS 68) (yS 69) (kS 68) (kS 69) ((917505, 301) :: upP 68 917536 307) 71 127 (1 :: upN 68 32) 2 := by
  intro led w k h g l cd q kept f2 f3 f4
  kernel_rfl
theorem c_69 : Chunk2 20 (sUp 2 127 2 69) (sUp 2 127 2 70) (yS 69) (yS 70) (kS 69) (kS 70) ((917505, 301) :: upP 69 917536 307) 72 127 (1 :: upN 69 32) 2 := by
  intro led w k h g l cd q kept f2 f3 f4
  kernel_rfl
theorem c_70 : Chunk2 20 (sUp 2 127 2 70) (sUp 2 127 2 71) (yS 70) (yS 71) (kS 70) (kS 71) ((917505, 301) :: upP 70 917536 307) 73 127 (1 :: upN 70 32) 2 := by
  intro led w k h g l cd q kept f2 f3 f4
  kernel_rfl
theorem c_71 : Chunk2 20 (sUp 2 127 2 71) (sUp 2 127 2 72) (yS 71) (yS 72) (kS 71) (kS 72) ((917505, 301) :: upP 71 917536 307) 74 127 (1 :: upN 71 32) 2 := by
  intro led w k h g l cd q kept f2 f3 f4
  kernel_rfl
theorem c_72 : Chunk2 20 (sUp 2 127 2 72) (sUp 2 127 2 73) (yS 72) (yS 73) (kS 72) (kS 73) ((917505, 301) :: upP 72 917536 307) 75 127 (1 :: upN 72 32) 2 := by
  intro led w k h g l cd q kept f2 f3 f4
  kernel_rfl
theorem c_73 : Chunk2 20 (sUp 2 127 2 73) (sUp 2 127 2 74) (yS 73) (yS 74) (kS 73) (kS 74) ((917505, 301) :: upP 73 917536 307) 76 127 (1 :: upN 73 32) 2 := by
  intro led w k h g l cd q kept f2 f3 f4
  kernel_rfl
theorem c_74 : Chunk2 20 (sUp 2 127 2 74) (sUp 2 127 2 75) (yS 74) (yS 75) (kS 74) (kS 75) ((917505, 301) :: upP 74 917536 307) 77 127 (1 :: upN 74 32) 2 := by
  intro led w k h g l cd q kept f2 f3 f4
  kernel_rfl
theorem c_75 : Chunk2 20 (sUp 2 127 2 75) (sUp 2 127 2 76) (yS 75) (yS 76) (kS 75) (kS 76) ((917505, 301) :: upP 75 917536 307) 78 127 (1 :: upN 75 32) 2 := by
  intro led w k h g l cd q kept f2 f3 f4
  kernel_rfl
theorem c_76 : Chunk2 22 (sUp 2 127 2 76) (sUp 3 511 3 77) (yS 76) (yS 77) (kS 76) (kS 77) ((917505, 301) :: upP 76 917536 307) 80 511 (1 :: upN 76 32) 3 := by
  intro led w k h g l cd q kept f2 f3 f4
  kernel_rfl
theorem c_77 : Chunk2 20 (sUp 3 511 3 77) (sUp 3 511 3 78) (yS 77) (yS 78) (kS 77) (kS 78) ((917505, 301) :: upP 77 917536 307) 81 511 (1 :: upN 77 32) 3 := by
  intro led w k h g l cd q kept f2 f3 f4
  kernel_rfl
theorem c_78 : Chunk2 20 (sUp 3 511 3 78) (sUp 3 511 3 79) (yS 78) (yS 79) (kS 78) (kS 79) ((917505, 301) :: upP 78 917536 307) 82 511 (1 :: upN 78 32) 3 := by
  intro led w k h g l cd q kept f2 f3 f4
  kernel_rfl
theorem c_79 : Chunk2 20 (sUp 3 511 3 79) (sUp 3 511 3 80) (yS 79) (yS 80) (kS 79) (kS 80) ((917505, 301) :: upP 79 917536 307) 83 511 (1 :: upN 79 32) 3 := by
  intro led w k h g l cd q kept f2 f3 f4
  kernel_rfl
theorem c_80 : Chunk2 20 (sUp 3 511 3 80) (sUp 3 511 3 81) (yS 80) (yS 81) (kS 80) (kS 81) ((917505, 301) :: upP 80 917536 307) 84 511 (1 :: upN 80 32) 3 := by
  intro led w k h g l cd q kept f2 f3 f4
  kernel_rfl
theorem c_81 : Chunk2 20 (sUp 3 511 3 81) (sUp 3 511 3 82) (yS 81) (yS 82) (kS 81) (kS 82) ((917505, 301) :: upP 81 917536 307) 85 511 (1 :: upN 81 32) 3 := by
  intro led w k h g l cd q kept f2 f3 f4
  kernel_rfl
theorem c_82 : Chunk2 20 (sUp 3 511 3 82) (sUp 3 511 3 83) (yS 82) (yS 83) (kS 82) (kS 83) ((917505, 301) :: upP 82 917536 307) 86 511 (1 :: upN 82 32) 3 := by
  intro led w k h g l cd q kept f2 f3 f4
  kernel_rfl
theorem c_83 : Chunk2 20 (sUp 3 511 3 83) (sUp 3 511 3 84) (yS 83) (yS 84) (kS 83) (kS 84) ((917505, 301) :: upP 83 917536 307) 87 511 (1 :: upN 83 32) 3 := by
  intro led w k h g l cd q kept f2 f3 f4
  kernel_rfl
theorem c_84 : Chunk2 20 (sUp 3 511 3 84) (sUp 3 511 3 85) (yS 84) (yS 85) (kS 84) (kS 85) ((917505, 301) :: upP 84 917536 307) 88 511 (1 :: upN 84 32) 3 := by
  intro led w k h g l cd q kept f2 f3 f4
  kernel_rfl
theorem c_85 : Chunk2 20 (sUp 3 511 3 85) (sUp 3 511 3 86) (yS 85) (yS 86) (kS 85) (kS 86) ((917505, 301) :: upP 85 917536 307) 89 511 (1 :: upN 85 32) 3 := by
  intro led w k h g l cd q kept f2 f3 f4
  kernel_rfl
theorem c_86 : Chunk2 20 (sUp 3 511 3 86) (sUp 3 511 3 87) (yS 86) (yS 87) (kS 86) (kS 87) ((917505, 301) :: upP 86 917536 307) 90 511 (1 :: upN 86 32) 3 := by
  intro led w k h g l cd q kept f2 f3 f4
  kernel_rfl
theorem c_87 : Chunk2 20 (sUp 3 511 3 87) (sUp 3 511 3 88) (yS 87) (yS 88) (kS 87) (kS 88) ((917505, 301) :: upP 87 917536 307) 91 511 (1 :: upN 87 32) 3 := by
  intro led w k h g l cd q kept f2 f3 f4
  kernel_rfl
theorem c_88 : Chunk2 20 (sUp 3 511 3 88) (sUp 3 511 3 89) (yS 88) (yS 89) (kS 88) (kS 89) ((917505, 301) :: upP 88 917536 307) 92 511 (1 :: upN 88 32) 3 := by
  intro led w k h g l cd q kept f2 f3 f4
  kernel_rfl
theorem c_89 : Chunk2 20 (sUp 3 511 3 89) (sUp 3 511 3 90) (yS 89) (yS 90) (kS 89) (kS 90) ((917505, 301) :: upP 89 917536 307) 93 511 (1 :: upN 89 32) 3 := by
  intro led w k h g l cd q kept f2 f3 f4
  kernel_rfl
theorem c_90 : Chunk2 20 (sUp 3 511 3 90) (sUp 3 511 3 91) (yS 90) (yS 91) (kS 90) (kS 91) ((917505, 301) :: upP 90 917536 307) 94 511 (1 :: upN 90 32) 3 := by
  intro led w k h g l cd q kept f2 f3 f4
  kernel_rfl
theorem c_91 : Chunk2 20 (sUp 3 511 3 91) (sUp 3 511 3 92) (yS 91) (yS 92) (kS 91) (kS 92) ((917505, 301) :: upP 91 917536 307) 95 511 (1 :: upN 91 32) 3 := by
  intro led w k h g l cd q kept f2 f3 f4
  kernel_rfl
theorem c_92 : Chunk2 20 (sUp 3 511 3 92) (sUp 3 511 3 93) (yS 92) (yS 93) (kS 92) (kS 93) ((917505, 301) :: upP 92 917536 307) 96 511 (1 :: upN 92 32) 3 := by
  intro led w k h g l cd q kept f2 f3 f4
  kernel_rfl
theorem c_93 : Chunk2 20 (sUp 3 511 3 93) (sUp 3 511 3 94) (yS 93) (yS 94) (kS 93) (kS 94) ((917505, 301) :: upP 93 917536 307) 97 511 (1 :: upN 93 32) 3 := by
  intro led w k h g l cd q kept f2 f3 f4
  kernel_rfl
theorem c_94 : Chunk2 20 (sUp 3 511 3 94) (sUp 3 511 3 95) (yS 94) (yS 95) (kS 94) (kS 95) ((917505, 301) :: upP 94 917536 307) 98 511 (1 :: upN 94 32) 3 := by
  intro led w k h g l cd q kept f2 f3 f4
  kernel_rfl
theorem c_95 : Chunk2 20 (sUp 3 511 3 95) (sUp 3 511 3 96) (yS 95) (yS 96) (kS 95) (kS 96) ((917505, 301) :: upP 95 917536 307) 99 511 (1 :: upN 95 32) 3 := by
  intro led w k h g l cd q kept f2 f3 f4
  kernel_rfl
theorem c_96 : Chunk2 20 (sUp 3 511 3 96) (sUp 3 511 3 97) (yS 96) (yS 97) (kS 96) (kS 97) ((917505, 301) :: upP 96 917536 307) 100 511 (1 :: upN 96 32) 3 := by
  intro led w k h g l cd q kept f2 f3 f4
  kernel_rfl
/-- a stretch of the loop, for both answers of the row -/
noncomputable def CR (n : Nat) (x x' : Bool → Obj) (y y' : Obj) (kk kk' : Nat) : Prop := ∀ (b led : Bool) (w : World) (k : Result → Sem Fin) (h : Option Value) (g : Bool) (l : List Value) (cd : Code) (q : Pos) (kept : List Value) (f2 f3 f4 : Frame) (os : OsState) (N : Nat) (r : Flow × Shared × Code × Pos),
  segRun treeTable pw (pF w b) 11 annR 1 N (st8 w b led x' y' kk' os).abs ⟨denote treeTable cLoop, cLoop, pLoop, [.ret k h g l cd q kept, f2, f3, f4]⟩ = some r →
  segRun treeTable pw (pF w b) 11 annR 1 (n + N) (st8 w b led x y kk os).abs ⟨denote treeTable cLoop, cLoop, pLoop, [.ret k h g l cd q kept, f2, f3, f4]⟩ = some r
theorem chunk_go {b led : Bool} {n : Nat} {x x' : Bool → Obj} {y y' : Obj} {kk kk' : Nat} (hc : Chunk b led n x x' y y' kk kk') (w : World) (k : Result → Sem Fin) (h : Option Value) (g : Bool) (l : List Value) (cd : Code) (q : Pos) (kept : List Value) (f2 f3 f4 : Frame) (os : OsState) :
    segGo treeTable pw (pF w b) 11 annR 1 n (st8 w b led x y kk os).abs ⟨denote treeTable cLoop, cLoop, pLoop, [.ret k h g l cd q kept, f2, f3, f4]⟩ = some ((st8 w b led x' y' kk' os).abs, ⟨denote treeTable cLoop, cLoop, pLoop, [.ret k h g l cd q kept, f2, f3, f4]⟩) := by
  have := congrFun (hc w k h g l cd q kept f2 f3 f4) os
  unfold den8 at this
  rw [← PySem.W.Fast.te10295753902157049106, ← PySem.W.Fast.te11892475500146522536] at this
  unfold TB at this
  rw [← PySem.W.Fast.te14364793385576792824] at this
  exact segGo_of this
theorem CR.of {n : Nat} {x x' : Bool → Obj} {y y' : Obj} {kk kk' : Nat} {items : List (Nat × Nat)} {ver mask : Nat} {place : List Nat} {mv : Nat} (c : Chunk2 n x x' y y' kk kk' items ver mask place mv) : CR n x x' y y' kk kk' := by
  intro b led w k h g l cd q kept f2 f3 f4 os N r hr
  cases b with
  | false => exact seg_go (chunk_go (c.f led) w k h g l cd q kept f2 f3 f4 os) hr
  | true => exact seg_go (chunk_go (c.t led) w k h g l cd q kept f2 f3 f4 os) hr
theorem CR.tr {n n' n2 : Nat} {x x' x2 : Bool → Obj} {y y' y2 : Obj} {kk kk' kk2 : Nat} (e : n + n' = n2) (a : CR n x x' y y' kk kk') (c : CR n' x' x2 y' y2 kk' kk2) : CR n2 x x2 y y2 kk kk2 := by
  intro b led w k h g l cd q kept f2 f3 f4 os N r hr
  rw [← e, Nat.add_assoc]
  exact a b led w k h g l cd q kept f2 f3 f4 os _ r (c b led w k h g l cd q kept f2 f3 f4 os N r hr)
theorem g_0 : CR 342 x0 (s31 17) (yS 0) (yS 17) (kS 0) (kS 17) := (CR.tr (n := 162) (n' := 180) (n2 := 342) rfl (CR.of c_0) (CR.tr (n := 20) (n' := 160) (n2 := 180) rfl (CR.of c_8) (CR.tr (n := 20) (n' := 140) (n2 := 160) rfl (CR.of c_9) (CR.tr (n := 20) (n' := 120) (n2 := 140) rfl (CR.of c_10) (CR.tr (n := 20) (n' := 100) (n2 := 120) rfl (CR.of c_11) (CR.tr (n := 20) (n' := 80) (n2 := 100) rfl (CR.of c_12) (CR.tr (n := 20) (n' := 60) (n2 := 80) rfl (CR.of c_13) (CR.tr (n := 20) (n' := 40) (n2 := 60) rfl (CR.of c_14) (CR.tr (n := 20) (n' := 20) (n2 := 40) rfl (CR.of c_15) (CR.of c_16))))))))))
theorem g_1 : CR 202 (s31 17) (sUp 2 127 2 27) (yS 17) (yS 27) (kS 17) (kS 27) := (CR.tr (n := 20) (n' := 182) (n2 := 202) rfl (CR.of c_17) (CR.tr (n := 22) (n' := 160) (n2 := 182) rfl (CR.of c_18) (CR.tr (n := 20) (n' := 140) (n2 := 160) rfl (CR.of c_19) (CR.tr (n := 20) (n' := 120) (n2 := 140) rfl (CR.of c_20) (CR.tr (n := 20) (n' := 100) (n2 := 120) rfl (CR.of c_21) (CR.tr (n := 20) (n' := 80) (n2 := 100) rfl (CR.of c_22) (CR.tr (n := 20) (n' := 60) (n2 := 80) rfl (CR.of c_23) (CR.tr (n := 20) (n' := 40) (n2 := 60) rfl (CR.of c_24) (CR.tr (n := 20) (n' := 20) (n2 := 40) rfl (CR.of c_25) (CR.of c_26))))))))))
theorem g_2 : CR 200 (sUp 2 127 2 27) (sUp 2 127 2 37) (yS 27) (yS 37) (kS 27) (kS 37) := (CR.tr (n := 20) (n' := 180) (n2 := 200) rfl (CR.of c_27) (CR.tr (n := 20) (n' := 160) (n2 := 180) rfl (CR.of c_28) (CR.tr (n := 20) (n' := 140) (n2 := 160) rfl (CR.of c_29) (CR.tr (n := 20) (n' := 120) (n2 := 140) rfl (CR.of c_30) (CR.tr (n := 20) (n' := 100) (n2 := 120) rfl (CR.of c_31) (CR.tr (n := 20) (n' := 80) (n2 := 100) rfl (CR.of c_32) (CR.tr (n := 20) (n' := 60) (n2 := 80) rfl (CR.of c_33) (CR.tr (n := 20) (n' := 40) (n2 := 60) rfl (CR.of c_34) (CR.tr (n := 20) (n' := 20) (n2 := 40) rfl (CR.of c_35) (CR.of c_36))))))))))
theorem g_3 : CR 200 (sUp 2 127 2 37) (sUp 2 127 2 47) (yS 37) (yS 47) (kS 37) (kS 47) := (CR.tr (n := 20) (n' := 180) (n2 := 200) rfl (CR.of c_37) (CR.tr (n := 20) (n' := 160) (n2 := 180) rfl (CR.of c_38) (CR.tr (n := 20) (n' := 140) (n2 := 160) rfl (CR.of c_39) (CR.tr (n := 20) (n' := 120) (n2 := 140) rfl (CR.of c_40) (CR.tr (n := 20) (n' := 100) (n2 := 120) rfl (CR.of c_41) (CR.tr (n := 20) (n' := 80) (n2 := 100) rfl (CR.of c_42) (CR.tr (n := 20) (n' := 60) (n2 := 80) rfl (CR.of c_43) (CR.tr (n := 20) (n' := 40) (n2 := 60) rfl (CR.of c_44) (CR.tr (n := 20) (n' := 20) (n2 := 40) rfl (CR.of c_45) (CR.of c_46))))))))))
theorem g_4 : CR 200 (sUp 2 127 2 47) (sUp 2 127 2 57) (yS 47) (yS 57) (kS 47) (kS 57) := (CR.tr (n := 20) (n' := 180) (n2 := 200) rfl (CR.of c_47) (CR.tr (n := 20) (n' := 160) (n2 := 180) rfl (CR.of c_48) (CR.tr (n := 20) (n' := 140) (n2 := 160) rfl (CR.of c_49) (CR.tr (n := 20) (n' := 120) (n2 := 140) rfl (CR.of c_50) (CR.tr (n := 20) (n' := 100) (n2 := 120) rfl (CR.of c_51) (CR.tr (n := 20) (n' := 80) (n2 := 100) rfl (CR.of c_52) (CR.tr (n := 20) (n' := 60) (n2 := 80) rfl (CR.of c_53) (CR.tr (n := 20) (n' := 40) (n2 := 60) rfl (CR.of c_54) (CR.tr (n := 20) (n' := 20) (n2 := 40) rfl (CR.of c_55) (CR.of c_56))))))))))
theorem g_5 : CR 200 (sUp 2 127 2 57) (sUp 2 127 2 67) (yS 57) (yS 67) (kS 57) (kS 67) := (CR.tr (n := 20) (n' := 180) (n2 := 200) rfl (CR.of c_57) (CR.tr (n := 20) (n' := 160) (n2 := 180) rfl (CR.of c_58) (CR.tr (n := 20) (n' := 140) (n2 := 160) rfl (CR.of c_59) (CR.tr (n := 20) (n' := 120) (n2 := 140) rfl (CR.of c_60) (CR.tr (n := 20) (n' := 100) (n2 := 120) rfl (CR.of c_61) (CR.tr (n := 20) (n' := 80) (n2 := 100) rfl (CR.of c_62) (CR.tr (n := 20) (n' := 60) (n2 := 80) rfl (CR.of c_63) (CR.tr (n := 20) (n' := 40) (n2 := 60) rfl (CR.of c_64) (CR.tr (n := 20) (n' := 20) (n2 := 40) rfl (CR.of c_65) (CR.of c_66))))))))))
theorem g_6 : CR 202 (sUp 2 127 2 67) (sUp 3 511 3 77) (yS 67) (yS 77) (kS 67) (kS 77) := (CR.tr (n := 20) (n' := 182) (n2 := 202) rfl (CR.of c_67) (CR.tr (n := 20) (n' := 162) (n2 := 182) rfl (CR.of c_68) (CR.tr (n := 20) (n' := 142) (n2 := 162) rfl (CR.of c_69) (CR.tr (n := 20) (n' := 122) (n2 := 142) rfl (CR.of c_70) (CR.tr (n := 20) (n' := 102) (n2 := 122) rfl (CR.of c_71) (CR.tr (n := 20) (n' := 82) (n2 := 102) rfl (CR.of c_72) (CR.tr (n := 20) (n' := 62) (n2 := 82) rfl (CR.of c_73) (CR.tr (n := 20) (n' := 42) (n2 := 62) rfl (CR.of c_74) (CR.tr (n := 20) (n' := 22) (n2 := 42) rfl (CR.of c_75) (CR.of c_76))))))))))
theorem g_7 : CR 200 (sUp 3 511 3 77) (sUp 3 511 3 87) (yS 77) (yS 87) (kS 77) (kS 87) := (CR.tr (n := 20) (n' := 180) (n2 := 200) rfl (CR.of c_77) (CR.tr (n := 20) (n' := 160) (n2 := 180) rfl (CR.of c_78) (CR.tr (n := 20) (n' := 140) (n2 := 160) rfl (CR.of c_79) (CR.tr (n := 20) (n' := 120) (n2 := 140) rfl (CR.of c_80) (CR.tr (n := 20) (n' := 100) (n2 := 120) rfl (CR.of c_81) (CR.tr (n := 20) (n' := 80) (n2 := 100) rfl (CR.of c_82) (CR.tr (n := 20) (n' := 60) (n2 := 80) rfl (CR.of c_83) (CR.tr (n := 20) (n' := 40) (n2 := 60) rfl (CR.of c_84) (CR.tr (n := 20) (n' := 20) (n2 := 40) rfl (CR.of c_85) (CR.of c_86))))))))))
theorem g_8 : CR 200 (sUp 3 511 3 87) (sUp 3 511 3 97) (yS 87) (yS 97) (kS 87) (kS 97) := (CR.tr (n := 20) (n' := 180) (n2 := 200) rfl (CR.of c_87) (CR.tr (n := 20) (n' := 160) (n2 := 180) rfl (CR.of c_88) (CR.tr (n := 20) (n' := 140) (n2 := 160) rfl (CR.of c_89) (CR.tr (n := 20) (n' := 120) (n2 := 140) rfl (CR.of c_90) (CR.tr (n := 20) (n' := 100) (n2 := 120) rfl (CR.of c_91) (CR.tr (n := 20) (n' := 80) (n2 := 100) rfl (CR.of c_92) (CR.tr (n := 20) (n' := 60) (n2 := 80) rfl (CR.of c_93) (CR.tr (n := 20) (n' := 40) (n2 := 60) rfl (CR.of c_94) (CR.tr (n := 20) (n' := 20) (n2 := 40) rfl (CR.of c_95) (CR.of c_96))))))))))
theorem allTurns : CR 1946 x0 (sUp 3 511 3 97) (yS 0) (yS 97) (kS 0) (kS 97) := (CR.tr (n := 342) (n' := 1604) (n2 := 1946) rfl g_0 (CR.tr (n := 202) (n' := 1402) (n2 := 1604) rfl g_1 (CR.tr (n := 200) (n' := 1202) (n2 := 1402) rfl g_2 (CR.tr (n := 200) (n' := 1002) (n2 := 1202) rfl g_3 (CR.tr (n := 200) (n' := 802) (n2 := 1002) rfl g_4 (CR.tr (n := 200) (n' := 602) (n2 := 802) rfl g_5 (CR.tr (n := 202) (n' := 400) (n2 := 602) rfl g_6 (CR.tr (n := 200) (n' := 200) (n2 := 400) rfl g_7 g_8))))))))
end
end
-- KHead9
noncomputable section
open PySem PySem.W PyProof.Rows
set_option Elab.async false
set_option maxRecDepth 100000
set_option maxHeartbeats 0
set_option linter.unusedVariables false
noncomputable section
noncomputable abbrev den9 : Code → Sem Fin := PySem.W.Fast.tw11892475500146522536 TB
noncomputable def pre8 (w : World) (b : Bool) (os : OsState) : Option (SharedT × Thread) := PySem.W.Fast.tw10295753902157049106 TB pw (pF w b) 11 (some (.ref 6)) 1 1778 (st (L8 (pF w b).params) n8 k8 os) ⟨(PySem.W.Fast.tw12563942051412417395 (sts 8 9) env0).wrap doneF deadEnd id id, c0, p8, fr0⟩
noncomputable def thr8 (w : World) (b : Bool) (os : OsState) : Thread := match pre8 w b os with | some (_, t) => t | none => ⟨.pure (.done .next), c0, p8, []⟩
noncomputable def isRet4 (l : List Frame) : Bool := match l with | [.ret _ _ _ _ _ _ _, _, _, _] => true | _ => false
noncomputable abbrev ledOf (w : World) (b : Bool) : Bool := !(pF w b).params.followText "set-order"
noncomputable abbrev P8 (w : World) (b : Bool) (os : OsState) := ((pre8 w b os).map (fun r => (r.1, r.2.cur, r.2.code, r.2.pos, isRet4 r.2.stack)), PySem.W.Fast.tw10110043849684766642 TB pw (pF w b) 11 (some (.ref 6)) 1 60 (stc (pF w b).params (sUp 3 511 3 97 (ledOf w b)) (yS 97) (kS 97) os) ⟨den9 cLoop, cLoop, pLoop, (thr8 w b os).stack⟩)
noncomputable abbrev R8 (w : World) (b : Bool) (os : OsState) := (some (stc (pF w b).params (x0 (ledOf w b)) (yS 0) (kS 0) os, den9 cLoop, cLoop, pLoop, true), some (Flow.next, st (L9 (pF w b).params) n9 k9 os, c0, p9))
theorem p8_both (w : World) : (fun os => (P8 w false os, P8 w true os)) = fun os => (R8 w false os, R8 w true os) := by kernel_rfl
end
end
-- KHeadM
noncomputable section
open PySem PySem.W PyProof.Rows
set_option Elab.async false
set_option maxRecDepth 100000
set_option maxHeartbeats 0
set_option linter.unusedVariables false
noncomputable section
noncomputable abbrev XtR : Shared → Bool := fun s => xlAt vw [] s && recOk (RowW.records PySem.Challenge.rw_yh0002_01.row.toRowW) s
theorem look1 (w : World) : (fun os => (staticsOk (importedModules pw.main.body) (boot_heap (pF w false).params) (st (L27 (pF w false).params) n27 k27 os).abs.heap && namesBound pw (st (L27 (pF w false).params) n27 k27 os).abs.heap && gensDone (st (L27 (pF w false).params) n27 k27 os).abs && laidKept (boot_heap (pF w false).params) (st (L27 (pF w false).params) n27 k27 os).abs.heap)) = fun _ => true := by kernel_rfl
theorem look2 (w : World) : (fun os => PySem.W.Fast.tw4187177175401517315 vw loo (importedModules pw.main.body) XtR true (st (L27 (pF w false).params) n27 k27 os).abs) = fun _ => openGood vw loo := by kernel_rfl
theorem look3 (w : World) : (fun os => Hook.obs HK (st (L27 (pF w false).params) n27 k27 os).abs) = fun _ => Hook.val HK (pF w false) := by kernel_rfl
end
end
-- KHeadMt
noncomputable section
open PySem PySem.W PyProof.Rows
set_option Elab.async false
set_option maxRecDepth 100000
set_option maxHeartbeats 0
set_option linter.unusedVariables false
noncomputable section
theorem look1_t (w : World) : (fun os => (staticsOk (importedModules pw.main.body) (boot_heap (pF w true).params) (st (L27 (pF w true).params) n27 k27 os).abs.heap && namesBound pw (st (L27 (pF w true).params) n27 k27 os).abs.heap && gensDone (st (L27 (pF w true).params) n27 k27 os).abs && laidKept (boot_heap (pF w true).params) (st (L27 (pF w true).params) n27 k27 os).abs.heap)) = fun _ => true := by kernel_rfl
theorem look2_t (w : World) : (fun os => PySem.W.Fast.tw4187177175401517315 vw loo (importedModules pw.main.body) XtR true (st (L27 (pF w true).params) n27 k27 os).abs) = fun _ => openGood vw loo := by kernel_rfl
theorem look3_t (w : World) : (fun os => Hook.obs HK (st (L27 (pF w true).params) n27 k27 os).abs) = fun _ => Hook.val HK (pF w true) := by kernel_rfl
end
end
-- KHeadS
noncomputable section
open PySem PySem.W PyProof.Rows
set_option Elab.async false
set_option maxRecDepth 100000
set_option maxHeartbeats 0
set_option linter.unusedVariables false
noncomputable section
theorem seg_0_3_t (w : World) : (fun os => PySem.W.Fast.tw10110043849684766642 TB pw (pF w true) 11 (some (.ref 6)) 1 239 (st (L0 (pF w true).params) n0 k0 os) ⟨(PySem.W.Fast.tw12563942051412417395 (sts 0 3) env0).wrap doneF deadEnd id id, c0, p0, fr0⟩)
  = fun os => some (Flow.next, st (L3 (pF w true).params) n3 k3 os, c0, p3) := by kernel_rfl
theorem seg_3_8_f (w : World) : (fun os => PySem.W.Fast.tw10110043849684766642 TB pw (pF w false) 11 (some (.ref 6)) 1 1222 (st (L3 (pF w false).params) n3 k3 os) ⟨(PySem.W.Fast.tw12563942051412417395 (sts 3 8) env0).wrap doneF deadEnd id id, c0, p3, fr0⟩)
  = fun os => some (Flow.next, st (L8 (pF w false).params) n8 k8 os, c0, p8) := by kernel_rfl
theorem seg_3_8_t (w : World) : (fun os => PySem.W.Fast.tw10110043849684766642 TB pw (pF w true) 11 (some (.ref 6)) 1 1222 (st (L3 (pF w true).params) n3 k3 os) ⟨(PySem.W.Fast.tw12563942051412417395 (sts 3 8) env0).wrap doneF deadEnd id id, c0, p3, fr0⟩)
  = fun os => some (Flow.next, st (L8 (pF w true).params) n8 k8 os, c0, p8) := by kernel_rfl
theorem seg_9_10_f (w : World) : (fun os => PySem.W.Fast.tw10110043849684766642 TB pw (pF w false) 11 (some (.ref 6)) 1 60 (st (L9 (pF w false).params) n9 k9 os) ⟨(PySem.W.Fast.tw12563942051412417395 (sts 9 10) env0).wrap doneF deadEnd id id, c0, p9, fr0⟩)
  = fun os => some (Flow.next, st (L10 (pF w false).params) n10 k10 os, c0, p10) := by kernel_rfl
theorem seg_9_10_t (w : World) : (fun os => PySem.W.Fast.tw10110043849684766642 TB pw (pF w true) 11 (some (.ref 6)) 1 60 (st (L9 (pF w true).params) n9 k9 os) ⟨(PySem.W.Fast.tw12563942051412417395 (sts 9 10) env0).wrap doneF deadEnd id id, c0, p9, fr0⟩)
  = fun os => some (Flow.next, st (L10 (pF w true).params) n10 k10 os, c0, p10) := by kernel_rfl
theorem seg_10_14_f (w : World) : (fun os => PySem.W.Fast.tw10110043849684766642 TB pw (pF w false) 11 (some (.ref 6)) 1 1000 (st (L10 (pF w false).params) n10 k10 os) ⟨(PySem.W.Fast.tw12563942051412417395 (sts 10 14) env0).wrap doneF deadEnd id id, c0, p10, fr0⟩)
  = fun os => some (Flow.next, st (L14 (pF w false).params) n14 k14 os, c0, p14) := by kernel_rfl
theorem seg_10_14_t (w : World) : (fun os => PySem.W.Fast.tw10110043849684766642 TB pw (pF w true) 11 (some (.ref 6)) 1 1000 (st (L10 (pF w true).params) n10 k10 os) ⟨(PySem.W.Fast.tw12563942051412417395 (sts 10 14) env0).wrap doneF deadEnd id id, c0, p10, fr0⟩)
  = fun os => some (Flow.next, st (L14 (pF w true).params) n14 k14 os, c0, p14) := by kernel_rfl
theorem seg_14_27_f (w : World) : (fun os => PySem.W.Fast.tw10110043849684766642 TB pw (pF w false) 11 (some (.ref 6)) 1 1000 (st (L14 (pF w false).params) n14 k14 os) ⟨(PySem.W.Fast.tw12563942051412417395 (sts 14 27) env0).wrap doneF deadEnd id id, c0, p14, fr0⟩)
  = fun os => some (Flow.next, st (L27 (pF w false).params) n27 k27 os, c0, p27) := by kernel_rfl
theorem seg_14_27_t (w : World) : (fun os => PySem.W.Fast.tw10110043849684766642 TB pw (pF w true) 11 (some (.ref 6)) 1 1000 (st (L14 (pF w true).params) n14 k14 os) ⟨(PySem.W.Fast.tw12563942051412417395 (sts 14 27) env0).wrap doneF deadEnd id id, c0, p14, fr0⟩)
  = fun os => some (Flow.next, st (L27 (pF w true).params) n27 k27 os, c0, p27) := by kernel_rfl
theorem pre_t (w : World) : (fun os => PySem.W.Fast.tw15667345088766844465 TB pw (pF w true) 11 (some (.ref 6)) 12 ⟨boot_heap (pF w true).params, ⟨[]⟩, boot_drawn, boot_toks, os⟩ (topStub pw))
  = fun os => some ((st (L0 (pF w true).params) n0 k0 os).abs, (⟨PySem.W.Fast.tw11892475500146522536 TB c0, c0, p0, fr0⟩ : Thread)) := by kernel_rfl
theorem block_t (w : World) : (fun os => PySem.W.Fast.tw10110043849684766642 TB pw (pF w true) 11 (some (.ref 6)) 1 1 (st (L0 (pF w true).params) n0 k0 os) (blockOf (behindTheImports pw) env0 c0 p0 fr0))
  = fun os => some (Flow.next, st (L0 (pF w true).params) n0 k0 os, c0, p0) := by kernel_rfl
theorem fin_t (w : World) : (fun os => PySem.W.Fast.tw14082659384304107361 TB pw (pF w true) 11 (some (.ref 6)) 2 (st (L27 (pF w true).params) n27 k27 os).abs ⟨doneF .next, c0, p27, fr0⟩)
  = fun os => some (st (L27 (pF w true).params) n27 k27 os).abs := by kernel_rfl
theorem size_t (w : World) : (fun (_ : Nat) => ((boot_heap (pF w true).params).isNs mainGlobals && (⟨[]⟩ : Array GenState).size == 0, (boot_heap (pF w true).params).objs.size, (boot_heap (pF w true).params).nsMap mainGlobals "__annotations__")) = fun _ => (true, 11, annR) := by kernel_rfl
theorem body_parts : behindTheImports pw = sts 0 3 ++ (sts 3 8 ++ (sts 8 9 ++ (sts 9 10 ++ (sts 10 14 ++ (sts 14 27 ++ []))))) := by kernel_rfl
end
end
-- KHeadR
noncomputable section
open PySem PySem.W PyProof.Rows
set_option Elab.async false
set_option maxRecDepth 100000
set_option maxHeartbeats 0
set_option linter.unusedVariables false
noncomputable section
noncomputable abbrev Tfin (w : World) (os : OsState) : Shared := (st (L27 w.params) n27 k27 os).abs
noncomputable abbrev SegA (w : World) (a b n : Nat) (s s' : OsState → SharedT) (p p' : Pos) : Prop := ∀ os, segRun treeTable pw w 11 annR 1 n (s os).abs (piecesOf (sts a b) env0 c0 p fr0) = some (Flow.next, (s' os).abs, c0, p')
theorem SegA.of {w : World} {a b n : Nat} {s s' : OsState → SharedT} {p p' : Pos} (h : (fun os => PySem.W.Fast.tw10110043849684766642 TB pw w 11 (some (.ref 6)) 1 n (s os) ⟨(PySem.W.Fast.tw12563942051412417395 (sts a b) env0).wrap doneF deadEnd id id, c0, p, fr0⟩) = fun os => some (Flow.next, s' os, c0, p')) : SegA w a b n s s' p p' := fun os => segRun_of (SegOk.of h os)
theorem isRet4_of {l : List Frame} (h : isRet4 l = true) : ∃ (k : Result → Sem Fin) (hd : Option Value) (g : Bool) (lv : List Value) (cd : Code) (q : Pos) (kept : List Value) (f2 f3 f4 : Frame), l = [.ret k hd g lv cd q kept, f2, f3, f4] := by
  unfold isRet4 at h
  split at h
  · exact ⟨_, _, _, _, _, _, _, _, _, _, rfl⟩
  · cases h
theorem x_8_9 {w : World} (b : Bool) (p : ∀ os, P8 w b os = R8 w b os) : SegA (pF w b) 8 9 3784 (st (L8 (pF w b).params) n8 k8) (st (L9 (pF w b).params) n9 k9) p8 p9 := fun os => by
  obtain ⟨a, c⟩ := Prod.mk.inj (p os)
  obtain ⟨⟨s1, t1⟩, e1, e2⟩ := Option.map_eq_some_iff.mp a
  have et : thr8 w b os = t1 := by unfold thr8; rw [e1]
  rw [et] at c
  obtain ⟨cur, code, pos, stk⟩ := t1
  simp only [Prod.mk.injEq] at e2
  obtain ⟨rfl, rfl, rfl, rfl, r⟩ := e2
  dsimp only at c
  obtain ⟨k, hd, g, lv, cd, q, kept, f2, f3, f4, rfl⟩ := isRet4_of r
  unfold pre8 at e1
  unfold den9 at e1 c
  rw [← PySem.W.Fast.te10295753902157049106, ← PySem.W.Fast.te12563942051412417395, ← PySem.W.Fast.te11892475500146522536] at e1
  rw [← PySem.W.Fast.te10110043849684766642, ← PySem.W.Fast.te11892475500146522536] at c
  unfold TB at e1 c
  rw [← PySem.W.Fast.te14364793385576792824] at e1 c
  exact seg_go (n := 1778) (N := 2006) (segGo_of e1) (allTurns b (ledOf w b) w k hd g lv cd q kept f2 f3 f4 os 60 _ (segRun_of c))
theorem run_f (w : World) (os : OsState) : topRun treeTable pw (pF w false) 11 annR 7320 ⟨boot_heap (pF w false).params, ⟨[]⟩, boot_drawn, boot_toks, os⟩ (topStub pw) = some (Tfin (pF w false) os) := by
  have pre := congrFun (pre_f w) os
  have fin := congrFun (fin_f w) os
  have blk := congrFun (block_f w) os
  (try dsimp only at pre); (try dsimp only at fin); (try dsimp only at blk)
  rw [← PySem.W.Fast.te15667345088766844465, ← PySem.W.Fast.te11892475500146522536] at pre
  rw [← PySem.W.Fast.te14082659384304107361] at fin
  rw [← PySem.W.Fast.te10110043849684766642] at blk
  unfold TB at pre fin blk
  rw [← PySem.W.Fast.te14364793385576792824] at pre fin blk
  have run : topRun treeTable pw (pF w false) 11 annR 7307 (st (L0 (pF w false).params) n0 k0 os).abs (restOf (behindTheImports pw) env0 c0 p0 fr0) = some (Tfin (pF w false) os) := by
    rw [body_parts]
    refine piece_app (n := 239) (N := 7068) ((SegA.of (seg_0_3_f w)) os) ?_
    refine piece_app (n := 1222) (N := 5846) ((SegA.of (seg_3_8_f w)) os) ?_
    refine piece_app (n := 3784) (N := 2062) ((x_8_9 false (fun os => (Prod.mk.inj (congrFun (p8_both w) os)).1)) os) ?_
    refine piece_app (n := 60) (N := 2002) ((SegA.of (seg_9_10_f w)) os) ?_
    refine piece_app (n := 1000) (N := 1002) ((SegA.of (seg_10_14_f w)) os) ?_
    refine piece_app (n := 1000) (N := 2) ((SegA.of (seg_14_27_f w)) os) ?_
    refine piece_nil ?_
    exact fin
  refine go_top (n := 12) (N := 7308) pre ?_
  unfold c0
  refine piece_block (n := 1) (N := 7307) (segRun_of blk) ?_
  exact run
theorem run_t (w : World) (os : OsState) : topRun treeTable pw (pF w true) 11 annR 7320 ⟨boot_heap (pF w true).params, ⟨[]⟩, boot_drawn, boot_toks, os⟩ (topStub pw) = some (Tfin (pF w true) os) := by
  have pre := congrFun (pre_t w) os
  have fin := congrFun (fin_t w) os
  have blk := congrFun (block_t w) os
  (try dsimp only at pre); (try dsimp only at fin); (try dsimp only at blk)
  rw [← PySem.W.Fast.te15667345088766844465, ← PySem.W.Fast.te11892475500146522536] at pre
  rw [← PySem.W.Fast.te14082659384304107361] at fin
  rw [← PySem.W.Fast.te10110043849684766642] at blk
  unfold TB at pre fin blk
  rw [← PySem.W.Fast.te14364793385576792824] at pre fin blk
  have run : topRun treeTable pw (pF w true) 11 annR 7307 (st (L0 (pF w true).params) n0 k0 os).abs (restOf (behindTheImports pw) env0 c0 p0 fr0) = some (Tfin (pF w true) os) := by
    rw [body_parts]
    refine piece_app (n := 239) (N := 7068) ((SegA.of (seg_0_3_t w)) os) ?_
    refine piece_app (n := 1222) (N := 5846) ((SegA.of (seg_3_8_t w)) os) ?_
    refine piece_app (n := 3784) (N := 2062) ((x_8_9 true (fun os => (Prod.mk.inj (congrFun (p8_both w) os)).2)) os) ?_
    refine piece_app (n := 60) (N := 2002) ((SegA.of (seg_9_10_t w)) os) ?_
    refine piece_app (n := 1000) (N := 1002) ((SegA.of (seg_10_14_t w)) os) ?_
    refine piece_app (n := 1000) (N := 2) ((SegA.of (seg_14_27_t w)) os) ?_
    refine piece_nil ?_
    exact fin
  refine go_top (n := 12) (N := 7308) pre ?_
  unfold c0
  refine piece_block (n := 1) (N := 7307) (segRun_of blk) ?_
  exact run
theorem st_abs (l : List Obj) (n k : Nat) (os : OsState) : (st l n k os).abs = (⟨absHeap (mkBT l) n {}, #[], {}, k, os⟩ : Shared) := rfl
theorem sizeA (w : World) : ((boot_heap w.params).isNs mainGlobals && (⟨[]⟩ : Array GenState).size == 0, (boot_heap w.params).objs.size, (boot_heap w.params).nsMap mainGlobals "__annotations__") = (true, 11, annR) := by
  refine byRow2 "special-get-raises" (P := fun w => ((boot_heap w.params).isNs mainGlobals && (⟨[]⟩ : Array GenState).size == 0, (boot_heap w.params).objs.size, (boot_heap w.params).nsMap mainGlobals "__annotations__") = (true, 11, annR)) ?_ ?_ w
  · intro w; have h := congrFun (size_f w) 0; exact h
  · intro w; have h := congrFun (size_t w) 0; exact h
theorem runA (w : World) (os : OsState) : topRun treeTable pw w 11 annR 7320 ⟨boot_heap w.params, ⟨[]⟩, boot_drawn, boot_toks, os⟩ (topStub pw) = some ⟨absHeap (mkBT (L27 w.params)) n27 {}, #[], {}, k27, os⟩ := by
  rw [← st_abs]
  refine byRow2 "special-get-raises" (P := fun w => topRun treeTable pw w 11 annR 7320 ⟨boot_heap w.params, ⟨[]⟩, boot_drawn, boot_toks, os⟩ (topStub pw) = some (Tfin w os)) ?_ ?_ w
  · intro w; exact run_f w os
  · intro w; exact run_t w os
theorem looksA (w : World) : (fun os => ((staticsOk (importedModules pw.main.body) (boot_heap w.params) (absHeap (mkBT (L27 w.params)) n27 {}) && namesBound pw (absHeap (mkBT (L27 w.params)) n27 {}) && gensDone ⟨absHeap (mkBT (L27 w.params)) n27 {}, #[], {}, k27, os⟩ && laidKept (boot_heap w.params) (absHeap (mkBT (L27 w.params)) n27 {})), openSeen vw loo (importedModules pw.main.body) XtR true ⟨absHeap (mkBT (L27 w.params)) n27 {}, #[], {}, k27, os⟩, Hook.obs HK ⟨absHeap (mkBT (L27 w.params)) n27 {}, #[], {}, k27, os⟩)) = fun _ => (true, openGood vw loo, Hook.val HK w) := by
  refine byRow2 "special-get-raises" (P := fun w => (fun os => ((staticsOk (importedModules pw.main.body) (boot_heap w.params) (absHeap (mkBT (L27 w.params)) n27 {}) && namesBound pw (absHeap (mkBT (L27 w.params)) n27 {}) && gensDone ⟨absHeap (mkBT (L27 w.params)) n27 {}, #[], {}, k27, os⟩ && laidKept (boot_heap w.params) (absHeap (mkBT (L27 w.params)) n27 {})), openSeen vw loo (importedModules pw.main.body) XtR true ⟨absHeap (mkBT (L27 w.params)) n27 {}, #[], {}, k27, os⟩, Hook.obs HK ⟨absHeap (mkBT (L27 w.params)) n27 {}, #[], {}, k27, os⟩)) = fun _ => (true, openGood vw loo, Hook.val HK w)) ?_ ?_ w
  · intro w
    funext os
    have l1 := congrFun (look1 w) os
    have l2 := congrFun (look2 w) os
    have l3 := congrFun (look3 w) os
    (try dsimp only at l1); (try dsimp only at l2); (try dsimp only at l3)
    rw [← PySem.W.Fast.te4187177175401517315] at l2
    rw [st_abs] at l1 l2 l3
    rw [Prod.mk.injEq, Prod.mk.injEq]
    exact ⟨l1, l2, l3⟩
  · intro w
    funext os
    have l1 := congrFun (look1_t w) os
    have l2 := congrFun (look2_t w) os
    have l3 := congrFun (look3_t w) os
    (try dsimp only at l1); (try dsimp only at l2); (try dsimp only at l3)
    rw [← PySem.W.Fast.te4187177175401517315] at l2
    rw [st_abs] at l1 l2 l3
    rw [Prod.mk.injEq, Prod.mk.injEq]
    exact ⟨l1, l2, l3⟩
theorem leftAll : LeftO PySem.Challenge.rw_yh0002_01.row.prog vw loo XtR (Hook.obs HK) (Hook.val HK) 13000 :=
  LeftO.of_pieces (p := pw) (H₀ := boot_heap) (gs₀ := ⟨[]⟩) (d₀ := boot_drawn) (k₀ := boot_toks) (m₀ := 11) (ann := annR) (M := 7320) (H₁ := fun P => absHeap (mkBT (L27 P)) n27 {}) (gs₁ := #[]) (d₁ := {}) (k₁ := k27) open_ok sizeA runA (by decide) looksA
end
end
open PySem PySem.W PyProof.Rows PySem.Calls PySem.Spec
local macro_rules | `(tactic| ktr_room) => `(tactic| ((try simp only [depth_under_make, depth_under_kw, depth_in1, depth_deeper, depth_caller] at *); (try dsimp only [ktrTop] at *); (try simp only [recursionLimit] at *); omega))
local macro_rules | `(tactic| units_room) => `(tactic| ktr_units)
-- KFun1
noncomputable section
open PySem PySem.W PyProof.Rows PySem.Calls PySem.Spec
set_option Elab.async false
set_option maxRecDepth 100000
set_option maxHeartbeats 8000000
noncomputable def c4f (c : Int) : Bool := if c < 64976 then false else if c < 65008 then true else [65534, 65535].any fun x => x == Builtin.bitAnd c 65535
theorem f_c4 (w : World) (mean : ExcName → Option Value) (mg mb : PySem.Str → Option Value) (c : Nat) (t : Tok) :
   CV w mean mg mb 21 [.str ⟨#[c]⟩ t] 1 8 (fun _ => True) (fun v _ => v = .bool (c4f c)) := by
  have hfill : (PySem.Challenge.rw_yh0002_01 = PySem.Challenge.rw_yh0002_01) ∧ KF = KF := by k_fill; exact ⟨rfl, rfl⟩
  clear hfill
  intro dp un gd cn cs a ccd cl outer A₀ base h₀ L m news s Q E B F X N T hk hyp hd hu hret
  obtain ⟨g, gens, drawn, toks, os⟩ := s
  dsimp only at F N hyp hret ⊢
  refine wpAny_call ?_
  k_dflt (first | (refine' code_defV ?zk19 ?zk29 ?zk39 ?zk59 ?zkA9 ?zkF9 ?zkK9 ?zk69 ?zk79 ?zk89 ?zk99 ?zkB9 ?_ ?zc29 ?zc39 ?zc49 ?zc59; (case zkA9 => exact rfl); (case zkF9 => exact rfl); (case zkK9 => first | exact rfl | assumption); (case zk19 => k_asm); (case zk29 => k_asm); (case zk39 => k_asm); (case zk59 => k_asm); (case zk69 => k_is); (case zk79 => k_is); (case zk89 => ktr_room); (case zk99 => exact BindsTo.of_eq rfl); (case zc59 => decide); (case zkB9 => exact locs rfl); (case zc29 => exact rfl); (case zc39 => exact rfl); (case zc49 => exact rfl); k_whole; intro L' h' FG' F' N' B' X' T'; (try dsimp only); (try k_lift B'); (try k_fold)) | (refine' code_defCV ?zk19 ?zk29 ?zk39 ?zk59 ?zkA9 ?zkF9 ?zkK9 ?zk69 ?zk79 ?zk89 ?zk99 ?zkB9 ?zkD9 ?_ ?zc29 ?zc39 ?zc49; (case zkA9 => exact rfl); (case zkF9 => exact rfl); (case zkK9 => first | exact rfl | assumption); (case zk19 => k_asm); (case zk29 => k_asm); (case zk39 => k_asm); (case zk59 => k_asm); (case zk69 => k_is); (case zk79 => k_is); (case zk89 => ktr_room); (case zk99 => exact BindsTo.of_eq rfl); (case zkB9 => exact rfl); (case zkD9 => decide +kernel); (case zc29 => exact rfl); (case zc39 => exact rfl); (case zc49 => exact rfl); k_whole; intro L' h' tk' cells' FG' F' N' Y' B' X' T'; k_cells Y'; (try simp only [List.cons_append, List.nil_append] at N'); (try dsimp only); (try k_lift B'); (try k_fold)))
  (repeat' (first | (k_unfold; (try dsimp only)) | (k_end; wrow_close) | (with_reducible ((with_reducible show wpAny _ _ (compareOp CmpOp.In (Value.int _ _) (Value.ref _)) _ _ _); (with_reducible show wpAny _ _ (compareOp CmpOp.In (Value.int _ _) (Value.ref _)) _ _ _); k_dflt (refine' in_setK ?zk19 ?zk29 ?zk39 ?zk49 ?_; (case zk19 => k_asm); (case zk29 => k_asm); (case zk39 => k_is); (case zk49 => first | exact ok6 _ | exact ok7 _ | exact ok8 _ | exact ok9 _); k_whole))) | walk1 | (dsimp only; walk1) | (leave1; walk_say "STEP leave1"; try dsimp only) | fail "no step"))
  all_goals (try k_data)
  all_goals (refine hret _ _ _ (frKeep F (Fr.keep (by assumption))) (newsKeep N (Fr.keep (by assumption))) (Fr.keep (by assumption)) ?_)
  · have h1 : (c : Int) < 64976 := by with_reducible assumption
    unfold c4f; rw [if_pos h1]
  · have h1 : ¬ (c : Int) < 64976 := by with_reducible assumption
    have h2 : (c : Int) < 65008 := by with_reducible assumption
    unfold c4f; rw [if_neg h1, if_pos h2]
  · have h1 : ¬ (c : Int) < 64976 := by with_reducible assumption
    have h2 : ¬ (c : Int) < 65008 := by with_reducible assumption
    unfold c4f; rw [if_neg h1, if_neg h2]
theorem f_c6 (w : World) (mean : ExcName → Option Value) (mg mb : PySem.Str → Option Value) (c : Nat) (t : Tok) :
   CV w mean mg mb 33 [.str ⟨#[c]⟩ t] 1 8 (fun _ => True) (fun v _ => v = .bool (decide ((c : Int) ∈ intsOf (q3_23 w.params)))) := by
  have hfill : (PySem.Challenge.rw_yh0002_01 = PySem.Challenge.rw_yh0002_01) ∧ KF = KF := by k_fill; exact ⟨rfl, rfl⟩
  clear hfill
  intro dp un gd cn cs a ccd cl outer A₀ base h₀ L m news s Q E B F X N T hk hyp hd hu hret
  obtain ⟨g, gens, drawn, toks, os⟩ := s
  dsimp only at F N hyp hret ⊢
  refine wpAny_call ?_
  k_dflt (first | (refine' code_defV ?zk19 ?zk29 ?zk39 ?zk59 ?zkA9 ?zkF9 ?zkK9 ?zk69 ?zk79 ?zk89 ?zk99 ?zkB9 ?_ ?zc29 ?zc39 ?zc49 ?zc59; (case zkA9 => exact rfl); (case zkF9 => exact rfl); (case zkK9 => first | exact rfl | assumption); (case zk19 => k_asm); (case zk29 => k_asm); (case zk39 => k_asm); (case zk59 => k_asm); (case zk69 => k_is); (case zk79 => k_is); (case zk89 => ktr_room); (case zk99 => exact BindsTo.of_eq rfl); (case zc59 => decide); (case zkB9 => exact locs rfl); (case zc29 => exact rfl); (case zc39 => exact rfl); (case zc49 => exact rfl); k_whole; intro L' h' FG' F' N' B' X' T'; (try dsimp only); (try k_lift B'); (try k_fold)) | (refine' code_defCV ?zk19 ?zk29 ?zk39 ?zk59 ?zkA9 ?zkF9 ?zkK9 ?zk69 ?zk79 ?zk89 ?zk99 ?zkB9 ?zkD9 ?_ ?zc29 ?zc39 ?zc49; (case zkA9 => exact rfl); (case zkF9 => exact rfl); (case zkK9 => first | exact rfl | assumption); (case zk19 => k_asm); (case zk29 => k_asm); (case zk39 => k_asm); (case zk59 => k_asm); (case zk69 => k_is); (case zk79 => k_is); (case zk89 => ktr_room); (case zk99 => exact BindsTo.of_eq rfl); (case zkB9 => exact rfl); (case zkD9 => decide +kernel); (case zc29 => exact rfl); (case zc39 => exact rfl); (case zc49 => exact rfl); k_whole; intro L' h' tk' cells' FG' F' N' Y' B' X' T'; k_cells Y'; (try simp only [List.cons_append, List.nil_append] at N'); (try dsimp only); (try k_lift B'); (try k_fold)))
  (repeat' (first | (k_unfold; (try dsimp only)) | (k_end; wrow_close) | (with_reducible ((with_reducible show wpAny _ _ (compareOp CmpOp.In (Value.int _ _) (Value.ref _)) _ _ _); (with_reducible show wpAny _ _ (compareOp CmpOp.In (Value.int _ _) (Value.ref _)) _ _ _); k_dflt (refine' in_setK ?zk19 ?zk29 ?zk39 ?zk49 ?_; (case zk19 => k_asm); (case zk29 => k_asm); (case zk39 => k_is); (case zk49 => first | exact ok6 _ | exact ok7 _ | exact ok8 _ | exact ok9 _); k_whole))) | walk1 | (dsimp only; walk1) | (leave1; walk_say "STEP leave1"; try dsimp only) | fail "no step"))
  all_goals (try k_data)
  all_goals (refine hret _ _ _ (frKeep F (Fr.keep (by assumption))) (newsKeep N (Fr.keep (by assumption))) (Fr.keep (by assumption)) ?_)
  rfl
theorem f_c7 (w : World) (mean : ExcName → Option Value) (mg mb : PySem.Str → Option Value) (c : Nat) (t : Tok) :
   CV w mean mg mb 45 [.str ⟨#[c]⟩ t] 1 8 (fun _ => True) (fun v _ => v = .bool (decide ((c : Int) ∈ intsOf (q8_35 w.params)))) := by
  have hfill : (PySem.Challenge.rw_yh0002_01 = PySem.Challenge.rw_yh0002_01) ∧ KF = KF := by k_fill; exact ⟨rfl, rfl⟩
  clear hfill
  intro dp un gd cn cs a ccd cl outer A₀ base h₀ L m news s Q E B F X N T hk hyp hd hu hret
  obtain ⟨g, gens, drawn, toks, os⟩ := s
  dsimp only at F N hyp hret ⊢
  refine wpAny_call ?_
  k_dflt (first | (refine' code_defV ?zk19 ?zk29 ?zk39 ?zk59 ?zkA9 ?zkF9 ?zkK9 ?zk69 ?zk79 ?zk89 ?zk99 ?zkB9 ?_ ?zc29 ?zc39 ?zc49 ?zc59; (case zkA9 => exact rfl); (case zkF9 => exact rfl); (case zkK9 => first | exact rfl | assumption); (case zk19 => k_asm); (case zk29 => k_asm); (case zk39 => k_asm); (case zk59 => k_asm); (case zk69 => k_is); (case zk79 => k_is); (case zk89 => ktr_room); (case zk99 => exact BindsTo.of_eq rfl); (case zc59 => decide); (case zkB9 => exact locs rfl); (case zc29 => exact rfl); (case zc39 => exact rfl); (case zc49 => exact rfl); k_whole; intro L' h' FG' F' N' B' X' T'; (try dsimp only); (try k_lift B'); (try k_fold)) | (refine' code_defCV ?zk19 ?zk29 ?zk39 ?zk59 ?zkA9 ?zkF9 ?zkK9 ?zk69 ?zk79 ?zk89 ?zk99 ?zkB9 ?zkD9 ?_ ?zc29 ?zc39 ?zc49; (case zkA9 => exact rfl); (case zkF9 => exact rfl); (case zkK9 => first | exact rfl | assumption); (case zk19 => k_asm); (case zk29 => k_asm); (case zk39 => k_asm); (case zk59 => k_asm); (case zk69 => k_is); (case zk79 => k_is); (case zk89 => ktr_room); (case zk99 => exact BindsTo.of_eq rfl); (case zkB9 => exact rfl); (case zkD9 => decide +kernel); (case zc29 => exact rfl); (case zc39 => exact rfl); (case zc49 => exact rfl); k_whole; intro L' h' tk' cells' FG' F' N' Y' B' X' T'; k_cells Y'; (try simp only [List.cons_append, List.nil_append] at N'); (try dsimp only); (try k_lift B'); (try k_fold)))
  (repeat' (first | (k_unfold; (try dsimp only)) | (k_end; wrow_close) | (with_reducible ((with_reducible show wpAny _ _ (compareOp CmpOp.In (Value.int _ _) (Value.ref _)) _ _ _); (with_reducible show wpAny _ _ (compareOp CmpOp.In (Value.int _ _) (Value.ref _)) _ _ _); k_dflt (refine' in_setK ?zk19 ?zk29 ?zk39 ?zk49 ?_; (case zk19 => k_asm); (case zk29 => k_asm); (case zk39 => k_is); (case zk49 => first | exact ok6 _ | exact ok7 _ | exact ok8 _ | exact ok9 _); k_whole))) | walk1 | (dsimp only; walk1) | (leave1; walk_say "STEP leave1"; try dsimp only) | fail "no step"))
  all_goals (try k_data)
  all_goals (refine hret _ _ _ (frKeep F (Fr.keep (by assumption))) (newsKeep N (Fr.keep (by assumption))) (Fr.keep (by assumption)) ?_)
  rfl
theorem f_c8 (w : World) (mean : ExcName → Option Value) (mg mb : PySem.Str → Option Value) (c : Nat) (t : Tok) :
   CV w mean mg mb 69 [.str ⟨#[c]⟩ t] 1 8 (fun _ => True) (fun v _ => v = .bool (decide ((c : Int) ∈ intsOf (q8_59 w.params)))) := by
  have hfill : (PySem.Challenge.rw_yh0002_01 = PySem.Challenge.rw_yh0002_01) ∧ KF = KF := by k_fill; exact ⟨rfl, rfl⟩
  clear hfill
  intro dp un gd cn cs a ccd cl outer A₀ base h₀ L m news s Q E B F X N T hk hyp hd hu hret
  obtain ⟨g, gens, drawn, toks, os⟩ := s
  dsimp only at F N hyp hret ⊢
  refine wpAny_call ?_
  k_dflt (first | (refine' code_defV ?zk19 ?zk29 ?zk39 ?zk59 ?zkA9 ?zkF9 ?zkK9 ?zk69 ?zk79 ?zk89 ?zk99 ?zkB9 ?_ ?zc29 ?zc39 ?zc49 ?zc59; (case zkA9 => exact rfl); (case zkF9 => exact rfl); (case zkK9 => first | exact rfl | assumption); (case zk19 => k_asm); (case zk29 => k_asm); (case zk39 => k_asm); (case zk59 => k_asm); (case zk69 => k_is); (case zk79 => k_is); (case zk89 => ktr_room); (case zk99 => exact BindsTo.of_eq rfl); (case zc59 => decide); (case zkB9 => exact locs rfl); (case zc29 => exact rfl); (case zc39 => exact rfl); (case zc49 => exact rfl); k_whole; intro L' h' FG' F' N' B' X' T'; (try dsimp only); (try k_lift B'); (try k_fold)) | (refine' code_defCV ?zk19 ?zk29 ?zk39 ?zk59 ?zkA9 ?zkF9 ?zkK9 ?zk69 ?zk79 ?zk89 ?zk99 ?zkB9 ?zkD9 ?_ ?zc29 ?zc39 ?zc49; (case zkA9 => exact rfl); (case zkF9 => exact rfl); (case zkK9 => first | exact rfl | assumption); (case zk19 => k_asm); (case zk29 => k_asm); (case zk39 => k_asm); (case zk59 => k_asm); (case zk69 => k_is); (case zk79 => k_is); (case zk89 => ktr_room); (case zk99 => exact BindsTo.of_eq rfl); (case zkB9 => exact rfl); (case zkD9 => decide +kernel); (case zc29 => exact rfl); (case zc39 => exact rfl); (case zc49 => exact rfl); k_whole; intro L' h' tk' cells' FG' F' N' Y' B' X' T'; k_cells Y'; (try simp only [List.cons_append, List.nil_append] at N'); (try dsimp only); (try k_lift B'); (try k_fold)))
  (repeat' (first | (k_unfold; (try dsimp only)) | (k_end; wrow_close) | (with_reducible ((with_reducible show wpAny _ _ (compareOp CmpOp.In (Value.int _ _) (Value.ref _)) _ _ _); (with_reducible show wpAny _ _ (compareOp CmpOp.In (Value.int _ _) (Value.ref _)) _ _ _); k_dflt (refine' in_setK ?zk19 ?zk29 ?zk39 ?zk49 ?_; (case zk19 => k_asm); (case zk29 => k_asm); (case zk39 => k_is); (case zk49 => first | exact ok6 _ | exact ok7 _ | exact ok8 _ | exact ok9 _); k_whole))) | walk1 | (dsimp only; walk1) | (leave1; walk_say "STEP leave1"; try dsimp only) | fail "no step"))
  all_goals (try k_data)
  all_goals (refine hret _ _ _ (frKeep F (Fr.keep (by assumption))) (newsKeep N (Fr.keep (by assumption))) (Fr.keep (by assumption)) ?_)
  rfl
theorem f_c9 (w : World) (mean : ExcName → Option Value) (mg mb : PySem.Str → Option Value) (c : Nat) (t : Tok) :
   CV w mean mg mb 87 [.str ⟨#[c]⟩ t] 1 8 (fun _ => True) (fun v _ => v = .bool (decide ((c : Int) ∈ intsOf (q9_77 w.params)))) := by
  have hfill : (PySem.Challenge.rw_yh0002_01 = PySem.Challenge.rw_yh0002_01) ∧ KF = KF := by k_fill; exact ⟨rfl, rfl⟩
  clear hfill
  intro dp un gd cn cs a ccd cl outer A₀ base h₀ L m news s Q E B F X N T hk hyp hd hu hret
  obtain ⟨g, gens, drawn, toks, os⟩ := s
  dsimp only at F N hyp hret ⊢
  refine wpAny_call ?_
  k_dflt (first | (refine' code_defV ?zk19 ?zk29 ?zk39 ?zk59 ?zkA9 ?zkF9 ?zkK9 ?zk69 ?zk79 ?zk89 ?zk99 ?zkB9 ?_ ?zc29 ?zc39 ?zc49 ?zc59; (case zkA9 => exact rfl); (case zkF9 => exact rfl); (case zkK9 => first | exact rfl | assumption); (case zk19 => k_asm); (case zk29 => k_asm); (case zk39 => k_asm); (case zk59 => k_asm); (case zk69 => k_is); (case zk79 => k_is); (case zk89 => ktr_room); (case zk99 => exact BindsTo.of_eq rfl); (case zc59 => decide); (case zkB9 => exact locs rfl); (case zc29 => exact rfl); (case zc39 => exact rfl); (case zc49 => exact rfl); k_whole; intro L' h' FG' F' N' B' X' T'; (try dsimp only); (try k_lift B'); (try k_fold)) | (refine' code_defCV ?zk19 ?zk29 ?zk39 ?zk59 ?zkA9 ?zkF9 ?zkK9 ?zk69 ?zk79 ?zk89 ?zk99 ?zkB9 ?zkD9 ?_ ?zc29 ?zc39 ?zc49; (case zkA9 => exact rfl); (case zkF9 => exact rfl); (case zkK9 => first | exact rfl | assumption); (case zk19 => k_asm); (case zk29 => k_asm); (case zk39 => k_asm); (case zk59 => k_asm); (case zk69 => k_is); (case zk79 => k_is); (case zk89 => ktr_room); (case zk99 => exact BindsTo.of_eq rfl); (case zkB9 => exact rfl); (case zkD9 => decide +kernel); (case zc29 => exact rfl); (case zc39 => exact rfl); (case zc49 => exact rfl); k_whole; intro L' h' tk' cells' FG' F' N' Y' B' X' T'; k_cells Y'; (try simp only [List.cons_append, List.nil_append] at N'); (try dsimp only); (try k_lift B'); (try k_fold)))
  (repeat' (first | (k_unfold; (try dsimp only)) | (k_end; wrow_close) | (with_reducible ((with_reducible show wpAny _ _ (compareOp CmpOp.In (Value.int _ _) (Value.ref _)) _ _ _); (with_reducible show wpAny _ _ (compareOp CmpOp.In (Value.int _ _) (Value.ref _)) _ _ _); k_dflt (refine' in_setK ?zk19 ?zk29 ?zk39 ?zk49 ?_; (case zk19 => k_asm); (case zk29 => k_asm); (case zk39 => k_is); (case zk49 => first | exact ok6 _ | exact ok7 _ | exact ok8 _ | exact ok9 _); k_whole))) | walk1 | (dsimp only; walk1) | (leave1; walk_say "STEP leave1"; try dsimp only) | fail "no step"))
  all_goals (try k_data)
  all_goals (refine hret _ _ _ (frKeep F (Fr.keep (by assumption))) (newsKeep N (Fr.keep (by assumption))) (Fr.keep (by assumption)) ?_)
  rfl
theorem f_strcoll (w : World) (mean : ExcName → Option Value) (mg mb : PySem.Str → Option Value) (x y : PySem.Str) (t u : Tok) :
   CV w mean mg mb 138 [.str x t, .str y u] 1 8 (fun _ => True) (fun v _ => ∃ tk, v = .int (b2i (decide (y.cps.toList < x.cps.toList)) - b2i (decide (x.cps.toList < y.cps.toList))) tk) := by
  have hfill : (PySem.Challenge.rw_yh0002_01 = PySem.Challenge.rw_yh0002_01) ∧ KF = KF := by k_fill; exact ⟨rfl, rfl⟩
  clear hfill
  intro dp un gd cn cs a ccd cl outer A₀ base h₀ L m news s Q E B F X N T hk hyp hd hu hret
  obtain ⟨g, gens, drawn, toks, os⟩ := s
  dsimp only at F N hyp hret ⊢
  refine wpAny_call ?_
  k_dflt (first | (refine' code_defV ?zk19 ?zk29 ?zk39 ?zk59 ?zkA9 ?zkF9 ?zkK9 ?zk69 ?zk79 ?zk89 ?zk99 ?zkB9 ?_ ?zc29 ?zc39 ?zc49 ?zc59; (case zkA9 => exact rfl); (case zkF9 => exact rfl); (case zkK9 => first | exact rfl | assumption); (case zk19 => k_asm); (case zk29 => k_asm); (case zk39 => k_asm); (case zk59 => k_asm); (case zk69 => k_is); (case zk79 => k_is); (case zk89 => ktr_room); (case zk99 => exact BindsTo.of_eq rfl); (case zc59 => decide); (case zkB9 => exact locs rfl); (case zc29 => exact rfl); (case zc39 => exact rfl); (case zc49 => exact rfl); k_whole; intro L' h' FG' F' N' B' X' T'; (try dsimp only); (try k_lift B'); (try k_fold)) | (refine' code_defCV ?zk19 ?zk29 ?zk39 ?zk59 ?zkA9 ?zkF9 ?zkK9 ?zk69 ?zk79 ?zk89 ?zk99 ?zkB9 ?zkD9 ?_ ?zc29 ?zc39 ?zc49; (case zkA9 => exact rfl); (case zkF9 => exact rfl); (case zkK9 => first | exact rfl | assumption); (case zk19 => k_asm); (case zk29 => k_asm); (case zk39 => k_asm); (case zk59 => k_asm); (case zk69 => k_is); (case zk79 => k_is); (case zk89 => ktr_room); (case zk99 => exact BindsTo.of_eq rfl); (case zkB9 => exact rfl); (case zkD9 => decide +kernel); (case zc29 => exact rfl); (case zc39 => exact rfl); (case zc49 => exact rfl); k_whole; intro L' h' tk' cells' FG' F' N' Y' B' X' T'; k_cells Y'; (try simp only [List.cons_append, List.nil_append] at N'); (try dsimp only); (try k_lift B'); (try k_fold)))
  (repeat' (first | (k_unfold; (try dsimp only)) | (k_end; wrow_close) | (with_reducible ((with_reducible show wpAny _ _ (compareOp CmpOp.In (Value.int _ _) (Value.ref _)) _ _ _); (with_reducible show wpAny _ _ (compareOp CmpOp.In (Value.int _ _) (Value.ref _)) _ _ _); k_dflt (refine' in_setK ?zk19 ?zk29 ?zk39 ?zk49 ?_; (case zk19 => k_asm); (case zk29 => k_asm); (case zk39 => k_is); (case zk49 => first | exact ok6 _ | exact ok7 _ | exact ok8 _ | exact ok9 _); k_whole))) | walk1 | (dsimp only; walk1) | (leave1; walk_say "STEP leave1"; try dsimp only) | fail "no step"))
  all_goals (try k_data)
  all_goals (refine hret _ _ _ (frKeep F (Fr.keep (by assumption))) (newsKeep N (Fr.keep (by assumption))) (Fr.keep (by assumption)) ?_)
  exact ⟨_, rfl⟩
end
-- KFun2
noncomputable section
open PySem PySem.W PyProof.Rows PySem.Calls PySem.Spec
set_option Elab.async false
set_option maxRecDepth 100000
set_option maxHeartbeats 8000000
theorem intsC {ys : List Value} {ns : List Int} (h : CarriedAll ys (ns.map PyData.int)) : IntsAre ys ns := by
  have := CarriedAll.intsOf (f := id) h
  simpa using this
local macro_rules | `(tactic| l_ints) => `(tactic| exact intsC (by with_reducible assumption))
noncomputable def c8l : List Int := 832 :: 833 :: 8206 :: 8207 :: (rangeInts 8234 1 ((8239 : Int) - 8234).toNat ++ rangeInts 8298 1 ((8304 : Int) - 8298).toNat)
theorem c8b (k : Nat) : 0 ≤ c8l.getD k 0 ∧ c8l.getD k 0 ≤ 1114111 := by
  have h : ∀ x ∈ c8l, 0 ≤ x ∧ x ≤ 1114111 := by decide +kernel
  rw [List.getD_eq_getElem?_getD]
  cases e : c8l[k]? with
  | none => exact ⟨by decide, by decide⟩
  | some x => exact h x (List.mem_of_getElem? e)
noncomputable def sgn (tb p : Int) : Int := if tb = 0 ∧ p.fmod 3 = 0 then 64976 + (p.fdiv 3).fmod 32 else if tb = 0 then 65536 * (p.fdiv 3).fmod 17 + 65533 + p.fmod 3 else if tb = 1 then 65529 + p.fmod 5 else if tb = 2 then 12272 + p.fmod 12 else if tb = 3 then c8l.getD (p.fmod 15).toNat 0 else if p.fmod 97 = 96 then 917505 else 917536 + p.fmod 97
theorem sgn_end {c : Nat} {tk : Tok} {i : Int} (h : i = c) : ∃ t, Value.str ⟨#[c]⟩ tk = Value.str ⟨#[i.toNat]⟩ t := ⟨tk, by rw [h]; rfl⟩
theorem f_sign (w : World) (mean : ExcName → Option Value) (mg mb : PySem.Str → Option Value) (tb p : Int) (t u : Tok) (htb : 0 ≤ tb ∧ tb ≤ 4) :
   CV w mean mg mb 145 [.int tb t, .int p u] 1 8 (fun _ => True) (fun v _ => ∃ tk, v = .str ⟨#[(sgn tb p).toNat]⟩ tk) := by
  have hfill : (PySem.Challenge.rw_yh0002_01 = PySem.Challenge.rw_yh0002_01) ∧ KF = KF := by k_fill; exact ⟨rfl, rfl⟩
  clear hfill
  intro dp un gd cn cs a ccd cl outer A₀ base h₀ L m news s Q E B F X N T hk hyp hd hu hret
  obtain ⟨g, gens, drawn, toks, os⟩ := s
  dsimp only at F N hyp hret ⊢
  refine wpAny_call ?_
  k_dflt (first | (refine' code_defV ?zk19 ?zk29 ?zk39 ?zk59 ?zkA9 ?zkF9 ?zkK9 ?zk69 ?zk79 ?zk89 ?zk99 ?zkB9 ?_ ?zc29 ?zc39 ?zc49 ?zc59; (case zkA9 => exact rfl); (case zkF9 => exact rfl); (case zkK9 => first | exact rfl | assumption); (case zk19 => k_asm); (case zk29 => k_asm); (case zk39 => k_asm); (case zk59 => k_asm); (case zk69 => k_is); (case zk79 => k_is); (case zk89 => ktr_room); (case zk99 => exact BindsTo.of_eq rfl); (case zc59 => decide); (case zkB9 => exact locs rfl); (case zc29 => exact rfl); (case zc39 => exact rfl); (case zc49 => exact rfl); k_whole; intro L' h' FG' F' N' B' X' T'; (try dsimp only); (try k_lift B'); (try k_fold)) | (refine' code_defCV ?zk19 ?zk29 ?zk39 ?zk59 ?zkA9 ?zkF9 ?zkK9 ?zk69 ?zk79 ?zk89 ?zk99 ?zkB9 ?zkD9 ?_ ?zc29 ?zc39 ?zc49; (case zkA9 => exact rfl); (case zkF9 => exact rfl); (case zkK9 => first | exact rfl | assumption); (case zk19 => k_asm); (case zk29 => k_asm); (case zk39 => k_asm); (case zk59 => k_asm); (case zk69 => k_is); (case zk79 => k_is); (case zk89 => ktr_room); (case zk99 => exact BindsTo.of_eq rfl); (case zkB9 => exact rfl); (case zkD9 => decide +kernel); (case zc29 => exact rfl); (case zc39 => exact rfl); (case zc49 => exact rfl); k_whole; intro L' h' tk' cells' FG' F' N' Y' B' X' T'; k_cells Y'; (try simp only [List.cons_append, List.nil_append] at N'); (try dsimp only); (try k_lift B'); (try k_fold)))
  (repeat' (first | (k_unfold; (try dsimp only)) | (k_end; wrow_close) | (with_reducible ((with_reducible show wpAny _ _ (call (Value.builtin "chr") _ _) _ _ _); k_dflt (refine chr_of_range (c8b _).1 (c8b _).2 ?_))) | walk1 | (dsimp only; walk1) | (leave1; walk_say "STEP leave1"; try dsimp only) | fail "no step"))
  all_goals (try k_data)
  all_goals (refine hret _ _ _ (frKeep F (Fr.keep (by assumption))) (newsKeep N (Fr.keep (by assumption))) (Fr.keep (by assumption)) ?_)
  all_goals (refine ⟨_, congrArg (fun c => Value.str ⟨#[Int.toNat c]⟩ _) ?_⟩)
  all_goals (unfold sgn; (repeat' split) <;> first | rfl | (exfalso; omega))
end
-- KComps
noncomputable section
open PySem PySem.W PyProof.Rows PySem.Calls PySem.Spec
set_option Elab.async false
set_option maxRecDepth 100000
set_option maxHeartbeats 8000000
set_option linter.unusedVariables false
open LCg LCt
/-- a word said ahead of a walk -/
structure Say {α : Type} (n : Nat) (x : α) : Prop where
/-- a goal laid aside -/
noncomputable def Hold (P : Prop) : Prop := P
theorem Hold.out {P : Prop} (h : Hold P) : P := h
theorem Hold.mk {P : Prop} (h : P) : Hold P := h
/-- pairs, place by place -/
inductive Two {α β : Type} (G : α → β → Prop) : List α → List β → Prop
  | nil : Two G [] []
  | cons {a b as bs} : G a b → Two G as bs → Two G (a :: as) (b :: bs)
theorem Two.snoc {α β : Type} {G : α → β → Prop} {as : List α} {bs : List β} {a : α} {b : β} (h : Two G as bs) (g : G a b) : Two G (as ++ [a]) (bs ++ [b]) := by
  induction h with
  | nil => exact .cons g .nil
  | cons x _ ih => exact .cons x ih
theorem Two.length {α β : Type} {G : α → β → Prop} {as : List α} {bs : List β} (h : Two G as bs) : as.length = bs.length := by
  induction h with
  | nil => rfl
  | cons _ _ ih => simp [ih]
section
variable {prog : Program} {w : World} {A : Around} {s : Shared} {h₀ : Heap} {L : Addr} {m : PySem.Str → Option Value} {env : Env}
/-- one turn's end -/
noncomputable def TurnE (h₀ : Heap) (L : Addr) (m : PySem.Str → Option Value) (s : Shared) (all : List (Addr × Obj)) (r : Prop) (s' : Shared) : Prop :=
  ∃ h' tk', s' = { s with heap := h', toks := tk' } ∧ Fr h₀ L h' m ∧ News h₀ L h' all ∧ r
theorem restT_all {ct elt : Expr} {x : PySem.Str} {scope : Scope} {cl : List (PySem.Str × Addr)} {S : List (Addr × Obj) → Prop} {P : Nat → Value → Prop} {Fin : List Value → List (Addr × Obj) → Prop} {news : List (Addr × Obj)} {n : Nat}
    (pz : Nat → Bool) (G : Nat → Value → Prop) (hS : S news)
    (step : ∀ i v I oI C oC D ys m₂ h tk (E' : Value → Shared → Prop), i < n → P i v → NsObj oC m₂ → m₂ x = some v → Fr h₀ L h m → News h₀ L h ((I, oI) :: (C, oC) :: (D, lst ys) :: news) → Off3 I C D news → ((@Ne Nat I C) ∧ (@Ne Nat I D) ∧ (@Ne Nat C D)) →
      wpAny (model prog w) A (isTrue ct (compEnvC scope cl C env) (eval ct (compEnvC scope cl C env))) (fun ok s' => TurnE h₀ L m s ((I, oI) :: (C, oC) :: (D, lst ys) :: news) (ok = pz i ∧ (pz i = true →
        wpAny (model prog w) A (eval elt (compEnvC scope cl C env)) (fun y s'' => TurnE h₀ L m s ((I, oI) :: (C, oC) :: (D, lst ys) :: news) (G i y) s'') E' s')) s') E' { s with heap := h, toks := tk })
    (fin : ∀ ys, Two G ((List.range n).filter pz) ys → Fin ys news) : CompRestT prog w A h₀ L m env ct elt x scope cl s S P Fin n 0 [] news := by
  have main : ∀ k i ys, i + k = n → Two G ((List.range i).filter pz) ys → CompRestT prog w A h₀ L m env ct elt x scope cl s S P Fin k i ys news := by
    intro k
    induction k with
    | zero =>
      intro i ys hi hT
      rw [Nat.add_zero] at hi; subst hi
      exact fin ys hT
    | succ k ih =>
      intro i ys hi hT
      refine CompRestT.succ fun v I oI C oC D m₂ h tk E' hP hC hx F N off ne => ?_
      refine wpAny_mono (step i v I oI C oC D ys m₂ h tk E' (by omega) hP hC hx F N off ne) (fun ok s' hs => ?_) fun _ _ e => e
      obtain ⟨h', tk', rfl, F', N', rfl, k2⟩ := hs
      cases hp : pz i with
      | true =>
        rw [if_pos rfl]
        refine wpAny_mono (k2 hp) (fun y s'' hs => ?_) fun _ _ e => e
        obtain ⟨h'', tk'', rfl, F'', N'', g⟩ := hs
        refine ⟨h'', tk'', news, rfl, F'', N'', off, hS, ih (i + 1) _ (by omega) ?_⟩
        rw [List.range_succ, List.filter_append, List.filter_cons, if_pos hp, List.filter_nil]
        exact hT.snoc g
      | false =>
        rw [if_neg Bool.false_ne_true]
        refine ⟨h', tk', news, rfl, F', N', off, hS, ih (i + 1) _ (by omega) ?_⟩
        rw [List.range_succ, List.filter_append, List.filter_cons, if_neg (by rw [hp]; exact Bool.false_ne_true), List.filter_nil, List.append_nil]
        exact hT
  exact main n 0 [] (Nat.zero_add n) .nil
theorem restU_all {elt : Expr} {x : PySem.Str} {scope : Scope} {cl : List (PySem.Str × Addr)} {S : List (Addr × Obj) → Prop} {P : Nat → Value → Prop} {Fin : List Value → List (Addr × Obj) → Prop} {news : List (Addr × Obj)} {n : Nat}
    (G : Nat → Value → Prop) (hS : S news)
    (step : ∀ i v I oI C oC D ys m₂ h tk (E' : Value → Shared → Prop), i < n → P i v → NsObj oC m₂ → m₂ x = some v → Fr h₀ L h m → News h₀ L h ((I, oI) :: (C, oC) :: (D, lst ys) :: news) → Off3 I C D news → ((@Ne Nat I C) ∧ (@Ne Nat I D) ∧ (@Ne Nat C D)) →
      wpAny (model prog w) A (eval elt (compEnvC scope cl C env)) (fun y s'' => TurnE h₀ L m s ((I, oI) :: (C, oC) :: (D, lst ys) :: news) (G i y) s'') E' { s with heap := h, toks := tk })
    (fin : ∀ ys, Two G (List.range n) ys → Fin ys news) : CompRest prog w A h₀ L m env elt x scope cl s S P Fin n 0 [] news := by
  have main : ∀ k i ys, i + k = n → Two G (List.range i) ys → CompRest prog w A h₀ L m env elt x scope cl s S P Fin k i ys news := by
    intro k
    induction k with
    | zero =>
      intro i ys hi hT
      rw [Nat.add_zero] at hi; subst hi
      exact fin ys hT
    | succ k ih =>
      intro i ys hi hT
      refine CompRest.succ fun v I oI C oC D m₂ h tk E' hP hC hx F N off ne => ?_
      refine wpAny_mono (step i v I oI C oC D ys m₂ h tk E' (by omega) hP hC hx F N off ne) (fun y s'' hs => ?_) fun _ _ e => e
      obtain ⟨h'', tk'', rfl, F'', N'', g⟩ := hs
      refine ⟨h'', tk'', news, rfl, F'', N'', off, hS, ih (i + 1) _ (by omega) ?_⟩
      rw [List.range_succ]
      exact hT.snoc g
  exact main n 0 [] (Nat.zero_add n) .nil
theorem restT_say (k : Nat) {ct elt : Expr} {x : PySem.Str} {scope : Scope} {cl : List (PySem.Str × Addr)} {S : List (Addr × Obj) → Prop} {P : Nat → Value → Prop} {Fin : List Value → List (Addr × Obj) → Prop} {news : List (Addr × Obj)} {n : Nat}
    {pz : Nat → Bool} {G : Nat → Value → Prop} (h1 : Say k pz) (h2 : Say k G) (hS : S news)
    (step : Hold (∀ i v I oI C oC D ys m₂ h tk (E' : Value → Shared → Prop), i < n → P i v → NsObj oC m₂ → m₂ x = some v → Fr h₀ L h m → News h₀ L h ((I, oI) :: (C, oC) :: (D, lst ys) :: news) → Off3 I C D news → ((@Ne Nat I C) ∧ (@Ne Nat I D) ∧ (@Ne Nat C D)) →
      wpAny (model prog w) A (isTrue ct (compEnvC scope cl C env) (eval ct (compEnvC scope cl C env))) (fun ok s' => TurnE h₀ L m s ((I, oI) :: (C, oC) :: (D, lst ys) :: news) (ok = pz i ∧ (pz i = true →
        wpAny (model prog w) A (eval elt (compEnvC scope cl C env)) (fun y s'' => TurnE h₀ L m s ((I, oI) :: (C, oC) :: (D, lst ys) :: news) (G i y) s'') E' s')) s') E' { s with heap := h, toks := tk }))
    (fin : Hold (∀ ys, Two G ((List.range n).filter pz) ys → Fin ys news)) : CompRestT prog w A h₀ L m env ct elt x scope cl s S P Fin n 0 [] news := restT_all pz G hS step fin
theorem restU_say (k : Nat) {elt : Expr} {x : PySem.Str} {scope : Scope} {cl : List (PySem.Str × Addr)} {S : List (Addr × Obj) → Prop} {P : Nat → Value → Prop} {Fin : List Value → List (Addr × Obj) → Prop} {news : List (Addr × Obj)} {n : Nat}
    {G : Nat → Value → Prop} (h2 : Say k G) (hS : S news)
    (step : Hold (∀ i v I oI C oC D ys m₂ h tk (E' : Value → Shared → Prop), i < n → P i v → NsObj oC m₂ → m₂ x = some v → Fr h₀ L h m → News h₀ L h ((I, oI) :: (C, oC) :: (D, lst ys) :: news) → Off3 I C D news → ((@Ne Nat I C) ∧ (@Ne Nat I D) ∧ (@Ne Nat C D)) →
      wpAny (model prog w) A (eval elt (compEnvC scope cl C env)) (fun y s'' => TurnE h₀ L m s ((I, oI) :: (C, oC) :: (D, lst ys) :: news) (G i y) s'') E' { s with heap := h, toks := tk }))
    (fin : Hold (∀ ys, Two G (List.range n) ys → Fin ys news)) : CompRest prog w A h₀ L m env elt x scope cl s S P Fin n 0 [] news := restU_all G hS step fin
end
end
-- KCompS
noncomputable section
open PySem PySem.W PyProof.Rows PySem.Calls PySem.Spec LCg
set_option Elab.async false
set_option maxRecDepth 100000
set_option maxHeartbeats 8000000
set_option linter.unusedVariables false
/-- the source of a list comprehension is a text -/
noncomputable def SrcS (prog : Program) (w : World) (A : Around) (h₀ : Heap) (L : Addr) (m : PySem.Str → Option Value) (env : Env) (elt : Expr) (x : PySem.Str) (scope : Scope) (cl : List (PySem.Str × Addr)) (Fin : Shared → List Value → List (Addr × Obj) → Prop) (xv : Value) (s₁ : Shared) : Prop :=
  ∃ y ty news, xv = .str y ty ∧ A.handled = none ∧ Fr h₀ L s₁.heap m ∧ News h₀ L s₁.heap news ∧ y.cps.size ≤ sizeLine ∧
    ∀ s₂ : Shared, (∃ h, s₂ = { s₁ with heap := h }) → CompRest prog w A h₀ L m env elt x scope cl s₂ (fun _ => True) (SignAt y) (Fin s₂) y.cps.size 0 [] news
theorem SrcS.intro {prog : Program} {w : World} {A : Around} {h₀ : Heap} {L : Addr} {m : PySem.Str → Option Value} {env : Env} {elt : Expr} {x : PySem.Str} {scope : Scope} {cl : List (PySem.Str × Addr)} {Fin : Shared → List Value → List (Addr × Obj) → Prop} {y : PySem.Str} {ty : Tok} {s₁ : Shared} {news : List (Addr × Obj)}
    (hh : A.handled = none) (F : Fr h₀ L s₁.heap m) (N : News h₀ L s₁.heap news) (hsz : y.cps.size ≤ sizeLine) (h : ∀ g, CompRest prog w A h₀ L m env elt x scope cl { s₁ with heap := g } (fun _ => True) (SignAt y) (Fin { s₁ with heap := g }) y.cps.size 0 [] news) : SrcS prog w A h₀ L m env elt x scope cl Fin (.str y ty) s₁ :=
  ⟨y, ty, news, rfl, hh, F, N, hsz, fun _ ⟨g, e⟩ => e ▸ h g⟩
section
variable {prog : Program} {w : World} {A : Around} {E : Value → Shared → Prop} {s : Shared} {h₀ : Heap} {L : Addr} {m : PySem.Str → Option Value} {env : Env}
theorem strIter_st {I : Addr} {T : String} {y : PySem.Str} {ty : Tok} : ∀ i (h h' : Heap) (o : Obj) (nw : List (Addr × Obj)), h.IsStrIter I T y ty i → h.get? I = some o → h'.get? I = some o → (∀ b o, h₀.get? b = some o → h'.get? b = some o) → News h₀ L h' nw → True → h'.IsStrIter I T y ty i :=
  fun i h h' o nw st e e' _ _ _ => by
    obtain ⟨o', q, r⟩ := st
    rw [e] at q; cases q
    exact ⟨o, e', r⟩
theorem ListComp_S {elt iter : Expr} {x : PySem.Str} {px : Pos} {scope : Scope} {cl : List (PySem.Str × Addr)} {pos : Pos} {Q : Value → Shared → Prop} (F₀ : Fr h₀ L s.heap m)
    (hclos : closureFor scope env = pure cl) (hcell : ∀ y ∈ scope.names, y.2 ≠ .cell) (hkind : scope.kind = .function)
    (hnames : ∀ y ∈ scope.names, y.2 = .local → scope.names.lookup y.1 = some .local) (hx : scope.names.lookup x = some .local)
    (h : wpAny (model prog w) A (eval iter env) (SrcS prog w A h₀ L m env elt x scope cl (fun s₂ => FinE h₀ L m s₂ Q)) E s)
    (hs : ∀ x, foldedSetIterable iter env x = pure x := by intro _; rfl) :
    wpAny (model prog w) A (eval (.ListComp elt [⟨.Name x px, iter, [], 0⟩] scope pos) env) Q E s := by
  rw [eval_ListComp]
  refine wpAny_comprehension_free (use := none) rfl hs hclos hkind hnames (wpAny_mono h (fun xv s₁ h₁ => ?_) fun _ _ e => e)
  obtain ⟨y, ty, news, rfl, hh, F, N, hsz, R⟩ := h₁
  cases ha : y.cps.all (· < 128)
  · refine wpAny_pyIter_wide ha ?_
    refine block_U (Walks.strWide hh _ y ty) hsz (fun i h st => by obtain ⟨o, e, _⟩ := st; exact ⟨o, e⟩) strIter_st hcell hkind hx ⟨_, Heap.get?_push_size _ rfl, rfl, rfl⟩ (fun b hb => ?_)
      (F.keeps fun _ _ e => Heap.get?_push_of_some _ e) (N.grown fun _ _ e => Heap.get?_push_of_some _ e) (Nat.ne_of_lt F.ns.lt) (next_is_new F) (fun p hp => Nat.ne_of_lt (Heap.lt_size (N p hp).1)) trivial (R _ ⟨_, rfl⟩) ?_
    · rw [List.mem_singleton.mp hb]
      show s₁.heap.objs.size < (s₁.heap.push _).objs.size
      rw [Heap.size_push]; exact Nat.lt_succ_self _
    · intro D C h tk m' ys news' F' N' o1 hn hC₀ hD₀ hCL hDL hCD offC fin
      refine ⟨m', hn, fun h'' hs'' => fin D h'' tk (F'.change hs'' hCL hC₀) (fun p hp => ?_) o1⟩
      refine ⟨hs''.extBut _ _ ?_ (N' p hp).1, (N' p hp).2⟩
      rcases List.mem_cons.mp hp with rfl | hp
      · exact Ne.symm hCD
      · exact offC p hp
  · refine wpAny_pyIter_ascii ha ?_
    refine block_U (Walks.strAscii hh _ y ty) hsz (fun i h st => by obtain ⟨o, e, _⟩ := st; exact ⟨o, e⟩) strIter_st hcell hkind hx ⟨_, Heap.get?_push_size _ rfl, rfl, rfl⟩ (fun b hb => ?_)
      (F.keeps fun _ _ e => Heap.get?_push_of_some _ e) (N.grown fun _ _ e => Heap.get?_push_of_some _ e) (Nat.ne_of_lt F.ns.lt) (next_is_new F) (fun p hp => Nat.ne_of_lt (Heap.lt_size (N p hp).1)) trivial (R _ ⟨_, rfl⟩) ?_
    · rw [List.mem_singleton.mp hb]
      show s₁.heap.objs.size < (s₁.heap.push _).objs.size
      rw [Heap.size_push]; exact Nat.lt_succ_self _
    · intro D C h tk m' ys news' F' N' o1 hn hC₀ hD₀ hCL hDL hCD offC fin
      refine ⟨m', hn, fun h'' hs'' => fin D h'' tk (F'.change hs'' hCL hC₀) (fun p hp => ?_) o1⟩
      refine ⟨hs''.extBut _ _ ?_ (N' p hp).1, (N' p hp).2⟩
      rcases List.mem_cons.mp hp with rfl | hp
      · exact Ne.symm hCD
      · exact offC p hp
end
end
-- KIadd
noncomputable section
open PySem PySem.W PyProof.Rows PySem.Calls PySem.Spec
set_option Elab.async false
set_option maxRecDepth 100000
set_option maxHeartbeats 8000000
set_option linter.unusedVariables false
section
variable {prog : Program} {w : World} {A : Around} {E : Value → Shared → Prop} {s : Shared} {h₀ : Heap} {L D b : Addr} {m : PySem.Str → Option Value} {news news' : List (Addr × Obj)} {its its2 : Array Value} {n n2 : Nat} {l : List Value}
theorem fill_list_iadd : fillsInplaceSlot (.type "list") "add" (Operator.Add == .Add) = pure false := by
  unfold fillsInplaceSlot
  show (typeLookup (.type "list") (dunderI "add") >>= fun fi => pure (fi.isSome && !isSeqSlot fi)) = pure false
  rw [PySem.F.slot_list_iadd.lookup]
  have e : isSeqSlot (some (.builtin "list.__iadd__")) = true := by decide +kernel
  rw [pure_bind, e]; rfl
theorem seq_list_iadd : seqSlot? (.type "list") (dunderI "add") = pure (some (.builtin "list.__iadd__")) := PyProof.Rows.seqSlot_of PySem.F.slot_list_iadd.lookup (by decide +kernel)
theorem kl_iadd {Q : Value → Shared → Prop} (F : Fr h₀ L s.heap m) (N : News h₀ L s.heap news) (hb : (b, W.listOf its2 n2) ∈ news) (e : its.toList ++ its2.toList = l) (hne : its2.toList.length ≠ 0)
    (U : Upd D (W.listOf its n) (W.listOf l.toArray (n + 1)) news news') (hd : ¬(!its.isEmpty && Builtin.List.listTooLong (its.size + its2.size)) = true) (hz : its.toList.length ≤ sizeLine) (hz2 : its.size + its2.size ≤ sizeLine + 1)
    (h : ∀ h', Fr h₀ L h' m → News h₀ L h' news' → Q (.ref D) { s with heap := h' }) : wpAny (model prog w) A (inplaceOp .Add (.ref D) (.ref b)) Q E s := by
  obtain ⟨pre, post, rfl, rfl, a, c⟩ := U.split
  have z := N (D, W.listOf its n) (List.mem_append.mpr (.inr (.head _)))
  have hc : wpAny (model prog w) A (call (.builtin "list.__iadd__") [.ref D, .ref b]) Q E s := by
    refine call_meets PySem.F.slot_list_iadd ⟨_, z.1, rfl⟩ PySem.F.entry_list_iadd (PySem.F.args_list_iadd_2 _ _) (PySem.AutoSeq1.list___iadd___list_list_0 D its n b its2 n2 hd (by simpa using hz) hz2) ⟨z.1, (N _ hb).1, h _ (F.change (Heap.SameBut.update ..) z.2.1 z.2.2) (kl_turn _ N a c ?_ ?_)⟩
    · subst e
      apply Array.toList_inj.mp
      simp
    · subst e
      simp at hne ⊢
      exact hne
  unfold inplaceOp
  refine wpAny_holding ?_
  refine wpAny_bind (wpAny_typeOf ⟨_, z.1, rfl⟩ (wpAny_bind (wpAny_of_eq fill_list_iadd ?_)))
  show wpAny _ A (if false = true then _ else _) Q E s
  rw [if_neg Bool.false_ne_true]
  refine wpAny_bind (binaryOp1_none (nm := "add") (T := "list") ⟨_, z.1, rfl⟩ ⟨_, (N _ hb).1, rfl⟩ noFill_list_add ?_)
  refine wpAny_bind (wpAny_of_eq seq_list_iadd ?_)
  exact wpAny_bind (wpAny_rule hc)
end
end
-- KMerge
noncomputable section
open PySem PySem.W PyProof.Rows PySem.Calls PySem.Spec PySem.SeqAt
set_option Elab.async false
set_option maxRecDepth 100000
set_option maxHeartbeats 8000000
set_option linter.unusedVariables false
structure Flag : Prop where
structure Kept (P : Prop) : Prop where
  out : P
theorem newsCons {h₀ h : Heap} {L : Addr} {l r : List (Addr × Obj)} {x : Addr × Obj} (N : News h₀ L h l) (hm : x ∈ l) (R : News h₀ L h r) : News h₀ L h (x :: r) := fun p hp => by
  rcases List.mem_cons.mp hp with rfl | hp
  · exact N _ hm
  · exact R p hp
inductive MergeP (h₀ : Heap) (L : Addr) (m : PySem.Str → Option Value) (s : Shared) (l : List (Addr × Obj)) (i : Nat) (D : Addr) (vs : Array Value) (c : Nat) (P : Bool → Prop) : Flow → Shared → Prop
  | mk (b : Bool) (h' : Heap) (tk' : Nat) (F : Fr h₀ L h' m) (N : News h₀ L h' (l.set i (D, W.listOf (vs.push (Value.bool b)) (c + 1)))) (p : P b) : MergeP h₀ L m s l i D vs c P Flow.next { s with heap := h', toks := tk' }
theorem mergeIf {prog : Program} {w : World} {A : Around} {Q : Flow → Shared → Prop} {E : Value → Shared → Prop} {s : Shared} {x : Sem Flow} {D : Addr} {h₀ : Heap} {L : Addr} {m : PySem.Str → Option Value} {l : List (Addr × Obj)} {vs : Array Value} {c : Nat} (i : Nat) (P : Bool → Prop)
  (F : Fr h₀ L s.heap m) (N : News h₀ L s.heap l) (hD : l[i]? = some (D, W.listOf vs c))
  (hx : wpAny (model prog w) A x (MergeP h₀ L m s l i D vs c P) E s)
  (use : ∀ b h' tk', P b → Fr h₀ L h' m → News h₀ L h' (l.set i (D, W.listOf (vs.push (Value.bool b)) (c + 1))) → Q Flow.next { s with heap := h', toks := tk' }) : wpAny (model prog w) A x Q E s := by
  refine wpAny_mono hx (fun fl s' h => ?_) (fun _ _ e => e)
  cases h with
  | mk b h' tk' F' N' p => exact use b h' tk' p F' N'
theorem map_range_getD {α : Type} (g : Int → α) (l : List Int) {n : Nat} (h : n = l.length) : (List.range n).map (fun i => g (l.getD i 0)) = l.map g := by
  subst h
  apply List.ext_getElem
  · simp
  · intro i h1 h2
    simp only [List.length_map, List.length_range] at h1
    simp only [List.getElem_map, List.getElem_range]
    rw [List.getD_eq_getElem?_getD, List.getElem?_eq_getElem h1]; rfl
theorem mxL_eq' {l : List Int} {m : Int} (hm : m ∈ l) (h0 : ∀ x ∈ l, 0 ≤ x) (hle : ∀ x ∈ l, x ≤ m) : m = mxL l := by
  have key : ∀ (l : List Int) (a : Int), a ≤ m → (∀ x ∈ l, x ≤ m) → (a = m ∨ m ∈ l) → l.foldl max a = m := by
    intro l
    induction l with
    | nil => intro a _ _ h; rcases h with h | h
             · exact h
             · cases h
    | cons y l ih =>
      intro a ha hl h
      simp only [List.foldl_cons]
      have hy := hl y (List.mem_cons_self ..)
      refine ih _ (by omega) (fun x hx => hl x (List.mem_cons_of_mem _ hx)) ?_
      rcases h with h | h
      · left; omega
      · rcases List.mem_cons.mp h with h | h
        · left; omega
        · exact .inr h
  exact (key l 0 (h0 m hm) hle (.inr hm)).symm
section
variable {prog : Program} {w : World} {A : Around} {E : Value → Shared → Prop} {s : Shared} {h₀ : Heap} {L : Addr} {news : List (Addr × Obj)}
noncomputable def isB (x : Bool) (y : Value) : Bool := match y with | .bool b => b == x | _ => false
theorem two_bools {b1 b2 x : Bool} {A' : Around} {s' : Shared} : ∀ y, y ∈ #[Value.bool b1].push (Value.bool b2) → EqAt A' s' y (.bool x) (isB x y) := by
  intro y hy
  rw [Array.mem_push] at hy
  rcases hy with hy | rfl
  · rw [Array.mem_singleton] at hy
    subst hy
    exact EqAt.bool_bool _ _
  · exact EqAt.bool_bool _ _
theorem in_bools {l : Addr} {n : Nat} {b1 b2 x : Bool} {Q : Value → Shared → Prop} (N : News h₀ L s.heap news) (hm : (l, W.listOf (#[Value.bool b1].push (Value.bool b2)) n) ∈ news) (h : Q (.bool (b1 == x || b2 == x)) s) :
    wpAny (model prog w) A (compareOp .In (.bool x) (.ref l)) Q E s := by
  have hl : s.heap.IsList l (#[Value.bool b1].push (Value.bool b2)) := ⟨_, (N _ hm).1, rfl, _, rfl⟩
  refine in_listAt (isB x) hl two_bools ?_
  have e : (#[Value.bool b1].push (Value.bool b2)).any (isB x) = (b1 == x || b2 == x) := by simp [isB]
  rw [e]; exact h
theorem notin_bools {l : Addr} {n : Nat} {b1 b2 x : Bool} {Q : Value → Shared → Prop} (N : News h₀ L s.heap news) (hm : (l, W.listOf (#[Value.bool b1].push (Value.bool b2)) n) ∈ news) (h : Q (.bool (!(b1 == x || b2 == x))) s) :
    wpAny (model prog w) A (compareOp .NotIn (.bool x) (.ref l)) Q E s := by
  have hl : s.heap.IsList l (#[Value.bool b1].push (Value.bool b2)) := ⟨_, (N _ hm).1, rfl, _, rfl⟩
  refine notIn_listAt (isB x) hl two_bools ?_
  have e : (#[Value.bool b1].push (Value.bool b2)).any (isB x) = (b1 == x || b2 == x) := by simp [isB]
  rw [e]; exact h
end
end
-- KLoop
noncomputable section
open PySem PySem.W PyProof.Rows PySem.Calls PySem.Spec
set_option Elab.async false
set_option maxRecDepth 100000
set_option maxHeartbeats 8000000
set_option linter.unusedVariables false
/-- the end of one turn of a loop over a range: the iterator stands, the rest as the invariant says -/
inductive TurnZ (h₀ : Heap) (L : Addr) (I : Addr) (oI : Obj) (J : (PySem.Str → Option Value) → List (Addr × Obj) → Prop) (s : Shared) : Flow → Shared → Prop
  | mk (h' : Heap) (tk' : Nat) (m' : PySem.Str → Option Value) (nx : List (Addr × Obj)) (F : Fr h₀ L h' m') (N : News h₀ L h' ((I, oI) :: nx)) (ne : ∀ p ∈ nx, p.1 ≠ I) (hJ : J m' nx) : TurnZ h₀ L I oI J s Flow.next { s with heap := h', toks := tk' }
noncomputable def Nes (I : Nat) : List (Addr × Obj) → Prop
  | [] => True
  | p :: r => @Ne Nat p.1 I ∧ Nes I r
theorem nesOf {I : Addr} : ∀ {nx : List (Addr × Obj)}, (∀ p ∈ nx, p.1 ≠ I) → Nes I nx
  | [], _ => trivial
  | p :: r, h => ⟨h p (List.mem_cons_self ..), nesOf fun q hq => h q (List.mem_cons_of_mem _ hq)⟩
theorem nesTo {I : Addr} : ∀ {nx : List (Addr × Obj)}, Nes I nx → ∀ p ∈ nx, p.1 ≠ I
  | [], _, p, hp => (List.not_mem_nil hp).elim
  | q :: r, h, p, hp => by
    rcases List.mem_cons.mp hp with rfl | hp
    · exact h.1
    · exact nesTo h.2 p hp
theorem memOf {x : Addr × Obj} {l : List (Addr × Obj)} (h : x ∈ l) : List.Mem x l := h
noncomputable def NeAll (a : Nat) : List Nat → Prop
  | [] => True
  | b :: r => @Ne Nat a b ∧ NeAll a r
/-- all different -/
noncomputable def Dst : List Nat → Prop
  | [] => True
  | a :: r => NeAll a r ∧ Dst r
section
variable {prog : Program} {w : World} {A : Around} {E : Value → Shared → Prop} {s : Shared} {env : Env} {h₀ : Heap} {body : List Stmt} {Q : Flow → Shared → Prop}
theorem turns_range {L : Addr} {x : PySem.Str} {px : Pos} {r : Addr} {a₀ b₀ : Int} {t₀ u₀ v₀ : Tok} {n : Nat} {m : PySem.Str → Option Value} {news : List (Addr × Obj)} (J : Nat → (PySem.Str → Option Value) → List (Addr × Obj) → Prop)
    (hL : env.locals = L) (hh : A.handled = none) (hr : IsRange s.heap r a₀ b₀ 1 t₀ u₀ v₀) (hsmall : Builtin.Range.small a₀ b₀ 1 = true) (hn : Builtin.Range.rangeSize a₀ b₀ 1 = (n : Int)) (F : Fr h₀ L s.heap m) (N : News h₀ L s.heap news) (h0 : J 0 m news)
    (turn : ∀ (i : Nat) t m₁ nx h tk I oI, i < n → J i m₁ nx → (∀ p ∈ nx, p.1 ≠ I) → Fr h₀ L h m₁ → News h₀ L h ((I, oI) :: nx) →
      wpAny (model prog w) A (assign (.Name x px) env (.int (a₀ + (i : Int)) t)) (fun _ s₃ => wpAny (model prog w) A (execs body env) (TurnZ h₀ L I oI (J (i + 1)) { s with heap := h, toks := tk }) E s₃) E { s with heap := h, toks := tk })
    (done : ∀ m₁ nx h tk, J n m₁ nx → Fr h₀ L h m₁ → News h₀ L h nx → Q .next { s with heap := h, toks := tk }) :
    wpAny (model prog w) A (pyIter (.ref r)) (fun it s₂ => TurnsAt prog w A h₀ env (.Name x px) body Q E it s₂) E s := by
  subst hL
  refine wpAny_pyIter_range hr hsmall ?_
  have W : Walks prog w A s.heap.objs.size [s.heap.objs.size] [s.heap.objs.size] n (fun i v => i < n ∧ ∃ t, v = .int (a₀ + i * 1) t)
      (fun i h => IsRangeIter h s.heap.objs.size (a₀ + (i : Nat) * 1) ((n : Int) - (i : Nat)) 1) := (Walks.range hh _ a₀ 1 n).bound
  have hL9 : env.locals ∉ [s.heap.objs.size] := by
    intro hm
    exact absurd F.ns.lt ((List.mem_singleton.mp hm) ▸ Nat.lt_irrefl _)
  have hfree : h₀.get? s.heap.objs.size = none := next_is_new F
  refine ⟨s.heap.objs.size, [s.heap.objs.size], [s.heap.objs.size], n, _, _, _, m, news, J, rfl, KTurns.ofWalks W (fun i v s' Q' E' _ q => wpAny_pure q), hL9, ?_, ?_, ?_, F.push _, ?_, h0, ?_, ?_⟩
  · intro b hb
    rw [List.mem_singleton.mp hb]; exact hfree
  · intro p hp hI
    exact absurd (Heap.lt_size (N p hp).1) ((List.mem_singleton.mp hI) ▸ Nat.lt_irrefl _)
  · show IsRangeIter _ _ _ _ _
    rw [hn]; simpa using Heap.get?_push_size _ rfl
  · exact fun p hp => ⟨Heap.get?_push_of_some _ (N p hp).1, (N p hp).2⟩
  · intro i v m₁ nx h₁ tk₁ own hi hP hJ hoff hown1 hown2 hown3 hst F₁ N₁
    obtain ⟨_, t, rfl⟩ := hP
    have e1 : a₀ + (i : Int) * 1 = a₀ + (i : Int) := by omega
    rw [e1]
    have hst' : IsRangeIter h₁ s.heap.objs.size (a₀ + ((i + 1 : Nat) : Int) * 1) ((n : Int) - ((i + 1 : Nat) : Int)) 1 := hst
    have hget := hst'
    unfold IsRangeIter at hget
    have hmem := hown3 _ (List.mem_singleton.mpr rfl) hfree _ hget
    have hne : ∀ p ∈ nx, p.1 ≠ s.heap.objs.size := fun p hp e => hoff p hp (List.mem_singleton.mpr e)
    have N₂ : News h₀ env.locals h₁ ((s.heap.objs.size, _) :: nx) := fun p hp => by
      rcases List.mem_cons.mp hp with rfl | hp
      · exact N₁ _ (List.mem_append_left _ hmem)
      · exact N₁ _ (List.mem_append_right _ hp)
    refine wpAny_mono (turn i t m₁ nx h₁ tk₁ _ _ hi hJ hne F₁ N₂) (fun _ s₃ h3 => wpAny_mono h3 (fun fl s₄ h4 => ?_) fun _ _ e => e) fun _ _ e => e
    cases h4 with
    | mk h' tk' m' nx' F' N' ne' hJ' =>
      refine LoopStepV.next (LoopStepU.intro F' (fun p hp => ?_) (fun p hp hI => ne' p hp (List.mem_singleton.mp hI)) hJ')
      rcases List.mem_append.mp hp with hp | hp
      · have h5 := hown1 p hp
        have h6 := hown2 p hp
        have h7 := List.mem_singleton.mp h5
        rw [h7, hget] at h6
        have : p = (s.heap.objs.size, _) := Prod.ext h7 (Option.some.inj h6).symm
        rw [this]
        exact N' _ (List.mem_cons_self ..)
      · exact N' p (List.mem_cons_of_mem _ hp)
  · intro h' tk m' nx F' N' _ hJ
    exact done m' nx h' tk hJ F' N'
end
/-- two addresses that differ, hidden from omega -/
structure NeK (a b : Nat) : Prop where
  out : @Ne Nat a b
noncomputable def NesK (I : Nat) : List (Addr × Obj) → Prop
  | [] => True
  | p :: r => NeK p.1 I ∧ NesK I r
theorem nesK {I : Addr} : ∀ {nx : List (Addr × Obj)}, (∀ p ∈ nx, p.1 ≠ I) → NesK I nx
  | [], _ => trivial
  | p :: r, h => ⟨⟨h p (List.mem_cons_self ..)⟩, nesK fun q hq => h q (List.mem_cons_of_mem _ hq)⟩
theorem nesKTo {I : Addr} : ∀ {nx : List (Addr × Obj)}, NesK I nx → ∀ p ∈ nx, p.1 ≠ I
  | [], _, p, hp => (List.not_mem_nil hp).elim
  | q :: r, h, p, hp => by
    rcases List.mem_cons.mp hp with rfl | hp
    · exact h.1.out
    · exact nesKTo h.2 p hp
theorem off1K {D : Addr} : ∀ {nx : List (Addr × Obj)}, LCg.Off1 D nx → NesK D nx
  | [], _ => trivial
  | p :: r, h => ⟨⟨h.1⟩, off1K h.2⟩
theorem ltK {D : Addr} : ∀ {nx : List (Addr × Obj)}, AllLt D nx → NesK D nx
  | [], _ => trivial
  | p :: r, h => ⟨⟨Nat.ne_of_lt h.1⟩, ltK h.2⟩
end
-- KNe
noncomputable section
open PySem PySem.W PyProof.Rows PySem.Calls PySem.Spec
set_option Elab.async false
set_option maxRecDepth 100000
set_option maxHeartbeats 8000000
set_option linter.unusedVariables false
noncomputable def Desc : List Nat → Prop
  | a :: b :: r => @LT.lt Nat _ b a ∧ Desc (b :: r)
  | _ => True
theorem desc_lt : ∀ {r : List Nat} {a b : Nat}, Desc (a :: r) → @LT.lt Nat _ a b → NeAll b (a :: r)
  | [], a, b, _, h => ⟨(Nat.ne_of_lt h).symm, trivial⟩
  | c :: r, a, b, h, hab => ⟨(Nat.ne_of_lt hab).symm, desc_lt h.2 (Nat.lt_trans h.1 hab)⟩
theorem dst_desc : ∀ {l : List Nat}, Desc l → Dst l
  | [], _ => trivial
  | [a], _ => ⟨trivial, trivial⟩
  | a :: b :: r, h => ⟨desc_lt h.2 h.1, dst_desc h.2⟩
theorem neAllOf {D : Nat} : ∀ {nx : List (Addr × Obj)}, AllLt D nx → NeAll D (nx.map (·.1))
  | [], _ => trivial
  | p :: r, h => ⟨(Nat.ne_of_lt h.1).symm, neAllOf h.2⟩
theorem neAll_mem {a : Nat} : ∀ {l : List Nat}, NeAll a l → ∀ {j b : Nat}, l[j]? = some b → @Ne Nat a b
  | [], _, j, b, h => by cases h
  | c :: r, h, 0, b, e => by
    have : c = b := Option.some.inj e
    exact this ▸ h.1
  | c :: r, h, j + 1, b, e => neAll_mem h.2 e
theorem dstK : ∀ {l : List Nat}, Dst l → ∀ (i : Nat) {j : Nat} {a b : Nat}, l[i]? = some a → l[j]? = some b → i < j → NeK a b
  | [], _, i, j, a, b, h, _, _ => by cases h
  | c :: r, h, 0, j + 1, a, b, e1, e2, _ => by
    have : c = a := Option.some.inj e1
    exact ⟨this ▸ neAll_mem h.1 e2⟩
  | c :: r, h, i + 1, j + 1, a, b, e1, e2, hij => dstK h.2 i e1 e2 (Nat.lt_of_succ_lt_succ hij)
theorem neMap2 {l l' : List (Addr × Obj)} {I : Addr} (h : ∀ p ∈ l, p.1 ≠ I) (e : l'.map (·.1) = l.map (·.1)) : ∀ p ∈ l', p.1 ≠ I := fun p hp => by
  have : p.1 ∈ l'.map (·.1) := List.mem_map_of_mem hp
  rw [e] at this
  obtain ⟨q, hq, eq⟩ := List.mem_map.mp this
  exact eq ▸ h q hq
theorem lt_1 (L : Nat) : @LT.lt Nat _ L (L + 1) := Nat.lt_succ_self L
noncomputable def NesArrow (D : Nat) : List (Addr × Obj) → Prop → Prop
  | [], G => G
  | (a, _) :: r, G => NeK a D → NesArrow D r G
theorem nesSplit {D : Nat} {G : Prop} : ∀ {l : List (Addr × Obj)}, NesK D l → NesArrow D l G → G
  | [], _, k => k
  | (a, o) :: r, h, k => nesSplit h.2 (k h.1)
theorem nesArrow_intro {D : Nat} {G : Prop} : ∀ {l : List (Addr × Obj)}, (NesK D l → G) → NesArrow D l G
  | [], k => k trivial
  | (a, o) :: r, k => fun h => nesArrow_intro fun h2 => k ⟨h, h2⟩
section
variable {prog : Program} {w : World} {A : Around} {E : Value → Shared → Prop} {s : Shared} {env : Env} {h₀ : Heap} {body : List Stmt} {Q : Flow → Shared → Prop}
/-- the same loop rule, the end of a turn hidden behind a variable -/
theorem turns_rangeQ {L : Addr} {x : PySem.Str} {px : Pos} {r : Addr} {a₀ b₀ : Int} {t₀ u₀ v₀ : Tok} {n : Nat} {m : PySem.Str → Option Value} {news : List (Addr × Obj)} (J : Nat → (PySem.Str → Option Value) → List (Addr × Obj) → Prop)
    (hL : env.locals = L) (hh : A.handled = none) (hr : IsRange s.heap r a₀ b₀ 1 t₀ u₀ v₀) (hsmall : Builtin.Range.small a₀ b₀ 1 = true) (hn : Builtin.Range.rangeSize a₀ b₀ 1 = (n : Int)) (F : Fr h₀ L s.heap m) (N : News h₀ L s.heap news) (h0 : J 0 m news)
    (turn : ∀ (i : Nat) t m₁ nx h tk I oI (Q' : Flow → Shared → Prop), i < n → J i m₁ nx → (∀ p ∈ nx, p.1 ≠ I) → Fr h₀ L h m₁ → News h₀ L h ((I, oI) :: nx) →
      (∀ h' tk' m' nx', Fr h₀ L h' m' → News h₀ L h' ((I, oI) :: nx') → (∀ p ∈ nx', p.1 ≠ I) → J (i + 1) m' nx' → Q' Flow.next { s with heap := h', toks := tk' }) →
      wpAny (model prog w) A (assign (.Name x px) env (.int (a₀ + (i : Int)) t)) (fun _ s₃ => wpAny (model prog w) A (execs body env) Q' E s₃) E { s with heap := h, toks := tk })
    (done : ∀ m₁ nx h tk, J n m₁ nx → Fr h₀ L h m₁ → News h₀ L h nx → Q .next { s with heap := h, toks := tk }) :
    wpAny (model prog w) A (pyIter (.ref r)) (fun it s₂ => TurnsAt prog w A h₀ env (.Name x px) body Q E it s₂) E s :=
  turns_range J hL hh hr hsmall hn F N h0 (fun i t m₁ nx h tk I oI hi hJ ne F1 N1 => turn i t m₁ nx h tk I oI (TurnZ h₀ L I oI (J (i + 1)) { s with heap := h, toks := tk }) hi hJ ne F1 N1 (fun h' tk' m' nx' F2 N2 ne2 hJ2 => TurnZ.mk h' tk' m' nx' F2 N2 ne2 hJ2)) done
end
end
-- KFun8
noncomputable section
open PySem PySem.W PyProof.Rows PySem.Calls PySem.Spec
set_option Elab.async false
set_option maxRecDepth 100000
set_option maxHeartbeats 8000000
set_option linter.unusedVariables false
noncomputable def heldOf2 (wv : List Int) (mine part : Int) (pre : List Int) : Int := pre.foldl (fun held ch => if Builtin.bitAnd ch mine = part then Builtin.bitAnd held (wv.getD ch.toNat 0) else held) 15
noncomputable def sureOf (wv : List Int) (mine : Int) (all pre : List Int) : List Int := (pre.filter fun p => Builtin.bitAnd p mine == p).map fun p => heldOf2 wv mine p all
theorem sure_yes {wv : List Int} {mine k v : Int} {all pre l : List Int} (h : l = sureOf wv mine all pre) (hb : l.length ≤ pre.length) (c : Builtin.bitAnd k mine = k) (e : v = heldOf2 wv mine k all) : l ++ [v] = sureOf wv mine all (pre ++ [k]) ∧ (l ++ [v]).length ≤ (pre ++ [k]).length := by
  refine ⟨?_, by simp only [List.length_append, List.length_cons, List.length_nil]; omega⟩
  unfold sureOf at *
  rw [List.filter_append, List.map_append, ← h, List.filter_cons, if_pos (by rw [beq_iff_eq]; exact c), e]
  rfl
theorem sure_no {wv : List Int} {mine k : Int} {all pre l : List Int} (h : l = sureOf wv mine all pre) (hb : l.length ≤ pre.length) (c : ¬ Builtin.bitAnd k mine = k) : l = sureOf wv mine all (pre ++ [k]) ∧ l.length ≤ (pre ++ [k]).length := by
  refine ⟨?_, by simp only [List.length_append, List.length_cons, List.length_nil]; omega⟩
  unfold sureOf at *
  rw [List.filter_append, List.map_append, ← h, List.filter_cons, if_neg (by rw [beq_iff_eq]; exact c)]
  simp
theorem held_yes {wv : List Int} {mine part k v : Int} {pre : List Int} (h : v = heldOf2 wv mine part pre) (c : Builtin.bitAnd k mine = part) : Builtin.bitAnd v (wv.getD k.toNat 0) = heldOf2 wv mine part (pre ++ [k]) := by
  unfold heldOf2 at *
  rw [List.foldl_append, ← h]
  simp only [List.foldl_cons, List.foldl_nil, c, if_true]
theorem held_no {wv : List Int} {mine part k v : Int} {pre : List Int} (h : v = heldOf2 wv mine part pre) (c : ¬ Builtin.bitAnd k mine = part) : v = heldOf2 wv mine part (pre ++ [k]) := by
  unfold heldOf2 at *
  rw [List.foldl_append, ← h]
  simp only [List.foldl_cons, List.foldl_nil, c, if_false]
theorem held_nil {wv : List Int} {mine part : Int} : (15 : Int) = heldOf2 wv mine part [] := rfl
theorem sure_nil {wv : List Int} {mine : Int} {all : List Int} : [] = sureOf wv mine all [] ∧ ([] : List Int).length ≤ ([] : List Int).length := ⟨rfl, Nat.le_refl _⟩
noncomputable abbrev R16 : List Int := rangeKs 0 (16 - 0 : Int).toNat
section
local macro_rules | `(tactic| kst_p) => `(tactic| (dsimp only; (with_reducible (first | exact held_nil | exact sure_nil | exact held_yes (by assumption) (by assumption) | exact held_no (by assumption) (by assumption) | exact sure_yes (by assumption) (by assumption) (Kept.out (by assumption)) (Kept.out (by assumption)) | exact sure_no (by assumption) (by assumption) (by assumption)))))
theorem f_sure (w : World) (mean : ExcName → Option Value) (mg mb : PySem.Str → Option Value) (mine : Int) (wv : List Int) (wvs : List Value) (t : Tok) (wa : Addr) (hm : 0 ≤ mine ∧ mine < 16) (hl : wv.length = 16) (hiw : IntsAre wvs wv) :
   CVN w mean mg mb 190 [.ref wa, .int mine t] 1 220 (fun h => h.IsList wa wvs.toArray) (fun o => ∃ vs n, o = W.listOf vs.toArray n ∧ IntsAre vs (sureOf wv mine R16 R16)) := by
  have hfill : (PySem.Challenge.rw_yh0002_01 = PySem.Challenge.rw_yh0002_01) ∧ KF = KF := by k_fill; exact ⟨rfl, rfl⟩
  clear hfill
  intro dp un gd cn cs a ccd cl outer A₀ base h₀ L m news s Q E B F X N T hk hyp hd hu hret
  obtain ⟨g, gens, drawn, toks, os⟩ := s
  dsimp only at F N hyp hret ⊢
  refine wpAny_call ?_
  k_dflt (first | (refine' code_defV ?zk19 ?zk29 ?zk39 ?zk59 ?zkA9 ?zkF9 ?zkK9 ?zk69 ?zk79 ?zk89 ?zk99 ?zkB9 ?_ ?zc29 ?zc39 ?zc49 ?zc59; (case zkA9 => exact rfl); (case zkF9 => exact rfl); (case zkK9 => first | exact rfl | assumption); (case zk19 => k_asm); (case zk29 => k_asm); (case zk39 => k_asm); (case zk59 => k_asm); (case zk69 => k_is); (case zk79 => k_is); (case zk89 => ktr_room); (case zk99 => exact BindsTo.of_eq rfl); (case zc59 => decide); (case zkB9 => exact locs rfl); (case zc29 => exact rfl); (case zc39 => exact rfl); (case zc49 => exact rfl); k_whole; intro L' h' FG' F' N' B' X' T'; (try dsimp only); (try k_lift B'); (try k_fold)) | (refine' code_defCV ?zk19 ?zk29 ?zk39 ?zk59 ?zkA9 ?zkF9 ?zkK9 ?zk69 ?zk79 ?zk89 ?zk99 ?zkB9 ?zkD9 ?_ ?zc29 ?zc39 ?zc49; (case zkA9 => exact rfl); (case zkF9 => exact rfl); (case zkK9 => first | exact rfl | assumption); (case zk19 => k_asm); (case zk29 => k_asm); (case zk39 => k_asm); (case zk59 => k_asm); (case zk69 => k_is); (case zk79 => k_is); (case zk89 => ktr_room); (case zk99 => exact BindsTo.of_eq rfl); (case zkB9 => exact rfl); (case zkD9 => decide +kernel); (case zc29 => exact rfl); (case zc39 => exact rfl); (case zc49 => exact rfl); k_whole; intro L' h' tk' cells' FG' F' N' Y' B' X' T'; k_cells Y'; (try simp only [List.cons_append, List.nil_append] at N'); (try dsimp only); (try k_lift B'); (try k_fold)))
  (repeat' (first | (k_unfold; (try dsimp only)) | (k_end; wrow_close) | (with_reducible ((with_reducible show wpAny _ _ (pyIter (Value.ref _)) _ _ _); refine Hold.out ?_)) | walk1 | (dsimp only; walk1) | (leave1; walk_say "STEP leave1"; try dsimp only) | fail "no step"))
  refine Hold.mk ?_
  k_state (fun pre sure => sure = sureOf wv mine R16 pre ∧ sure.length ≤ pre.length) "sure"
  (repeat' (first | (k_unfold; (try dsimp only)) | (k_end; wrow_close) | (with_reducible ((with_reducible show wpAny _ _ (pyIter (Value.ref _)) _ _ _); refine Hold.out ?_)) | walk1 | (dsimp only; walk1) | (leave1; walk_say "STEP leave1"; try dsimp only) | fail "no step"))
  rotate_right
  rotate_left
  · refine Hold.mk ?_
    rename Builtin.bitAnd _ _ = _ => hc9
    replace hc9 := Kept.mk hc9
    k_state_given ["part"] (fun part pre held => held = heldOf2 wv mine part pre) "held"
    · (repeat' (first | (k_unfold; (try dsimp only)) | (k_end; wrow_close) | (with_reducible ((with_reducible show wpAny _ _ (pyIter (Value.ref _)) _ _ _); refine Hold.out ?_)) | walk1 | (dsimp only; walk1) | (leave1; walk_say "STEP leave1"; try dsimp only) | fail "no step"))
    · replace kInv := Kept.mk kInv
      (repeat' (first | (k_unfold; (try dsimp only)) | (k_end; wrow_close) | (with_reducible ((with_reducible show wpAny _ _ (pyIter (Value.ref _)) _ _ _); refine Hold.out ?_)) | walk1 | (dsimp only; walk1) | (leave1; walk_say "STEP leave1"; try dsimp only) | fail "no step"))
  all_goals (try k_data)
  all_goals (refine hret _ _ _ _ (frKeep F (Fr.keep (by assumption))) (newsAdd F N (Fr.keep (by assumption)) (by assumption) (by k_mem)).1 (newsAdd F N (Fr.keep (by assumption)) (by assumption) (by k_mem)).2 (Fr.keep (by assumption)) ?_)
  all_goals exact ⟨_, _, rfl, by subst_vars; assumption⟩
end
end
-- KPlain4
noncomputable section
open PySem PySem.W PyProof.Rows PySem.Calls PySem.Spec
set_option Elab.async false
set_option maxRecDepth 100000
set_option maxHeartbeats 8000000
set_option linter.unusedVariables false
noncomputable def mskB (a b c d : Bool) : Int := (if a then 1 else 0) + (if b then 2 else 0) + (if c then 4 else 0) + (if d then 8 else 0)
noncomputable def msk (q : Int → Bool) : Int := mskB (q 0) (q 1) (q 2) (q 3)
theorem mskB_b : ∀ a b c d : Bool, 0 ≤ mskB a b c d ∧ mskB a b c d < 16 := by decide +kernel
theorem mskB_not : ∀ a b c d : Bool, 15 - mskB a b c d = mskB (!a) (!b) (!c) (!d) := by decide +kernel
theorem mskB_and : ∀ a b c d a' b' c' d' : Bool, (a = true → a' = true) → (b = true → b' = true) → (c = true → c' = true) → (d = true → d' = true) → Builtin.bitAnd (mskB a b c d) (mskB a' b' c' d') = mskB a b c d := by decide +kernel
theorem bitI_not : ∀ o : Fin 16, ∀ p : Fin 4, bitI (15 - f16 o) (p.val : Int) ≠ 0 ↔ ¬ bitI (f16 o) (p.val : Int) ≠ 0 := by decide +kernel
theorem comb : ∀ o p1 p2 : Fin 16, Builtin.bitAnd (f16 p1) (f16 o) = f16 p1 → Builtin.bitAnd (f16 p2) (15 - f16 o) = f16 p2 → 0 ≤ f16 p1 + f16 p2 ∧ f16 p1 + f16 p2 < 16 ∧ Builtin.bitAnd (f16 p1 + f16 p2) (f16 o) = f16 p1 ∧ Builtin.bitAnd (f16 p1 + f16 p2) (15 - f16 o) = f16 p2 := by decide +kernel
theorem and_assoc16 : ∀ d a b : Fin 16, Builtin.bitAnd (f16 d) (f16 a) = f16 d → Builtin.bitAnd (f16 d) (f16 b) = f16 d → Builtin.bitAnd (f16 d) (Builtin.bitAnd (f16 a) (f16 b)) = f16 d := by decide +kernel
theorem and_b16 : ∀ a b : Fin 16, 0 ≤ Builtin.bitAnd (f16 a) (f16 b) ∧ Builtin.bitAnd (f16 a) (f16 b) < 16 := by decide +kernel
theorem and_keep16 : ∀ d a b : Fin 16, Builtin.bitAnd (f16 a) (f16 d) = f16 a → Builtin.bitAnd (Builtin.bitAnd (f16 a) (f16 b)) (f16 d) = Builtin.bitAnd (f16 a) (f16 b) := by decide +kernel
theorem and_in16 : ∀ a b : Fin 16, Builtin.bitAnd (Builtin.bitAnd (f16 a) (f16 b)) (f16 b) = Builtin.bitAnd (f16 a) (f16 b) := by decide +kernel
theorem and_anti16 : ∀ a b : Fin 16, Builtin.bitAnd (f16 a) (f16 b) = f16 a → Builtin.bitAnd (f16 b) (f16 a) = f16 b → f16 a = f16 b := by decide +kernel
theorem and_full16 : ∀ a : Fin 16, Builtin.bitAnd (f16 a) 15 = f16 a := by decide +kernel
theorem mem16 {x : Int} (h : 0 ≤ x ∧ x < 16) : x ∈ R16 := by
  obtain ⟨i, rfl⟩ := to16 h
  revert i
  decide +kernel
theorem in16 : ∀ x ∈ R16, 0 ≤ x ∧ x < 16 := by decide +kernel
theorem held_b {wv : List Int} {mine part : Int} (hw : ∀ ch ∈ R16, 0 ≤ wv.getD ch.toNat 0 ∧ wv.getD ch.toNat 0 < 16) : ∀ (l : List Int) (a : Int), (∀ x ∈ l, x ∈ R16) → (0 ≤ a ∧ a < 16) →
    0 ≤ l.foldl (fun held ch => if Builtin.bitAnd ch mine = part then Builtin.bitAnd held (wv.getD ch.toNat 0) else held) a ∧ l.foldl (fun held ch => if Builtin.bitAnd ch mine = part then Builtin.bitAnd held (wv.getD ch.toNat 0) else held) a < 16
  | [], a, _, h => h
  | x :: l, a, hl, h => by
    simp only [List.foldl_cons]
    refine held_b hw l _ (fun y hy => hl y (List.mem_cons_of_mem _ hy)) ?_
    split
    · obtain ⟨i, e⟩ := to16 h
      obtain ⟨j, e2⟩ := to16 (hw x (hl x (List.mem_cons_self ..)))
      rw [e, e2]; exact and_b16 i j
    · exact h
theorem held_up {wv : List Int} {mine part : Int} {d : Int} (hd : 0 ≤ d ∧ d < 16) (hw : ∀ ch ∈ R16, 0 ≤ wv.getD ch.toNat 0 ∧ wv.getD ch.toNat 0 < 16) (h1 : ∀ ch ∈ R16, Builtin.bitAnd ch mine = part → Builtin.bitAnd d (wv.getD ch.toNat 0) = d) : ∀ (l : List Int) (a : Int), (∀ x ∈ l, x ∈ R16) → (0 ≤ a ∧ a < 16) → Builtin.bitAnd d a = d →
    Builtin.bitAnd d (l.foldl (fun held ch => if Builtin.bitAnd ch mine = part then Builtin.bitAnd held (wv.getD ch.toNat 0) else held) a) = d
  | [], a, _, _, h => h
  | x :: l, a, hl, ha, h => by
    simp only [List.foldl_cons]
    have hx := hl x (List.mem_cons_self ..)
    obtain ⟨i, e⟩ := to16 ha
    obtain ⟨j, e2⟩ := to16 (hw x hx)
    obtain ⟨k, e3⟩ := to16 hd
    refine held_up hd hw h1 l _ (fun y hy => hl y (List.mem_cons_of_mem _ hy)) ?_ ?_
    · split
      · rw [e, e2]; exact and_b16 i j
      · exact ha
    · split
      · rename_i hr
        have h2 := h1 x hx hr
        rw [e, e3] at h; rw [e2, e3] at h2; rw [e, e2, e3]
        exact and_assoc16 k i j h h2
      · exact h
theorem held_down {wv : List Int} {mine part : Int} {d : Int} (hd : 0 ≤ d ∧ d < 16) (hw : ∀ ch ∈ R16, 0 ≤ wv.getD ch.toNat 0 ∧ wv.getD ch.toNat 0 < 16) : ∀ (l : List Int) (a : Int), (∀ x ∈ l, x ∈ R16) → (0 ≤ a ∧ a < 16) → (Builtin.bitAnd a d = a ∨ ∃ ch ∈ l, Builtin.bitAnd ch mine = part ∧ wv.getD ch.toNat 0 = d) →
    Builtin.bitAnd (l.foldl (fun held ch => if Builtin.bitAnd ch mine = part then Builtin.bitAnd held (wv.getD ch.toNat 0) else held) a) d = l.foldl (fun held ch => if Builtin.bitAnd ch mine = part then Builtin.bitAnd held (wv.getD ch.toNat 0) else held) a
  | [], a, _, _, h => by
    rcases h with h | ⟨ch, h, _⟩
    · exact h
    · cases h
  | x :: l, a, hl, ha, h => by
    simp only [List.foldl_cons]
    have hx := hl x (List.mem_cons_self ..)
    obtain ⟨i, e⟩ := to16 ha
    obtain ⟨j, e2⟩ := to16 (hw x hx)
    obtain ⟨k, e3⟩ := to16 hd
    refine held_down hd hw l _ (fun y hy => hl y (List.mem_cons_of_mem _ hy)) ?_ ?_
    · split
      · rw [e, e2]; exact and_b16 i j
      · exact ha
    · rcases h with h | ⟨ch, hc, hr, hv⟩
      · left
        split
        · rw [e, e3] at h; rw [e, e2, e3]; exact and_keep16 k i j h
        · exact h
      · rcases List.mem_cons.mp hc with rfl | hc
        · left
          rw [if_pos hr, hv, e, e3]; exact and_in16 i k
        · exact .inr ⟨ch, hc, hr, hv⟩
theorem held_is {wv : List Int} {mine part d : Int} (hd : 0 ≤ d ∧ d < 16) (hw : ∀ ch ∈ R16, 0 ≤ wv.getD ch.toNat 0 ∧ wv.getD ch.toNat 0 < 16) (h1 : ∀ ch ∈ R16, Builtin.bitAnd ch mine = part → Builtin.bitAnd d (wv.getD ch.toNat 0) = d)
    (h2 : ∃ ch ∈ R16, Builtin.bitAnd ch mine = part ∧ wv.getD ch.toNat 0 = d) : heldOf2 wv mine part R16 = d := by
  have hb := held_b (mine := mine) (part := part) hw R16 15 (fun _ h => h) (by decide)
  have u := held_up (mine := mine) (part := part) hd hw h1 R16 15 (fun _ h => h) (by decide) (by obtain ⟨k, e3⟩ := to16 hd; rw [e3]; exact and_full16 k)
  have v := held_down (mine := mine) (part := part) hd hw R16 15 (fun _ h => h) (by decide) (.inr h2)
  unfold heldOf2
  obtain ⟨k, e3⟩ := to16 hd
  obtain ⟨i, e⟩ := to16 hb
  rw [e] at u v ⊢
  rw [e3] at u v ⊢
  exact and_anti16 i k v u
theorem sure_mem {wv : List Int} {mine part d : Int} (hp : 0 ≤ part ∧ part < 16) (hm : Builtin.bitAnd part mine = part) (h : heldOf2 wv mine part R16 = d) : d ∈ sureOf wv mine R16 R16 := by
  unfold sureOf
  exact List.mem_map.mpr ⟨part, List.mem_filter.mpr ⟨mem16 hp, by rw [beq_iff_eq]; exact hm⟩, h⟩
theorem msk_congr {q q' : Int → Bool} (h : ∀ p, 0 ≤ p ∧ p < 4 → q p = q' p) : msk q = msk q' := by
  unfold msk
  rw [h 0 (by decide), h 1 (by decide), h 2 (by decide), h 3 (by decide)]
theorem msk_and {q q' : Int → Bool} (h : ∀ p, 0 ≤ p ∧ p < 4 → q p = true → q' p = true) : Builtin.bitAnd (msk q) (msk q') = msk q :=
  mskB_and _ _ _ _ _ _ _ _ (h 0 (by decide)) (h 1 (by decide)) (h 2 (by decide)) (h 3 (by decide))
theorem msk_not (q : Int → Bool) : 15 - msk q = msk fun p => !q p := mskB_not _ _ _ _
theorem msk_b (q : Int → Bool) : 0 ≤ msk q ∧ msk q < 16 := mskB_b _ _ _ _
noncomputable def herV (rd rv tb : List Int) (ch p : Int) : Bool := decide ((tb.getD (topW rd rv ch p).toNat 0).fmod 2 = 0)
noncomputable def wonV (rd rv tb : List Int) : List Int := R16.map fun ch => msk (herV rd rv tb ch)
noncomputable def dueV (rd wt : List Int) (o : Int) : Int := msk (firstV rd wt o 4 [])
theorem getD_R16 {f : Int → Int} {ch : Int} (h : ch ∈ R16) : (R16.map f).getD ch.toNat 0 = f ch := by
  have key : ∀ c ∈ R16, R16[c.toNat]? = some c := by decide +kernel
  rw [List.getD_eq_getElem?_getD, List.getElem?_map, key ch h]; rfl
theorem plain {rd rv wt tb : List Int} {o : Int} (hl : rd.length = 8) (hb : ∀ v ∈ rd, 0 ≤ v ∧ v < 4) (ho : 0 ≤ o ∧ o < 16) (h0 : ∀ v ∈ wt, 0 ≤ v) (hw : ∀ a b : Nat, a < 8 → b < 8 → rv.getD a 0 ≤ rv.getD b 0 → wt.getD a 0 ≤ wt.getD b 0)
    (ht : ∀ a : Nat, a < 8 → ((tb.getD a 0).fmod 2 = 0 ↔ (wt.getD a 0).fmod 2 = 1)) :
    dueV rd wt o ∈ sureOf (wonV rd rv tb) o R16 R16 ∧ 15 - dueV rd wt o ∈ sureOf ((wonV rd rv tb).map fun v => 15 - v) (15 - o) R16 R16 := by
  have h0' : ∀ n : Nat, 0 ≤ wt.getD n 0 := fun n => by
    rw [List.getD_eq_getElem?_getD]
    cases e : wt[n]? with
    | none => exact Int.le_refl _
    | some x => exact h0 x (List.mem_of_getElem? e)
  obtain ⟨M, M0, M1, M2⟩ := wgt_low wt
  have ho' : 0 ≤ 15 - o ∧ 15 - o < 16 := by omega
  obtain ⟨p1, a1, a2, a3⟩ := posit (mine := fun p => decide (bitI o p ≠ 0)) hl hb ho (fun p _ => rfl) M1 M0
  obtain ⟨p2, b1, b2, b3⟩ := posit (o := 15 - o) (mine := fun p => !decide (bitI o p ≠ 0)) hl hb ho' (fun p hp => by
    obtain ⟨i, rfl⟩ := to16 ho
    have := bitI_not i ⟨p.toNat, by omega⟩
    have e : (((⟨p.toNat, by omega⟩ : Fin 4).val : Nat) : Int) = p := by show ((p.toNat : Nat) : Int) = p; omega
    rw [e] at this
    rw [← decide_not, decide_eq_decide]; exact this.symm) M2 M0
  have hD : ∀ p, 0 ≤ p ∧ p < 4 → Diff [] p := fun p hp => ⟨fun v hv => (List.not_mem_nil hv).elim, hp, by simp⟩
  have her1 : ∀ ch, 0 ≤ ch ∧ ch < 16 → Builtin.bitAnd ch o = p1 → ∀ p, 0 ≤ p ∧ p < 4 → firstV rd wt o 4 [] p = true → herV rd rv tb ch p = true := by
    intro ch hch hc p hp hf
    rw [(first_her h0 hl hb 4 [] p rfl (hD p hp)).1] at hf
    exact decide_eq_true ((ht _ (by have := topW_in (rv := rv) (c := ch) hl hb hp; omega)).mpr (top_odd hl hb hp h0' hw (a3 ch hch hc p hp hf)))
  have his1 : ∀ ch, 0 ≤ ch ∧ ch < 16 → Builtin.bitAnd ch (15 - o) = p2 → ∀ p, 0 ≤ p ∧ p < 4 → firstV rd wt o 4 [] p = false → herV rd rv tb ch p = false := by
    intro ch hch hc p hp hf
    have hf' : (!firstV rd wt o 4 [] p) = true := by rw [hf]; rfl
    rw [(first_her h0 hl hb 4 [] p rfl (hD p hp)).2] at hf'
    exact decide_eq_false fun h => top_even hl hb hp h0' hw (b3 ch hch hc p hp hf') ((ht _ (by have := topW_in (rv := rv) (c := ch) hl hb hp; omega)).mp h)
  obtain ⟨c, hc, hc1, hc2⟩ : ∃ c, (0 ≤ c ∧ c < 16) ∧ Builtin.bitAnd c o = p1 ∧ Builtin.bitAnd c (15 - o) = p2 := by
    obtain ⟨i, rfl⟩ := to16 ho
    obtain ⟨j, rfl⟩ := to16 a1
    obtain ⟨k, rfl⟩ := to16 b1
    have := comb i j k a2 b2
    exact ⟨_, ⟨this.1, this.2.1⟩, this.2.2⟩
  have hex : ∀ p, 0 ≤ p ∧ p < 4 → herV rd rv tb c p = firstV rd wt o 4 [] p := by
    intro p hp
    cases hf : firstV rd wt o 4 [] p with
    | true => exact her1 c hc hc1 p hp hf
    | false => exact his1 c hc hc2 p hp hf
  have eW : ∀ ch ∈ R16, (wonV rd rv tb).getD ch.toNat 0 = msk (herV rd rv tb ch) := fun ch h => getD_R16 h
  have eW2 : ∀ ch ∈ R16, ((wonV rd rv tb).map fun v => 15 - v).getD ch.toNat 0 = msk (fun p => !herV rd rv tb ch p) := fun ch h => by
    unfold wonV
    rw [List.map_map]
    exact (getD_R16 h).trans (msk_not _)
  refine ⟨sure_mem a1 a2 (held_is (msk_b _) (fun ch h => by rw [eW ch h]; exact msk_b _) (fun ch h hr => ?_) ⟨c, mem16 hc, hc1, ?_⟩), sure_mem b1 b2 (held_is ?_ (fun ch h => by rw [eW2 ch h]; exact msk_b _) (fun ch h hr => ?_) ⟨c, mem16 hc, hc2, ?_⟩)⟩
  · rw [eW ch h]; exact msk_and (her1 ch (in16 ch h) hr)
  · rw [eW c (mem16 hc)]; exact msk_congr hex
  · have := msk_b (firstV rd wt o 4 []); show 0 ≤ 15 - msk _ ∧ 15 - msk _ < 16; omega
  · rw [eW2 ch h]; show Builtin.bitAnd (15 - msk _) _ = 15 - msk _; rw [msk_not]
    refine msk_and fun p hp hf => ?_
    rw [his1 ch (in16 ch h) hr p hp (by simpa using hf)]; rfl
  · rw [eW2 c (mem16 hc)]; show _ = 15 - msk _; rw [msk_not]; exact msk_congr fun p hp => by rw [hex p hp]
end
-- KFun7
noncomputable section
open PySem PySem.W PyProof.Rows PySem.Calls PySem.Spec
set_option Elab.async false
set_option maxRecDepth 100000
set_option maxHeartbeats 8000000
set_option linter.unusedVariables false
section
local macro_rules | `(tactic| kst_p) => `(tactic| (refine TopInv.pack ?_; first
  | exact TopInv.start (by with_reducible assumption) (by with_reducible assumption) (by with_reducible assumption) (by assumption) (by assumption) (by assumption) (by assumption) (by assumption)
  | exact TopInv.stepY (by with_reducible assumption) (by with_reducible assumption) (by with_reducible assumption) (by assumption) (by omega) (by omega)
  | exact TopInv.stepN (by with_reducible assumption) (by with_reducible assumption) (by with_reducible assumption) (by assumption) (by omega) (by omega)))
local macro_rules | `(tactic| ksw_less) => `(tactic| exact TopInv.lessE (by with_reducible assumption) (by assumption) (by omega))
theorem f_top (w : World) (mean : ExcName → Option Value) (mg mb : PySem.Str → Option Value) (place choice : Int) (lv rv : List Int) (lvs rvs : List Value) (t u : Tok) (la ra : Addr) (hp : 0 ≤ place ∧ place < 4) (hc : 0 ≤ choice ∧ choice < 16) (hl : lv.length = 8) (hr : rv.length = 8) (hlv : ∀ v ∈ lv, 0 ≤ v ∧ v < 4) (hil : IntsAre lvs lv) (hir : IntsAre rvs rv) :
   CV w mean mg mb 178 [.int place t, .int choice u, .ref la, .ref ra] 1 220 (fun h => h.IsList la lvs.toArray ∧ h.IsList ra rvs.toArray) (fun v _ => ∃ tk, v = .int (topW lv rv choice place) tk) := by
  have hfill : (PySem.Challenge.rw_yh0002_01 = PySem.Challenge.rw_yh0002_01) ∧ KF = KF := by k_fill; exact ⟨rfl, rfl⟩
  clear hfill
  intro dp un gd cn cs a ccd cl outer A₀ base h₀ L m news s Q E B F X N T hk hyp hd hu hret
  obtain ⟨g, gens, drawn, toks, os⟩ := s
  dsimp only at F N hyp hret ⊢
  obtain ⟨hla, hra⟩ := hyp
  refine wpAny_call ?_
  k_dflt (first | (refine' code_defV ?zk19 ?zk29 ?zk39 ?zk59 ?zkA9 ?zkF9 ?zkK9 ?zk69 ?zk79 ?zk89 ?zk99 ?zkB9 ?_ ?zc29 ?zc39 ?zc49 ?zc59; (case zkA9 => exact rfl); (case zkF9 => exact rfl); (case zkK9 => first | exact rfl | assumption); (case zk19 => k_asm); (case zk29 => k_asm); (case zk39 => k_asm); (case zk59 => k_asm); (case zk69 => k_is); (case zk79 => k_is); (case zk89 => ktr_room); (case zk99 => exact BindsTo.of_eq rfl); (case zc59 => decide); (case zkB9 => exact locs rfl); (case zc29 => exact rfl); (case zc39 => exact rfl); (case zc49 => exact rfl); k_whole; intro L' h' FG' F' N' B' X' T'; (try dsimp only); (try k_lift B'); (try k_fold)) | (refine' code_defCV ?zk19 ?zk29 ?zk39 ?zk59 ?zkA9 ?zkF9 ?zkK9 ?zk69 ?zk79 ?zk89 ?zk99 ?zkB9 ?zkD9 ?_ ?zc29 ?zc39 ?zc49; (case zkA9 => exact rfl); (case zkF9 => exact rfl); (case zkK9 => first | exact rfl | assumption); (case zk19 => k_asm); (case zk29 => k_asm); (case zk39 => k_asm); (case zk59 => k_asm); (case zk69 => k_is); (case zk79 => k_is); (case zk89 => ktr_room); (case zk99 => exact BindsTo.of_eq rfl); (case zkB9 => exact rfl); (case zkD9 => decide +kernel); (case zc29 => exact rfl); (case zc39 => exact rfl); (case zc49 => exact rfl); k_whole; intro L' h' tk' cells' FG' F' N' Y' B' X' T'; k_cells Y'; (try simp only [List.cons_append, List.nil_append] at N'); (try dsimp only); (try k_lift B'); (try k_fold)))
  (repeat' (first | (k_unfold; (try dsimp only)) | (k_end; wrow_close) | (with_reducible ((with_reducible show wpAny _ _ (exec (Stmt.While _ _ _ _) _) _ _ _); refine Hold.out ?_)) | (with_reducible ((with_reducible show wpAny _ _ (subscriptTail _ _ _ _) _ _ _); (with_reducible show wpAny _ _ (subscriptTail _ _ (Value.ref _) (Value.int (2 * _ + Builtin.bitAnd (Int.fdiv _ (2 ^ (Int.toNat _))) 1) _)) _ _ _); k_dflt (refine' item_led ?zk19 ?zk29 ?zk39 ?zk49 ?zk59 ?_; (case zk19 => is_list); (case zk29 => l_ints); (case zk39 => with_reducible assumption); (case zk49 => with_reducible assumption); (case zk59 => first | with_reducible assumption | exact ⟨by omega, by omega⟩)); intro p' t' e' b')) | (with_reducible ((with_reducible show wpAny _ _ (subscriptTail _ _ _ _) _ _ _); (with_reducible show wpAny _ _ (subscriptTail _ _ (Value.ref _) (Value.int _ _)) _ _ _); k_dflt (refine' item_rank ?zk19 ?zk29 ?zk39 ?zk49 ?_; (case zk19 => is_list); (case zk29 => l_ints); (case zk39 => with_reducible assumption); (case zk49 => first | exact rd8 (by with_reducible assumption) | exact rd8 ⟨by omega, by omega⟩ | exact ⟨by omega, by omega⟩)); intro _)) | walk1 | (dsimp only; walk1) | (leave1; walk_say "STEP leave1"; try dsimp only) | fail "no step"))
  refine Hold.mk ?_
  k_while_given ["place"] (fun pl script top o => (0 ≤ top ∧ top < 8) ∧ (0 ≤ o ∧ o < 4) ∧ TopInv lv rv choice pl (topW lv rv choice place) top o) (fun pl script top o => dist lv choice pl 4 o) "top" "other"
  (repeat' (first | (k_unfold; (try dsimp only)) | (k_end; wrow_close) | (with_reducible ((with_reducible show wpAny _ _ (exec (Stmt.While _ _ _ _) _) _ _ _); refine Hold.out ?_)) | (with_reducible ((with_reducible show wpAny _ _ (subscriptTail _ _ _ _) _ _ _); (with_reducible show wpAny _ _ (subscriptTail _ _ (Value.ref _) (Value.int (2 * _ + Builtin.bitAnd (Int.fdiv _ (2 ^ (Int.toNat _))) 1) _)) _ _ _); k_dflt (refine' item_led ?zk19 ?zk29 ?zk39 ?zk49 ?zk59 ?_; (case zk19 => is_list); (case zk29 => l_ints); (case zk39 => with_reducible assumption); (case zk49 => with_reducible assumption); (case zk59 => first | with_reducible assumption | exact ⟨by omega, by omega⟩)); intro p' t' e' b')) | (with_reducible ((with_reducible show wpAny _ _ (subscriptTail _ _ _ _) _ _ _); (with_reducible show wpAny _ _ (subscriptTail _ _ (Value.ref _) (Value.int _ _)) _ _ _); k_dflt (refine' item_rank ?zk19 ?zk29 ?zk39 ?zk49 ?_; (case zk19 => is_list); (case zk29 => l_ints); (case zk39 => with_reducible assumption); (case zk49 => first | exact rd8 (by with_reducible assumption) | exact rd8 ⟨by omega, by omega⟩ | exact ⟨by omega, by omega⟩)); intro _)) | walk1 | (dsimp only; walk1) | (leave1; walk_say "STEP leave1"; try dsimp only) | fail "no step"))
  all_goals (try k_data)
  all_goals (refine hret _ _ _ (frKeep F (Fr.keep (by assumption))) (newsKeep N (Fr.keep (by assumption))) (Fr.keep (by assumption)) ?_)
  all_goals exact ⟨_, congrArg (fun x => Value.int x _) (TopInv.done (by with_reducible assumption) (by omega))⟩
end
end
-- KFun4
noncomputable section
open PySem PySem.W PyProof.Rows PySem.Calls PySem.Spec
set_option Elab.async false
set_option maxRecDepth 100000
set_option maxHeartbeats 8000000
set_option linter.unusedVariables false
noncomputable abbrev fL (x : PySem.Str) : Int := Txt.find x (PySem.Str.ofString "(")
noncomputable abbrev fR (x : PySem.Str) : Int := Txt.find3 x (PySem.Str.ofString ")") (Txt.find x (PySem.Str.ofString "(") + 1)
theorem fits_small {i : Int} (h0 : -100000 ≤ i) (h1 : i ≤ 100000) : fitsSsize i = true := by
  unfold fitsSsize
  rw [decide_eq_false (by omega), decide_eq_false (by omega)]; rfl
theorem len_ne {y : PySem.Str} (h : 1 ≤ y.length ∧ y.length ≤ 1) : (y.length == 0) = false := by
  rw [beq_eq_false_iff_ne]; omega
theorem mapCons {l : List (PySem.Str × Tok)} {a : PySem.Str} {r : List PySem.Str} {G : Prop} (h : l.map (·.1) = a :: r) (k : ∀ t q, l = (a, t) :: q → q.map (·.1) = r → G) : G := by
  cases l with
  | nil => cases h
  | cons p q =>
    obtain ⟨b, t⟩ := p
    rw [List.map_cons] at h
    obtain ⟨h1, h2⟩ := List.cons.inj h
    subst h1
    exact k t q rfl h2
theorem mapNil {l : List (PySem.Str × Tok)} (h : l.map (·.1) = []) : l = [] := List.map_eq_nil_iff.mp h
theorem five {l : List (PySem.Str × Tok)} {a0 a1 a2 a3 a4 : PySem.Str} (h : l.map (·.1) = [a0, a1, a2, a3, a4]) : ∃ t0 t1 t2 t3 t4, l = [(a0, t0), (a1, t1), (a2, t2), (a3, t3), (a4, t4)] :=
  mapCons h fun t0 q0 e0 h0 => mapCons h0 fun t1 q1 e1 h1 => mapCons h1 fun t2 q2 e2 h2 => mapCons h2 fun t3 q3 e3 h3 => mapCons h3 fun t4 q4 e4 h4 => ⟨t0, t1, t2, t3, t4, (e0.trans (congrArg ((a0, t0) :: ·) (e1.trans (congrArg ((a1, t1) :: ·) (e2.trans (congrArg ((a2, t2) :: ·) (e3.trans (congrArg ((a3, t3) :: ·) (e4.trans (congrArg ((a4, t4) :: ·) (mapNil h4)))))))))))⟩
section
theorem f_parse (w : World) (mean : ExcName → Option Value) (mg mb : PySem.Str → Option Value) (x y : PySem.Str) (t u : Tok) (n : Int) (v2 : Value) (a0 a1 a2 a3 a4 : PySem.Str) (pa : Addr) (hx : x.length ≤ 1000)
   (hA : (Txt.slice x none (some 3) != PySem.Str.ofString "229") = false) (hL : fL x = 8) (hR : 9 < fR x) (hR2 : fR x < x.length)
   (hq : (Txt.item x (fL x + 1) != Txt.item x (fR x - 1)) = false) (hS : Txt.split (Txt.slice x (some (fL x + 1)) (some (fR x))) (Txt.item x (fL x + 1)) = [a0, a1, a2, a3, a4])
   (hn : PySem.intText? a3 = some n) (hn2 : a3.length ≤ 640) :
   CVN w mean mg mb 131 [.str x t, .ref pa] 1 120 (fun h => IsTup h pa #[.str y u, v2]) (fun o => ∃ tk, o = { cls := .type "tuple", data := .seq #[.str y u, .int n tk] 0 }) := by
  have hfill : (PySem.Challenge.rw_yh0002_01 = PySem.Challenge.rw_yh0002_01) ∧ KF = KF := by k_fill; exact ⟨rfl, rfl⟩
  clear hfill
  intro dp un gd cn cs a ccd cl outer A₀ base h₀ L m news s Q E B F X N T hk hyp hd hu hret
  obtain ⟨g, gens, drawn, toks, os⟩ := s
  dsimp only at F N hyp hret ⊢
  refine wpAny_call ?_
  k_dflt (first | (refine' code_defV ?zk19 ?zk29 ?zk39 ?zk59 ?zkA9 ?zkF9 ?zkK9 ?zk69 ?zk79 ?zk89 ?zk99 ?zkB9 ?_ ?zc29 ?zc39 ?zc49 ?zc59; (case zkA9 => exact rfl); (case zkF9 => exact rfl); (case zkK9 => first | exact rfl | assumption); (case zk19 => k_asm); (case zk29 => k_asm); (case zk39 => k_asm); (case zk59 => k_asm); (case zk69 => k_is); (case zk79 => k_is); (case zk89 => ktr_room); (case zk99 => exact BindsTo.of_eq rfl); (case zc59 => decide); (case zkB9 => exact locs rfl); (case zc29 => exact rfl); (case zc39 => exact rfl); (case zc49 => exact rfl); k_whole; intro L' h' FG' F' N' B' X' T'; (try dsimp only); (try k_lift B'); (try k_fold)) | (refine' code_defCV ?zk19 ?zk29 ?zk39 ?zk59 ?zkA9 ?zkF9 ?zkK9 ?zk69 ?zk79 ?zk89 ?zk99 ?zkB9 ?zkD9 ?_ ?zc29 ?zc39 ?zc49; (case zkA9 => exact rfl); (case zkF9 => exact rfl); (case zkK9 => first | exact rfl | assumption); (case zk19 => k_asm); (case zk29 => k_asm); (case zk39 => k_asm); (case zk59 => k_asm); (case zk69 => k_is); (case zk79 => k_is); (case zk89 => ktr_room); (case zk99 => exact BindsTo.of_eq rfl); (case zkB9 => exact rfl); (case zkD9 => decide +kernel); (case zc29 => exact rfl); (case zc39 => exact rfl); (case zc49 => exact rfl); k_whole; intro L' h' tk' cells' FG' F' N' Y' B' X' T'; k_cells Y'; (try simp only [List.cons_append, List.nil_append] at N'); (try dsimp only); (try k_lift B'); (try k_fold)))
  dsimp only [fL, fR] at hL hR hR2 hq hS
  (repeat' (first | (k_unfold; (try dsimp only)) | (k_end; wrow_close) | (with_reducible ((with_reducible show wpAny _ _ (call (Value.builtin "str.split") _ _) _ _ _); k_dflt (refine' splitN1A ?zkF9 ?zkN9 ?zky9 ?_ ?zks9; (case zkF9 => k_asm); (case zkN9 => k_asm); (case zky9 => exact len_ne (by assumption)); (case zks9 => simp only [sizeLine_eq]; omega)); intro l' h' k' e' hs' hl9' hI' F' N'; obtain ⟨t0', t1', t2', t3', t4', e9'⟩ := five (e'.trans (by assumption)); subst e9'; clear e' hI'; simp only [strValues, List.map_cons, List.map_nil] at N' hs')) | (with_reducible ((with_reducible show wpAny _ _ (call (Value.type "int") _ _) _ _ _); k_dflt (refine KIN.call_text (by with_reducible assumption) (by with_reducible assumption) ?_))) | (with_reducible ((with_reducible show wpAny _ _ (subscriptTail _ _ _ _) _ _ _); (with_reducible show wpAny _ _ (subscriptTail _ _ (Value.str _ _) (Value.int _ _)) _ _ _); k_dflt (refine' item_str ?zk19 ?zk29 ?zk39 ?_; (case zk19 => exact fits_small (by omega) (by omega)); (case zk29 => omega); (case zk39 => omega)); intro hlen')) | walk1 | (dsimp only; walk1) | (leave1; walk_say "STEP leave1"; try dsimp only) | fail "no step"))
  all_goals (try k_data)
  all_goals (refine hret _ _ _ _ (frKeep F (Fr.keep (by assumption))) (newsAdd F N (Fr.keep (by assumption)) (by assumption) (by k_mem)).1 (newsAdd F N (Fr.keep (by assumption)) (by assumption) (by k_mem)).2 (Fr.keep (by assumption)) ?_)
  all_goals exact ⟨_, rfl⟩
end
noncomputable def replyS (c : PySem.Str) (fs : List PySem.Str) (mk bh : PySem.Str) : PySem.Str := c ++ PySem.Str.ofString " ok) (" ++ mk ++ Txt.join mk fs ++ mk ++ PySem.Str.ofString ")" ++ bh
section
theorem f_reply (w : World) (mean : ExcName → Option Value) (mg mb : PySem.Str → Option Value) (c mk bh : PySem.Str) (l : List (PySem.Str × Tok)) (t u1 u2 : Tok) (fa : Addr) (h1 : c.length ≤ 100) (h2 : mk.length ≤ 100) (h3 : bh.length ≤ 100) (h4 : (Txt.join mk (l.map (·.1))).length ≤ 1000)
   (hok : JoinOk mk (l.map (·.1)) = true) :
   CV w mean mg mb 157 [.str c t, .ref fa, .str mk u1, .str bh u2] 1 120 (fun h => h.IsList fa (strValues l).toArray) (fun v _ => ∃ tk, v = .str (replyS c (l.map (·.1)) mk bh) tk) := by
  have hfill : (PySem.Challenge.rw_yh0002_01 = PySem.Challenge.rw_yh0002_01) ∧ KF = KF := by k_fill; exact ⟨rfl, rfl⟩
  clear hfill
  intro dp un gd cn cs a ccd cl outer A₀ base h₀ L m news s Q E B F X N T hk hyp hd hu hret
  obtain ⟨g, gens, drawn, toks, os⟩ := s
  dsimp only at F N hyp hret ⊢
  refine wpAny_call ?_
  k_dflt (first | (refine' code_defV ?zk19 ?zk29 ?zk39 ?zk59 ?zkA9 ?zkF9 ?zkK9 ?zk69 ?zk79 ?zk89 ?zk99 ?zkB9 ?_ ?zc29 ?zc39 ?zc49 ?zc59; (case zkA9 => exact rfl); (case zkF9 => exact rfl); (case zkK9 => first | exact rfl | assumption); (case zk19 => k_asm); (case zk29 => k_asm); (case zk39 => k_asm); (case zk59 => k_asm); (case zk69 => k_is); (case zk79 => k_is); (case zk89 => ktr_room); (case zk99 => exact BindsTo.of_eq rfl); (case zc59 => decide); (case zkB9 => exact locs rfl); (case zc29 => exact rfl); (case zc39 => exact rfl); (case zc49 => exact rfl); k_whole; intro L' h' FG' F' N' B' X' T'; (try dsimp only); (try k_lift B'); (try k_fold)) | (refine' code_defCV ?zk19 ?zk29 ?zk39 ?zk59 ?zkA9 ?zkF9 ?zkK9 ?zk69 ?zk79 ?zk89 ?zk99 ?zkB9 ?zkD9 ?_ ?zc29 ?zc39 ?zc49; (case zkA9 => exact rfl); (case zkF9 => exact rfl); (case zkK9 => first | exact rfl | assumption); (case zk19 => k_asm); (case zk29 => k_asm); (case zk39 => k_asm); (case zk59 => k_asm); (case zk69 => k_is); (case zk79 => k_is); (case zk89 => ktr_room); (case zk99 => exact BindsTo.of_eq rfl); (case zkB9 => exact rfl); (case zkD9 => decide +kernel); (case zc29 => exact rfl); (case zc39 => exact rfl); (case zc49 => exact rfl); k_whole; intro L' h' tk' cells' FG' F' N' Y' B' X' T'; k_cells Y'; (try simp only [List.cons_append, List.nil_append] at N'); (try dsimp only); (try k_lift B'); (try k_fold)))
  (repeat' (first | (k_unfold; (try dsimp only)) | (k_end; wrow_close) | (with_reducible ((with_reducible show wpAny _ _ (call (Value.builtin "str.join") _ _) _ _ _); k_dflt (refine SC.join (by exact Fr.lst (by assumption) (by with_reducible assumption)) rfl (by with_reducible assumption) ?_); intro t' k')) | (with_reducible ((with_reducible show wpAny _ _ (call (Value.builtin "str.join") _ _) _ _ _); k_dflt (refine SC.join (by with_reducible assumption) rfl (by with_reducible assumption) ?_); intro t' k')) | walk1 | (dsimp only; walk1) | (leave1; walk_say "STEP leave1"; try dsimp only) | fail "no step"))
  all_goals (try k_data)
  all_goals (refine hret _ _ _ (frKeep F (Fr.keep (by assumption))) (newsKeep N (Fr.keep (by assumption))) (Fr.keep (by assumption)) ?_)
  all_goals exact ⟨_, rfl⟩
end
end
-- KFun5
noncomputable section
open PySem PySem.W PyProof.Rows PySem.Calls PySem.Spec
set_option Elab.async false
set_option maxRecDepth 100000
set_option maxHeartbeats 8000000
set_option linter.unusedVariables false
theorem tj2 (mk a b : PySem.Str) : Txt.join mk [a, b] = a ++ mk ++ b := rfl
theorem tj3 (mk a b c : PySem.Str) : Txt.join mk [a, b, c] = a ++ mk ++ b ++ mk ++ c := rfl
theorem tj4 (mk a b c d : PySem.Str) : Txt.join mk [a, b, c, d] = a ++ mk ++ b ++ mk ++ c ++ mk ++ d := rfl
theorem l_ok : (PySem.Str.ofString " ok) (").length = 6 := by decide +kernel
theorem l_cl : (PySem.Str.ofString ")").length = 1 := by decide +kernel
theorem l_br : (PySem.Str.ofString "]").length = 1 := by decide +kernel
theorem l_qc : (PySem.Str.ofString "?)").length = 2 := by decide +kernel
theorem add_fresh {prog : Program} {w : World} {A : Around} {E : Value → Shared → Prop} {s : Shared} {x y : PySem.Str} {t u : Tok} {Q : Value → Shared → Prop} (hx : 1 ≤ x.length) (hy : 1 ≤ y.length) (hsz : x.length + y.length ≤ 16777216)
    (h : Q (.str (x ++ y) s.toks) { s with toks := s.toks + 1 }) : wpAny (model prog w) A (binaryOp .Add (.str x t) (.str y u)) Q E s := by
  refine P.add_str ?_
  rw [if_neg (by rw [beq_iff_eq]; omega), if_neg (by rw [beq_iff_eq]; omega)]
  exact ⟨by rw [size_cat, sizeLine_eq]; exact hsz, h⟩
theorem tok_ne (a : Nat) : (a + 1 : Nat) ≠ a + 1 + 1 + 1 := by omega
theorem ne_mark (mk : PySem.Str) : ((mk ++ PySem.Str.ofString ")") == (mk ++ PySem.Str.ofString "?)")) = false := by
  rw [beq_eq_false_iff_ne]
  intro e
  have := congrArg Str.length e
  rw [Str.length_append, Str.length_append, l_cl, l_qc] at this
  omega
theorem add_br {prog : Program} {w : World} {A : Around} {E : Value → Shared → Prop} {s : Shared} {x : PySem.Str} {l u : Option Int} {t u' : Tok} {Q : Value → Shared → Prop} (hx : x.length ≤ 1000)
    (h : ∀ t' k, ((Txt.slice x l u).length + (PySem.Str.ofString "]").length ≤ (Txt.slice x l u ++ PySem.Str.ofString "]").length ∧ (Txt.slice x l u ++ PySem.Str.ofString "]").length ≤ (Txt.slice x l u).length + (PySem.Str.ofString "]").length) → Q (.str (Txt.slice x l u ++ PySem.Str.ofString "]") t') { s with toks := k }) : wpAny (model prog w) A (binaryOp .Add (.str (Txt.slice x l u) t) (.str (PySem.Str.ofString "]") u')) Q E s :=
  SBL.add h (by have := Txt.slice_le x l u; rw [sizeLine_eq, l_br]; omega)
noncomputable def spoilS (way : Int) (f1 f2 f3 mk bh : PySem.Str) : PySem.Str :=
  if way = 0 then replyS (if (bh.length : Int).fmod 3 = 0 then PySem.Str.ofString "129" else if (bh.length : Int).fmod 3 = 1 then PySem.Str.ofString "239" else PySem.Str.ofString "220") [f1, f2, f3] mk bh
  else if way = 1 then replyS (PySem.Str.ofString "229") [f1, f2, f3, PySem.Str.ofString "4"] mk bh
  else if way = 2 then replyS (PySem.Str.ofString "229") [f2, f3] mk bh
  else if way = 3 then PySem.Str.ofString "229 2" ++ f3 ++ PySem.Str.ofString "2)"
  else if way = 4 then Txt.slice (replyS (PySem.Str.ofString "229") [f1, f2, f3] mk (PySem.Str.ofString "")) none (some (-1)) ++ PySem.Str.ofString "]"
  else Txt.replace (replyS (PySem.Str.ofString "229") [f1, f2, f3] mk bh) (mk ++ PySem.Str.ofString ")") (mk ++ PySem.Str.ofString "?)")
section
variable (w : World) (mean : ExcName → Option Value) (mg mb : PySem.Str → Option Value)
theorem f_reply2 (c mk bh a b : PySem.Str) (ta tb t u1 u2 : Tok) (fa : Addr) :
    CV w mean mg mb 157 [.str c t, .ref fa, .str mk u1, .str bh u2] 1 120 (fun h => h.IsList fa [.str a ta, .str b tb].toArray ∧ c.length ≤ 100 ∧ mk.length ≤ 10 ∧ bh.length ≤ 100 ∧ a.length ≤ 100 ∧ b.length ≤ 100) (fun v _ => (replyS c [a, b] mk bh).length ≤ 1000 ∧ ∃ tk, v = .str (replyS c [a, b] mk bh) tk) := by
  intro dp un gd cn cs x1 ccd cl outer A₀ base h₀ L m news s Q E B F X N T hk hyp hd0 hu hret
  obtain ⟨hl, h1, h2, h3, ha, hb⟩ := hyp
  refine f_reply w mean mg mb c mk bh [(a, ta), (b, tb)] t u1 u2 fa h1 (by omega) h3 ?_ ?_ dp un gd cn cs x1 ccd cl outer A₀ base h₀ L m news s Q E B F X N T hk hl hd0 hu (fun v h' tk' F' N' k' p' => hret v h' tk' F' N' k' ⟨?_, p'⟩)
  · show (Txt.join mk [a, b]).length ≤ 1000
    rw [tj2]; simp only [Str.length_append]; omega
  · exact joinOk_of_weight (by simp only [List.map_cons, List.map_nil, List.sum_cons, List.sum_nil, List.length_cons, List.length_nil]; omega) (by omega)
  · unfold replyS; rw [tj2]; simp only [Str.length_append, l_ok, l_cl]; omega
theorem f_reply3 (c mk bh a b d : PySem.Str) (ta tb td t u1 u2 : Tok) (fa : Addr) :
    CV w mean mg mb 157 [.str c t, .ref fa, .str mk u1, .str bh u2] 1 120 (fun h => h.IsList fa [.str a ta, .str b tb, .str d td].toArray ∧ c.length ≤ 100 ∧ mk.length ≤ 10 ∧ bh.length ≤ 100 ∧ a.length ≤ 100 ∧ b.length ≤ 100 ∧ d.length ≤ 100) (fun v _ => (replyS c [a, b, d] mk bh).length ≤ 1000 ∧ ∃ tk, v = .str (replyS c [a, b, d] mk bh) tk) := by
  intro dp un gd cn cs x1 ccd cl outer A₀ base h₀ L m news s Q E B F X N T hk hyp hd0 hu hret
  obtain ⟨hl, h1, h2, h3, ha, hb, hd⟩ := hyp
  refine f_reply w mean mg mb c mk bh [(a, ta), (b, tb), (d, td)] t u1 u2 fa h1 (by omega) h3 ?_ ?_ dp un gd cn cs x1 ccd cl outer A₀ base h₀ L m news s Q E B F X N T hk hl hd0 hu (fun v h' tk' F' N' k' p' => hret v h' tk' F' N' k' ⟨?_, p'⟩)
  · show (Txt.join mk [a, b, d]).length ≤ 1000
    rw [tj3]; simp only [Str.length_append]; omega
  · exact joinOk_of_weight (by simp only [List.map_cons, List.map_nil, List.sum_cons, List.sum_nil, List.length_cons, List.length_nil]; omega) (by omega)
  · unfold replyS; rw [tj3]; simp only [Str.length_append, l_ok, l_cl]; omega
theorem f_reply4 (c mk bh a b d e : PySem.Str) (ta tb td te t u1 u2 : Tok) (fa : Addr) :
    CV w mean mg mb 157 [.str c t, .ref fa, .str mk u1, .str bh u2] 1 120 (fun h => h.IsList fa [.str a ta, .str b tb, .str d td, .str e te].toArray ∧ c.length ≤ 100 ∧ mk.length ≤ 10 ∧ bh.length ≤ 100 ∧ a.length ≤ 100 ∧ b.length ≤ 100 ∧ d.length ≤ 100 ∧ e.length ≤ 100) (fun v _ => (replyS c [a, b, d, e] mk bh).length ≤ 1000 ∧ ∃ tk, v = .str (replyS c [a, b, d, e] mk bh) tk) := by
  intro dp un gd cn cs x1 ccd cl outer A₀ base h₀ L m news s Q E B F X N T hk hyp hd0 hu hret
  obtain ⟨hl, h1, h2, h3, ha, hb, hd, he⟩ := hyp
  refine f_reply w mean mg mb c mk bh [(a, ta), (b, tb), (d, td), (e, te)] t u1 u2 fa h1 (by omega) h3 ?_ ?_ dp un gd cn cs x1 ccd cl outer A₀ base h₀ L m news s Q E B F X N T hk hl hd0 hu (fun v h' tk' F' N' k' p' => hret v h' tk' F' N' k' ⟨?_, p'⟩)
  · show (Txt.join mk [a, b, d, e]).length ≤ 1000
    rw [tj4]; simp only [Str.length_append]; omega
  · exact joinOk_of_weight (by simp only [List.map_cons, List.map_nil, List.sum_cons, List.sum_nil, List.length_cons, List.length_nil]; omega) (by omega)
  · unfold replyS; rw [tj4]; simp only [Str.length_append, l_ok, l_cl]; omega
end
section
theorem f_spoil (w : World) (mean : ExcName → Option Value) (mg mb : PySem.Str → Option Value) (way : Int) (mk bh f1 f2 f3 : PySem.Str) (t u1 u2 t1 t2 t3 : Tok) (fa : Addr) (h0 : 0 ≤ way ∧ way ≤ 5) (h2 : mk.length ≤ 1) (h2p : 1 ≤ mk.length) (h3 : bh.length ≤ 50) (h4 : f1.length ≤ 10) (h5 : f2.length ≤ 10) (h6 : f3.length ≤ 10) :
   CV w mean mg mb 171 [.int way t, .ref fa, .str mk u1, .str bh u2] 2 220 (fun h => h.IsList fa [.str f1 t1, .str f2 t2, .str f3 t3].toArray) (fun v _ => ∃ tk, v = .str (spoilS way f1 f2 f3 mk bh) tk) := by
  have hfill : (PySem.Challenge.rw_yh0002_01 = PySem.Challenge.rw_yh0002_01) ∧ KF = KF := by k_fill; exact ⟨rfl, rfl⟩
  clear hfill
  intro dp un gd cn cs a ccd cl outer A₀ base h₀ L m news s Q E B F X N T hk hyp hd hu hret
  obtain ⟨g, gens, drawn, toks, os⟩ := s
  dsimp only at F N hyp hret ⊢
  refine wpAny_call ?_
  k_dflt (first | (refine' code_defV ?zk19 ?zk29 ?zk39 ?zk59 ?zkA9 ?zkF9 ?zkK9 ?zk69 ?zk79 ?zk89 ?zk99 ?zkB9 ?_ ?zc29 ?zc39 ?zc49 ?zc59; (case zkA9 => exact rfl); (case zkF9 => exact rfl); (case zkK9 => first | exact rfl | assumption); (case zk19 => k_asm); (case zk29 => k_asm); (case zk39 => k_asm); (case zk59 => k_asm); (case zk69 => k_is); (case zk79 => k_is); (case zk89 => ktr_room); (case zk99 => exact BindsTo.of_eq rfl); (case zc59 => decide); (case zkB9 => exact locs rfl); (case zc29 => exact rfl); (case zc39 => exact rfl); (case zc49 => exact rfl); k_whole; intro L' h' FG' F' N' B' X' T'; (try dsimp only); (try k_lift B'); (try k_fold)) | (refine' code_defCV ?zk19 ?zk29 ?zk39 ?zk59 ?zkA9 ?zkF9 ?zkK9 ?zk69 ?zk79 ?zk89 ?zk99 ?zkB9 ?zkD9 ?_ ?zc29 ?zc39 ?zc49; (case zkA9 => exact rfl); (case zkF9 => exact rfl); (case zkK9 => first | exact rfl | assumption); (case zk19 => k_asm); (case zk29 => k_asm); (case zk39 => k_asm); (case zk59 => k_asm); (case zk69 => k_is); (case zk79 => k_is); (case zk89 => ktr_room); (case zk99 => exact BindsTo.of_eq rfl); (case zkB9 => exact rfl); (case zkD9 => decide +kernel); (case zc29 => exact rfl); (case zc39 => exact rfl); (case zc49 => exact rfl); k_whole; intro L' h' tk' cells' FG' F' N' Y' B' X' T'; k_cells Y'; (try simp only [List.cons_append, List.nil_append] at N'); (try dsimp only); (try k_lift B'); (try k_fold)))
  (repeat' (first | (k_unfold; (try dsimp only)) | (k_end; wrow_close) | (with_reducible ((with_reducible show wpAny _ _ (binaryOp Operator.Add (Value.str _ _) (Value.str _ _)) _ _ _); k_dflt (refine add_fresh (by first | omega | decide +kernel) (by first | omega | decide +kernel) (by first | omega | (simp only [l_cl, l_qc]; omega)) ?_))) | (with_reducible ((with_reducible show wpAny _ _ (binaryOp Operator.Add (Value.str _ _) (Value.str _ _)) _ _ _); (with_reducible show wpAny _ _ (binaryOp Operator.Add (Value.str (Txt.slice _ _ _) _) _) _ _ _); k_dflt (refine add_br (by with_reducible assumption) ?_); intro t' k' e')) | (with_reducible ((with_reducible show wpAny _ _ (call (Value.builtin "str.replace") _ _) _ _ _); k_dflt (refine' SC.replaceW ?zra9 ?zrb9 ?zrc9 (ne_mark _) ?zrd9 ?zre9 ?_; (case zra9 => exact Nat.succ_ne_zero _); (case zrb9 => exact Nat.succ_ne_zero _); (case zrc9 => exact tok_ne _); (case zrd9 => omega); (case zre9 => (simp only [Str.length_append, l_qc]; omega))); intro t' k')) | (with_reducible ((with_reducible show wpAny _ _ (call (Value.ref _) _ _) _ _ _); (k_dflt (first | (refine' cvUse (f_reply3 _ _ _ _ _ _ _ _ _ _ _ _ _ _ _ _ _) ?zB9 ?zF9 ?zX9 ?zN9 ?zT9 ?zhk9 ?zhy9 ?zhd9 ?zhu9 ?_; (case zF9 => k_asm); (case zT9 => k_asm); (case zB9 => k_asm); (case zX9 => k_asm); (case zN9 => k_asm); (case zhk9 => first | exact rfl | assumption); (case zhy9 => first | exact trivial | (dsimp only; (repeat' (refine And.intro ?_ ?_)) <;> first | is_list | l_ints | (with_reducible assumption) | omega | decide | kt_len)); (case zhd9 => ktr_room); (case zhu9 => ktr_units); intro v' h' tk' F' N' k' p'; obtain ⟨hl', _, p'⟩ := p'; subst p') | (refine' cvUse (f_reply4 _ _ _ _ _ _ _ _ _ _ _ _ _ _ _ _ _ _ _) ?zB9 ?zF9 ?zX9 ?zN9 ?zT9 ?zhk9 ?zhy9 ?zhd9 ?zhu9 ?_; (case zF9 => k_asm); (case zT9 => k_asm); (case zB9 => k_asm); (case zX9 => k_asm); (case zN9 => k_asm); (case zhk9 => first | exact rfl | assumption); (case zhy9 => first | exact trivial | (dsimp only; (repeat' (refine And.intro ?_ ?_)) <;> first | is_list | l_ints | (with_reducible assumption) | omega | decide | kt_len)); (case zhd9 => ktr_room); (case zhu9 => ktr_units); intro v' h' tk' F' N' k' p'; obtain ⟨hl', _, p'⟩ := p'; subst p') | (refine' cvUse (f_reply2 _ _ _ _ _ _ _ _ _ _ _ _ _ _ _) ?zB9 ?zF9 ?zX9 ?zN9 ?zT9 ?zhk9 ?zhy9 ?zhd9 ?zhu9 ?_; (case zF9 => k_asm); (case zT9 => k_asm); (case zB9 => k_asm); (case zX9 => k_asm); (case zN9 => k_asm); (case zhk9 => first | exact rfl | assumption); (case zhy9 => first | exact trivial | (dsimp only; (repeat' (refine And.intro ?_ ?_)) <;> first | is_list | l_ints | (with_reducible assumption) | omega | decide | kt_len)); (case zhd9 => ktr_room); (case zhu9 => ktr_units); intro v' h' tk' F' N' k' p'; obtain ⟨hl', _, p'⟩ := p'; subst p'))); (try dsimp only); (try k_fold))) | walk1 | (dsimp only; walk1) | (leave1; walk_say "STEP leave1"; try dsimp only) | fail "no step"))
  all_goals (try k_data)
  all_goals (refine hret _ _ _ (frKeep F (Fr.keep (by assumption))) (newsKeep N (Fr.keep (by assumption))) (Fr.keep (by assumption)) ?_)
  all_goals (refine ⟨_, congrArg (fun x => Value.str x _) ?_⟩; unfold spoilS; (repeat' split) <;> first | (exfalso; omega) | rfl)
end
end
-- KFun6
noncomputable section
open PySem PySem.W PyProof.Rows PySem.Calls PySem.Spec
set_option Elab.async false
set_option maxRecDepth 100000
set_option maxHeartbeats 8000000
set_option linter.unusedVariables false
section
theorem len_of {l : List (PySem.Str × Tok)} {xs : List PySem.Str} {n : Nat} (h : l.map (·.1) = xs) (e : xs.length = n) (h5 : n ≠ 5) (h9 : n ≤ 9) : l.length ≠ 5 ∧ l.length ≤ 9 := by
  subst h; rw [List.length_map] at e; subst e; exact ⟨h5, h9⟩
theorem five_of {n : Nat} (h : (n : Int) = 5) : n = 5 := by omega
theorem sz_str (l : List (PySem.Str × Tok)) : (strValues l).toArray.size = l.length := by simp [strValues]
theorem f_refR (w : World) (mean : ExcName → Option Value) (mg mb : PySem.Str → Option Value) (x : PySem.Str) (t : Tok) (pa : Addr) (hx : x.length ≤ 1000)
   (hA : (Txt.slice x none (some 3) != PySem.Str.ofString "229") = true) :
   CVT w mean mg mb 164 [.str x t, .ref pa] 2 220 (fun h => True) (fun o => ∃ t1 t2, o = { cls := .type "list", data := .seq #[.str (PySem.Str.ofString "reply") t1, .str x t2] 0 }) := by
  have hfill : (PySem.Challenge.rw_yh0002_01 = PySem.Challenge.rw_yh0002_01) ∧ KF = KF := by k_fill; exact ⟨rfl, rfl⟩
  clear hfill
  intro dp un gd cn cs a ccd cl A₀ h₀ L m news s Q E B F X N T hk hyp hd hu hret
  obtain ⟨g, gens, drawn, toks, os⟩ := s
  dsimp only at F N hyp hret ⊢
  refine wpAny_call ?_
  refine' code_defT B F X N T ?kA ?kF ?kK ?k6 ?k7 ?k8 ?k9 ?kB ?_ ?c2 ?c3 ?c4 ?c5; (case kA => exact rfl); (case kF => exact rfl); (case kK => assumption); (case k6 => k_is); (case k7 => k_is); (case k8 => ktr_room); (case k9 => exact BindsTo.of_eq rfl); (case c5 => decide); (case kB => exact locs rfl); (case c2 => exact rfl); (case c3 => exact rfl); (case c4 => exact rfl); k_whole; intro L' h' FG' F' N' B' X' T' D'; (try dsimp only); (try k_lift B'); (try k_fold)
  dsimp only [fL, fR] at *
  (repeat' (first | (k_unfold; (try dsimp only)) | (k_end; wrow_close) | (with_reducible ((with_reducible show wpAny _ _ (call (Value.builtin "len") _ _) _ _ _); k_dflt (refine' PySem.W.KM.len_K ?zk19 ?zk29 ?zk39 ?zk49 ?_; (case zk19 => k_asm); (case zk29 => exact List.Mem.head _); (case zk39 => with_reducible assumption); (case zk49 => omega)))) | (with_reducible ((with_reducible show wpAny _ _ (call (Value.builtin "str.split") _ _) _ _ _); k_dflt (refine' splitN1A ?zkF9 ?zkN9 ?zky9 ?_ ?zks9; (case zkF9 => k_asm); (case zkN9 => k_asm); (case zky9 => exact len_ne (by assumption)); (case zks9 => simp only [sizeLine_eq]; omega)); intro l' h' k' e' hs' hl9' hI' F' N'; (have hn9' := (hS (by omega) (by omega) (by assumption)) _ e'); clear e' hI' hs' hl9'; (have hz9' := sz_str l'))) | (with_reducible ((with_reducible show wpAny _ _ (subscriptTail _ _ _ _) _ _ _); (with_reducible show wpAny _ _ (subscriptTail _ _ (Value.str _ _) (Value.int _ _)) _ _ _); k_dflt (refine' item_str ?zk19 ?zk29 ?zk39 ?_; (case zk19 => exact fits_small (by omega) (by omega)); (case zk29 => omega); (case zk39 => omega)); intro hlen')) | (with_reducible ((with_reducible show wpAny _ _ (call (Value.type "str") _ _) _ _ _); (with_reducible rename Got _ _ _ (Value.ref _) _ => gX'); k_dflt (refine' str_own ?zu9 ?zX9 (ownExc_of ?zN9 gX') ?zhs9 ?zhm9 ?_; (case zu9 => ktr_units); (case zX9 => k_in); (case zN9 => k_asm); (case zhs9 => k_is); (case zhm9 => k_is)))) | (with_reducible ((with_reducible show wpAny _ _ (call (Value.ref _) _ _) _ _ _); k_dflt (refine wpAny_call ?_; (first | (refine' code_defV ?zk19 ?zk29 ?zk39 ?zk59 ?zkA9 ?zkF9 ?zkK9 ?zk69 ?zk79 ?zk89 ?zk99 ?zkB9 ?_ ?zc29 ?zc39 ?zc49 ?zc59; (case zkA9 => exact rfl); (case zkF9 => exact rfl); (case zkK9 => first | exact rfl | assumption); (case zk19 => k_asm); (case zk29 => k_asm); (case zk39 => k_asm); (case zk59 => k_asm); (case zk69 => k_is); (case zk79 => k_is); (case zk89 => ktr_room); (case zk99 => exact BindsTo.of_eq rfl); (case zc59 => decide); (case zkB9 => exact locs rfl); (case zc29 => exact rfl); (case zc39 => exact rfl); (case zc49 => exact rfl); k_whole; intro L' h' FG' F' N' B' X' T'; (try dsimp only); (try k_lift B'); (try k_fold)) | (refine' code_defCV ?zk19 ?zk29 ?zk39 ?zk59 ?zkA9 ?zkF9 ?zkK9 ?zk69 ?zk79 ?zk89 ?zk99 ?zkB9 ?zkD9 ?_ ?zc29 ?zc39 ?zc49; (case zkA9 => exact rfl); (case zkF9 => exact rfl); (case zkK9 => first | exact rfl | assumption); (case zk19 => k_asm); (case zk29 => k_asm); (case zk39 => k_asm); (case zk59 => k_asm); (case zk69 => k_is); (case zk79 => k_is); (case zk89 => ktr_room); (case zk99 => exact BindsTo.of_eq rfl); (case zkB9 => exact rfl); (case zkD9 => decide +kernel); (case zc29 => exact rfl); (case zc39 => exact rfl); (case zc49 => exact rfl); k_whole; intro L' h' tk' cells' FG' F' N' Y' B' X' T'; k_cells Y'; (try simp only [List.cons_append, List.nil_append] at N'); (try dsimp only); (try k_lift B'); (try k_fold)))))) | walk1 | (dsimp only; walk1) | (leave1; walk_say "STEP leave1"; try dsimp only) | fail "no step"))
  all_goals (with_reducible rename News _ _ _ news => nN'; with_reducible rename News h₀ L _ (_ :: _) => kN')
  all_goals exact hret _ _ _ _ (by assumption) (fun p hp => (List.mem_cons.mp hp).elim (fun e => kN' p (e ▸ List.Mem.head _)) (nN' p)) ⟨_, _, rfl⟩
theorem f_refN (w : World) (mean : ExcName → Option Value) (mg mb : PySem.Str → Option Value) (x : PySem.Str) (t : Tok) (pa : Addr) (hx : x.length ≤ 1000)
   (hA : (Txt.slice x none (some 3) != PySem.Str.ofString "229") = false) (hL : fL x < 0 ∨ fL x = 8) (hR : fL x < 0 ∨ fR x < 0 ∨ (9 < fR x ∧ fR x < x.length))
   (hS : fL x = 8 → 9 < fR x → (Txt.item x (fL x + 1) != Txt.item x (fR x - 1)) = false → ∀ l : List (PySem.Str × Tok), l.map (·.1) = Txt.split (Txt.slice x (some (fL x + 1)) (some (fR x))) (Txt.item x (fL x + 1)) → l.length ≠ 5 ∧ l.length ≤ 9) :
   CVT w mean mg mb 164 [.str x t, .ref pa] 2 220 (fun h => True) (fun o => ∃ t1 t2, o = { cls := .type "list", data := .seq #[.str (PySem.Str.ofString "proto") t1, .str x t2] 0 }) := by
  have hfill : (PySem.Challenge.rw_yh0002_01 = PySem.Challenge.rw_yh0002_01) ∧ KF = KF := by k_fill; exact ⟨rfl, rfl⟩
  clear hfill
  intro dp un gd cn cs a ccd cl A₀ h₀ L m news s Q E B F X N T hk hyp hd hu hret
  obtain ⟨g, gens, drawn, toks, os⟩ := s
  dsimp only at F N hyp hret ⊢
  refine wpAny_call ?_
  refine' code_defT B F X N T ?kA ?kF ?kK ?k6 ?k7 ?k8 ?k9 ?kB ?_ ?c2 ?c3 ?c4 ?c5; (case kA => exact rfl); (case kF => exact rfl); (case kK => assumption); (case k6 => k_is); (case k7 => k_is); (case k8 => ktr_room); (case k9 => exact BindsTo.of_eq rfl); (case c5 => decide); (case kB => exact locs rfl); (case c2 => exact rfl); (case c3 => exact rfl); (case c4 => exact rfl); k_whole; intro L' h' FG' F' N' B' X' T' D'; (try dsimp only); (try k_lift B'); (try k_fold)
  dsimp only [fL, fR] at *
  (repeat' (first | (k_unfold; (try dsimp only)) | (k_end; wrow_close) | (with_reducible ((with_reducible show wpAny _ _ (call (Value.builtin "len") _ _) _ _ _); k_dflt (refine' PySem.W.KM.len_K ?zk19 ?zk29 ?zk39 ?zk49 ?_; (case zk19 => k_asm); (case zk29 => exact List.Mem.head _); (case zk39 => with_reducible assumption); (case zk49 => omega)))) | (with_reducible ((with_reducible show wpAny _ _ (call (Value.builtin "str.split") _ _) _ _ _); k_dflt (refine' splitN1A ?zkF9 ?zkN9 ?zky9 ?_ ?zks9; (case zkF9 => k_asm); (case zkN9 => k_asm); (case zky9 => exact len_ne (by assumption)); (case zks9 => simp only [sizeLine_eq]; omega)); intro l' h' k' e' hs' hl9' hI' F' N'; (have hn9' := (hS (by omega) (by omega) (by assumption)) _ e'); clear e' hI' hs' hl9'; (have hz9' := sz_str l'))) | (with_reducible ((with_reducible show wpAny _ _ (subscriptTail _ _ _ _) _ _ _); (with_reducible show wpAny _ _ (subscriptTail _ _ (Value.str _ _) (Value.int _ _)) _ _ _); k_dflt (refine' item_str ?zk19 ?zk29 ?zk39 ?_; (case zk19 => exact fits_small (by omega) (by omega)); (case zk29 => omega); (case zk39 => omega)); intro hlen')) | (with_reducible ((with_reducible show wpAny _ _ (call (Value.type "str") _ _) _ _ _); (with_reducible rename Got _ _ _ (Value.ref _) _ => gX'); k_dflt (refine' str_own ?zu9 ?zX9 (ownExc_of ?zN9 gX') ?zhs9 ?zhm9 ?_; (case zu9 => ktr_units); (case zX9 => k_in); (case zN9 => k_asm); (case zhs9 => k_is); (case zhm9 => k_is)))) | (with_reducible ((with_reducible show wpAny _ _ (call (Value.ref _) _ _) _ _ _); k_dflt (refine wpAny_call ?_; (first | (refine' code_defV ?zk19 ?zk29 ?zk39 ?zk59 ?zkA9 ?zkF9 ?zkK9 ?zk69 ?zk79 ?zk89 ?zk99 ?zkB9 ?_ ?zc29 ?zc39 ?zc49 ?zc59; (case zkA9 => exact rfl); (case zkF9 => exact rfl); (case zkK9 => first | exact rfl | assumption); (case zk19 => k_asm); (case zk29 => k_asm); (case zk39 => k_asm); (case zk59 => k_asm); (case zk69 => k_is); (case zk79 => k_is); (case zk89 => ktr_room); (case zk99 => exact BindsTo.of_eq rfl); (case zc59 => decide); (case zkB9 => exact locs rfl); (case zc29 => exact rfl); (case zc39 => exact rfl); (case zc49 => exact rfl); k_whole; intro L' h' FG' F' N' B' X' T'; (try dsimp only); (try k_lift B'); (try k_fold)) | (refine' code_defCV ?zk19 ?zk29 ?zk39 ?zk59 ?zkA9 ?zkF9 ?zkK9 ?zk69 ?zk79 ?zk89 ?zk99 ?zkB9 ?zkD9 ?_ ?zc29 ?zc39 ?zc49; (case zkA9 => exact rfl); (case zkF9 => exact rfl); (case zkK9 => first | exact rfl | assumption); (case zk19 => k_asm); (case zk29 => k_asm); (case zk39 => k_asm); (case zk59 => k_asm); (case zk69 => k_is); (case zk79 => k_is); (case zk89 => ktr_room); (case zk99 => exact BindsTo.of_eq rfl); (case zkB9 => exact rfl); (case zkD9 => decide +kernel); (case zc29 => exact rfl); (case zc39 => exact rfl); (case zc49 => exact rfl); k_whole; intro L' h' tk' cells' FG' F' N' Y' B' X' T'; k_cells Y'; (try simp only [List.cons_append, List.nil_append] at N'); (try dsimp only); (try k_lift B'); (try k_fold)))))) | walk1 | (dsimp only; walk1) | (leave1; walk_say "STEP leave1"; try dsimp only) | fail "no step"))
  all_goals (try exact absurd (five_of (by assumption)) hn9'.1)
  all_goals (with_reducible rename News _ _ _ news => nN'; with_reducible rename News h₀ L _ (_ :: _) => kN')
  all_goals exact hret _ _ _ _ (by assumption) (fun p hp => (List.mem_cons.mp hp).elim (fun e => kN' p (e ▸ List.Mem.head _)) (nN' p)) ⟨_, _, rfl⟩
end
theorem f_refL (w : World) (mean : ExcName → Option Value) (mg mb : PySem.Str → Option Value) (x : PySem.Str) (t : Tok) (pa : Addr) (hx : x.length ≤ 1000)
   (hA : (Txt.slice x none (some 3) != PySem.Str.ofString "229") = false) (hL : fL x < 0) :
   CVT w mean mg mb 164 [.str x t, .ref pa] 2 220 (fun h => True) (fun o => ∃ t1 t2, o = { cls := .type "list", data := .seq #[.str (PySem.Str.ofString "proto") t1, .str x t2] 0 }) :=
  f_refN w mean mg mb x t pa hx hA (.inl hL) (.inl hL) (fun h8 => absurd (h8 ▸ hL) (by decide))
theorem f_refP (w : World) (mean : ExcName → Option Value) (mg mb : PySem.Str → Option Value) (x : PySem.Str) (t : Tok) (pa : Addr) (hx : x.length ≤ 1000)
   (hA : (Txt.slice x none (some 3) != PySem.Str.ofString "229") = false) (hL : fL x = 8) (hR : fR x < 0) :
   CVT w mean mg mb 164 [.str x t, .ref pa] 2 220 (fun h => True) (fun o => ∃ t1 t2, o = { cls := .type "list", data := .seq #[.str (PySem.Str.ofString "proto") t1, .str x t2] 0 }) :=
  f_refN w mean mg mb x t pa hx hA (.inr hL) (.inr (.inl hR)) (fun _ h9 => absurd (Int.lt_trans h9 hR) (by decide))
theorem f_refM (w : World) (mean : ExcName → Option Value) (mg mb : PySem.Str → Option Value) (x : PySem.Str) (t : Tok) (pa : Addr) (hx : x.length ≤ 1000)
   (hA : (Txt.slice x none (some 3) != PySem.Str.ofString "229") = false) (hL : fL x = 8) (hR : 9 < fR x) (hR2 : fR x < x.length) (hq : (Txt.item x (fL x + 1) != Txt.item x (fR x - 1)) = true) :
   CVT w mean mg mb 164 [.str x t, .ref pa] 2 220 (fun h => True) (fun o => ∃ t1 t2, o = { cls := .type "list", data := .seq #[.str (PySem.Str.ofString "proto") t1, .str x t2] 0 }) :=
  f_refN w mean mg mb x t pa hx hA (.inr hL) (.inr (.inr ⟨hR, hR2⟩)) (fun _ _ hf => absurd (hq.symm.trans hf) (by decide))
theorem f_ref4 (w : World) (mean : ExcName → Option Value) (mg mb : PySem.Str → Option Value) (x : PySem.Str) (t : Tok) (pa : Addr) (hx : x.length ≤ 1000)
   (hA : (Txt.slice x none (some 3) != PySem.Str.ofString "229") = false) (hL : fL x = 8) (hR : 9 < fR x) (hR2 : fR x < x.length) (hq : (Txt.item x (fL x + 1) != Txt.item x (fR x - 1)) = false) (a0 a1 a2 a3 : PySem.Str) (hS : Txt.split (Txt.slice x (some (fL x + 1)) (some (fR x))) (Txt.item x (fL x + 1)) = [a0, a1, a2, a3]) :
   CVT w mean mg mb 164 [.str x t, .ref pa] 2 220 (fun h => True) (fun o => ∃ t1 t2, o = { cls := .type "list", data := .seq #[.str (PySem.Str.ofString "proto") t1, .str x t2] 0 }) :=
  f_refN w mean mg mb x t pa hx hA (.inr hL) (.inr (.inr ⟨hR, hR2⟩)) (fun _ _ _ l hl => len_of (n := 4) (hl.trans hS) rfl (by decide) (by decide))
theorem f_ref6 (w : World) (mean : ExcName → Option Value) (mg mb : PySem.Str → Option Value) (x : PySem.Str) (t : Tok) (pa : Addr) (hx : x.length ≤ 1000)
   (hA : (Txt.slice x none (some 3) != PySem.Str.ofString "229") = false) (hL : fL x = 8) (hR : 9 < fR x) (hR2 : fR x < x.length) (hq : (Txt.item x (fL x + 1) != Txt.item x (fR x - 1)) = false) (a0 a1 a2 a3 a4 a5 : PySem.Str) (hS : Txt.split (Txt.slice x (some (fL x + 1)) (some (fR x))) (Txt.item x (fL x + 1)) = [a0, a1, a2, a3, a4, a5]) :
   CVT w mean mg mb 164 [.str x t, .ref pa] 2 220 (fun h => True) (fun o => ∃ t1 t2, o = { cls := .type "list", data := .seq #[.str (PySem.Str.ofString "proto") t1, .str x t2] 0 }) :=
  f_refN w mean mg mb x t pa hx hA (.inr hL) (.inr (.inr ⟨hR, hR2⟩)) (fun _ _ _ l hl => len_of (n := 6) (hl.trans hS) rfl (by decide) (by decide))
end
-- KFun3
noncomputable section
open PySem PySem.W PyProof.Rows PySem.Calls PySem.Spec
set_option Elab.async false
set_option maxRecDepth 100000
set_option maxHeartbeats 8000000
set_option linter.unusedVariables false
open LCg LCt
theorem intsTwo {f : Nat → Int} {as : List Nat} {ys : List Value} (h : Two (fun i y => ∃ t, y = Value.int (f i) t) as ys) : IntsAre ys (as.map f) := by
  induction h with
  | nil => exact .nil
  | cons g _ ih => obtain ⟨t, rfl⟩ := g; exact .cons _ _ ih
theorem two_nil {G : Nat → Value → Prop} {l : List Nat} {ys : List Value} (h : Two G (l.filter fun _ => false) ys) : ys = [] := by
  have h1 := h.length
  rw [List.filter_eq_nil_iff.mpr (by simp)] at h1
  exact List.length_eq_zero_iff.mp h1.symm
noncomputable def tbs (bs : List Bool) : List Int := ((List.range 5).filter fun i => bs.getD i false).map fun (i : Nat) => (0 : Int) + (i : Int)
noncomputable def tbl (bs : List Bool) : Int := if tbs bs = [] then 5 else if (tbs bs).length = 1 then (tbs bs).getD 0 0 else -1
noncomputable def heldOf (w : World) (c : Nat) : List Bool := [c4f c, decide ((c : Int) ∈ intsOf (q3_23 w.params)), decide ((c : Int) ∈ intsOf (q8_35 w.params)), decide ((c : Int) ∈ intsOf (q8_59 w.params)), decide ((c : Int) ∈ intsOf (q9_77 w.params))]
theorem boolAt {a b c d e : Bool} {i : Nat} {v : Value} (h : (#[Value.bool a, .bool b, .bool c, .bool d, .bool e] : Array Value)[i]? = some v) : ∃ x, v = .bool x := by
  have := Array.mem_of_getElem? h
  simp at this
  rcases this with h | h | h | h | h <;> exact ⟨_, h⟩
section
local macro_rules | `(tactic| walk_at "CompSrcT") => `(tactic| (k_here; k_dflt (first
  | (refine LCt.CompSrcT.ledger (by rfl) (by k_asm) (by k_asm) (by k_mem) (by first | size_fits | exact Nat.le_of_ble_eq_true rfl) ?_; intro g'; refine restT_say 1 (by assumption) (by assumption) (Or.inr ⟨_, by k_mem, rfl, _, rfl⟩) ?step ?fin)
  | (refine LCt.CompSrcT.range (by rfl) (by k_asm) (by k_asm) (by assumption) (by first | decide | rfl) (by first | rfl | decide) (by first | size_fits | exact Nat.le_of_ble_eq_true rfl) ?_; intro g'; refine restT_say 2 (by assumption) (by assumption) trivial ?step2 ?fin2)
  )))
theorem f_table (w : World) (mean : ExcName → Option Value) (mg mb : PySem.Str → Option Value) (c : Nat) (t : Tok) :
   CV w mean mg mb 150 [.str ⟨#[c]⟩ t] 2 120 (fun _ => True) (fun v _ => ∃ tk, v = .int (tbl (heldOf w c)) tk) := by
  have hfill : (PySem.Challenge.rw_yh0002_01 = PySem.Challenge.rw_yh0002_01) ∧ KF = KF := by k_fill; exact ⟨rfl, rfl⟩
  clear hfill
  intro dp un gd cn cs a ccd cl outer A₀ base h₀ L m news s Q E B F X N T hk hyp hd hu hret
  obtain ⟨g, gens, drawn, toks, os⟩ := s
  dsimp only at F N hyp hret ⊢
  refine wpAny_call ?_
  k_dflt (first | (refine' code_defV ?zk19 ?zk29 ?zk39 ?zk59 ?zkA9 ?zkF9 ?zkK9 ?zk69 ?zk79 ?zk89 ?zk99 ?zkB9 ?_ ?zc29 ?zc39 ?zc49 ?zc59; (case zkA9 => exact rfl); (case zkF9 => exact rfl); (case zkK9 => first | exact rfl | assumption); (case zk19 => k_asm); (case zk29 => k_asm); (case zk39 => k_asm); (case zk59 => k_asm); (case zk69 => k_is); (case zk79 => k_is); (case zk89 => ktr_room); (case zk99 => exact BindsTo.of_eq rfl); (case zc59 => decide); (case zkB9 => exact locs rfl); (case zc29 => exact rfl); (case zc39 => exact rfl); (case zc49 => exact rfl); k_whole; intro L' h' FG' F' N' B' X' T'; (try dsimp only); (try k_lift B'); (try k_fold)) | (refine' code_defCV ?zk19 ?zk29 ?zk39 ?zk59 ?zkA9 ?zkF9 ?zkK9 ?zk69 ?zk79 ?zk89 ?zk99 ?zkB9 ?zkD9 ?_ ?zc29 ?zc39 ?zc49; (case zkA9 => exact rfl); (case zkF9 => exact rfl); (case zkK9 => first | exact rfl | assumption); (case zk19 => k_asm); (case zk29 => k_asm); (case zk39 => k_asm); (case zk59 => k_asm); (case zk69 => k_is); (case zk79 => k_is); (case zk89 => ktr_room); (case zk99 => exact BindsTo.of_eq rfl); (case zkB9 => exact rfl); (case zkD9 => decide +kernel); (case zc29 => exact rfl); (case zc39 => exact rfl); (case zc49 => exact rfl); k_whole; intro L' h' tk' cells' FG' F' N' Y' B' X' T'; k_cells Y'; (try simp only [List.cons_append, List.nil_append] at N'); (try dsimp only); (try k_lift B'); (try k_fold)))
  have say1 : Say 1 (fun _ : Nat => false) := ⟨⟩
  have say2 : Say 1 (fun (_ : Nat) (_ : Value) => True) := ⟨⟩
  have say3 : Say 2 (fun i : Nat => (heldOf w c).getD i false) := ⟨⟩
  have say4 : Say 2 (fun (i : Nat) (y : Value) => ∃ t, y = Value.int ((0 : Int) + (i : Int)) t) := ⟨⟩
  (repeat' (first | (k_unfold; (try dsimp only)) | (k_end; wrow_close) | (with_reducible ((with_reducible show wpAny _ _ (exec (Stmt.Assign _ (PySem.Expr.ListComp _ _ _ _) _) _) _ _ _); k_dflt (refine LCt.Assign_ListComp_T (F₀ := by k_asm) (by rfl) (by with_unfolding_all rfl) (by with_unfolding_all rfl) (by decide) (by rfl) (by decide) (by rfl) (by rfl) (by rfl) ?_); k_dflt lct_toSrc)) | (with_reducible ((with_reducible show wpAny _ _ (eval (PySem.Expr.ListComp _ _ _ _) _) _ _ _); k_dflt (refine LCt.ListComp_T (F₀ := by k_asm) (by with_unfolding_all rfl) (by decide) (by rfl) (by decide) (by rfl) ?_); k_dflt lct_toSrc)) | (with_reducible ((with_reducible show wpAny _ _ (call (Value.ref _) _ _) _ _ _); k_dflt (refine' cvUse ?zC9 ?zB9 ?zF9 ?zX9 ?zN9 ?zT9 ?zhk9 ?zhy9 ?zhd9 ?zhu9 ?_; (case zF9 => k_asm); (case zT9 => k_asm); (case zC9 => first | exact f_c4 _ _ _ _ _ _ | exact f_c6 _ _ _ _ _ _ | exact f_c7 _ _ _ _ _ _ | exact f_c8 _ _ _ _ _ _ | exact f_c9 _ _ _ _ _ _); (case zB9 => k_asm); (case zX9 => k_asm); (case zN9 => k_asm); (case zhk9 => first | exact rfl | assumption); (case zhy9 => first | exact trivial | (dsimp only; (repeat' (refine And.intro ?_ ?_)) <;> first | is_list | l_ints | assumption | omega)); (case zhd9 => ktr_room); (case zhu9 => ktr_units)); intro v' h' tk' F' N' k' p'; (first | subst p' | (obtain ⟨_, p'⟩ := p'; subst p') | (obtain ⟨_, _, p'⟩ := p'; subst p')); (try dsimp only); (try k_fold))) | (with_reducible ((with_reducible show wpAny _ _ (subscriptTail _ _ _ _) _ _ _); (with_reducible show wpAny _ _ (subscriptTail _ _ (Value.ref _) (Value.int _ _)) _ _ _); kim_at)) | walk1 | (dsimp only; walk1) | (leave1; walk_say "STEP leave1"; try dsimp only) | fail "no step"))
  case step =>
    refine Hold.mk ?_
    intro i' v' I' oI' C' oC' D' ys' m' h' tk' E' hi' hv' hC' hx' F' N' off' ne'
    obtain ⟨x', e'⟩ := boolAt hv'
    subst e'
    cases x' <;> (repeat' (first | (k_unfold; (try dsimp only)) | (k_end; wrow_close) | (with_reducible ((with_reducible show wpAny _ _ (exec (Stmt.Assign _ (PySem.Expr.ListComp _ _ _ _) _) _) _ _ _); k_dflt (refine LCt.Assign_ListComp_T (F₀ := by k_asm) (by rfl) (by with_unfolding_all rfl) (by with_unfolding_all rfl) (by decide) (by rfl) (by decide) (by rfl) (by rfl) (by rfl) ?_); k_dflt lct_toSrc)) | (with_reducible ((with_reducible show wpAny _ _ (eval (PySem.Expr.ListComp _ _ _ _) _) _ _ _); k_dflt (refine LCt.ListComp_T (F₀ := by k_asm) (by with_unfolding_all rfl) (by decide) (by rfl) (by decide) (by rfl) ?_); k_dflt lct_toSrc)) | (with_reducible ((with_reducible show wpAny _ _ (call (Value.ref _) _ _) _ _ _); k_dflt (refine' cvUse ?zC9 ?zB9 ?zF9 ?zX9 ?zN9 ?zT9 ?zhk9 ?zhy9 ?zhd9 ?zhu9 ?_; (case zF9 => k_asm); (case zT9 => k_asm); (case zC9 => first | exact f_c4 _ _ _ _ _ _ | exact f_c6 _ _ _ _ _ _ | exact f_c7 _ _ _ _ _ _ | exact f_c8 _ _ _ _ _ _ | exact f_c9 _ _ _ _ _ _); (case zB9 => k_asm); (case zX9 => k_asm); (case zN9 => k_asm); (case zhk9 => first | exact rfl | assumption); (case zhy9 => first | exact trivial | (dsimp only; (repeat' (refine And.intro ?_ ?_)) <;> first | is_list | l_ints | assumption | omega)); (case zhd9 => ktr_room); (case zhu9 => ktr_units)); intro v' h' tk' F' N' k' p'; (first | subst p' | (obtain ⟨_, p'⟩ := p'; subst p') | (obtain ⟨_, _, p'⟩ := p'; subst p')); (try dsimp only); (try k_fold))) | (with_reducible ((with_reducible show wpAny _ _ (subscriptTail _ _ _ _) _ _ _); (with_reducible show wpAny _ _ (subscriptTail _ _ (Value.ref _) (Value.int _ _)) _ _ _); kim_at)) | walk1 | (dsimp only; walk1) | (leave1; walk_say "STEP leave1"; try dsimp only) | fail "no step"))
    all_goals exact ⟨_, _, rfl, by assumption, by assumption, rfl, fun q => by cases q⟩
  case fin =>
    refine Hold.mk ?_
    intro ys' hT'; have e' := two_nil hT'; subst e'; clear hT'
    (repeat' (first | (k_unfold; (try dsimp only)) | (k_end; wrow_close) | (with_reducible ((with_reducible show wpAny _ _ (exec (Stmt.Assign _ (PySem.Expr.ListComp _ _ _ _) _) _) _ _ _); k_dflt (refine LCt.Assign_ListComp_T (F₀ := by k_asm) (by rfl) (by with_unfolding_all rfl) (by with_unfolding_all rfl) (by decide) (by rfl) (by decide) (by rfl) (by rfl) (by rfl) ?_); k_dflt lct_toSrc)) | (with_reducible ((with_reducible show wpAny _ _ (eval (PySem.Expr.ListComp _ _ _ _) _) _ _ _); k_dflt (refine LCt.ListComp_T (F₀ := by k_asm) (by with_unfolding_all rfl) (by decide) (by rfl) (by decide) (by rfl) ?_); k_dflt lct_toSrc)) | (with_reducible ((with_reducible show wpAny _ _ (call (Value.ref _) _ _) _ _ _); k_dflt (refine' cvUse ?zC9 ?zB9 ?zF9 ?zX9 ?zN9 ?zT9 ?zhk9 ?zhy9 ?zhd9 ?zhu9 ?_; (case zF9 => k_asm); (case zT9 => k_asm); (case zC9 => first | exact f_c4 _ _ _ _ _ _ | exact f_c6 _ _ _ _ _ _ | exact f_c7 _ _ _ _ _ _ | exact f_c8 _ _ _ _ _ _ | exact f_c9 _ _ _ _ _ _); (case zB9 => k_asm); (case zX9 => k_asm); (case zN9 => k_asm); (case zhk9 => first | exact rfl | assumption); (case zhy9 => first | exact trivial | (dsimp only; (repeat' (refine And.intro ?_ ?_)) <;> first | is_list | l_ints | assumption | omega)); (case zhd9 => ktr_room); (case zhu9 => ktr_units)); intro v' h' tk' F' N' k' p'; (first | subst p' | (obtain ⟨_, p'⟩ := p'; subst p') | (obtain ⟨_, _, p'⟩ := p'; subst p')); (try dsimp only); (try k_fold))) | (with_reducible ((with_reducible show wpAny _ _ (subscriptTail _ _ _ _) _ _ _); (with_reducible show wpAny _ _ (subscriptTail _ _ (Value.ref _) (Value.int _ _)) _ _ _); kim_at)) | walk1 | (dsimp only; walk1) | (leave1; walk_say "STEP leave1"; try dsimp only) | fail "no step"))
    case step2 =>
      refine Hold.mk ?_
      intro i' v' I' oI' C' oC' D' ys' m' h' tk' E' hi' hv' hC' hx' F' N' off' ne'
      replace hi' : i' < 5 := hi'
      obtain ⟨t', e'⟩ := hv'; subst e'
      rcases (by omega : i' = 0 ∨ i' = 1 ∨ i' = 2 ∨ i' = 3 ∨ i' = 4) with h | h | h | h | h <;> subst h <;> (repeat' (first | (k_unfold; (try dsimp only)) | (k_end; wrow_close) | (with_reducible ((with_reducible show wpAny _ _ (exec (Stmt.Assign _ (PySem.Expr.ListComp _ _ _ _) _) _) _ _ _); k_dflt (refine LCt.Assign_ListComp_T (F₀ := by k_asm) (by rfl) (by with_unfolding_all rfl) (by with_unfolding_all rfl) (by decide) (by rfl) (by decide) (by rfl) (by rfl) (by rfl) ?_); k_dflt lct_toSrc)) | (with_reducible ((with_reducible show wpAny _ _ (eval (PySem.Expr.ListComp _ _ _ _) _) _ _ _); k_dflt (refine LCt.ListComp_T (F₀ := by k_asm) (by with_unfolding_all rfl) (by decide) (by rfl) (by decide) (by rfl) ?_); k_dflt lct_toSrc)) | (with_reducible ((with_reducible show wpAny _ _ (call (Value.ref _) _ _) _ _ _); k_dflt (refine' cvUse ?zC9 ?zB9 ?zF9 ?zX9 ?zN9 ?zT9 ?zhk9 ?zhy9 ?zhd9 ?zhu9 ?_; (case zF9 => k_asm); (case zT9 => k_asm); (case zC9 => first | exact f_c4 _ _ _ _ _ _ | exact f_c6 _ _ _ _ _ _ | exact f_c7 _ _ _ _ _ _ | exact f_c8 _ _ _ _ _ _ | exact f_c9 _ _ _ _ _ _); (case zB9 => k_asm); (case zX9 => k_asm); (case zN9 => k_asm); (case zhk9 => first | exact rfl | assumption); (case zhy9 => first | exact trivial | (dsimp only; (repeat' (refine And.intro ?_ ?_)) <;> first | is_list | l_ints | assumption | omega)); (case zhd9 => ktr_room); (case zhu9 => ktr_units)); intro v' h' tk' F' N' k' p'; (first | subst p' | (obtain ⟨_, p'⟩ := p'; subst p') | (obtain ⟨_, _, p'⟩ := p'; subst p')); (try dsimp only); (try k_fold))) | (with_reducible ((with_reducible show wpAny _ _ (subscriptTail _ _ _ _) _ _ _); (with_reducible show wpAny _ _ (subscriptTail _ _ (Value.ref _) (Value.int _ _)) _ _ _); kim_at)) | walk1 | (dsimp only; walk1) | (leave1; walk_say "STEP leave1"; try dsimp only) | fail "no step"))
      all_goals (refine ⟨_, _, rfl, by with_reducible assumption, by with_reducible assumption, by simp only [heldOf, List.getD_cons_zero, List.getD_cons_succ], fun hq => ?_⟩; clear hq; (repeat' (first | (k_unfold; (try dsimp only)) | (k_end; wrow_close) | (with_reducible ((with_reducible show wpAny _ _ (exec (Stmt.Assign _ (PySem.Expr.ListComp _ _ _ _) _) _) _ _ _); k_dflt (refine LCt.Assign_ListComp_T (F₀ := by k_asm) (by rfl) (by with_unfolding_all rfl) (by with_unfolding_all rfl) (by decide) (by rfl) (by decide) (by rfl) (by rfl) (by rfl) ?_); k_dflt lct_toSrc)) | (with_reducible ((with_reducible show wpAny _ _ (eval (PySem.Expr.ListComp _ _ _ _) _) _ _ _); k_dflt (refine LCt.ListComp_T (F₀ := by k_asm) (by with_unfolding_all rfl) (by decide) (by rfl) (by decide) (by rfl) ?_); k_dflt lct_toSrc)) | (with_reducible ((with_reducible show wpAny _ _ (call (Value.ref _) _ _) _ _ _); k_dflt (refine' cvUse ?zC9 ?zB9 ?zF9 ?zX9 ?zN9 ?zT9 ?zhk9 ?zhy9 ?zhd9 ?zhu9 ?_; (case zF9 => k_asm); (case zT9 => k_asm); (case zC9 => first | exact f_c4 _ _ _ _ _ _ | exact f_c6 _ _ _ _ _ _ | exact f_c7 _ _ _ _ _ _ | exact f_c8 _ _ _ _ _ _ | exact f_c9 _ _ _ _ _ _); (case zB9 => k_asm); (case zX9 => k_asm); (case zN9 => k_asm); (case zhk9 => first | exact rfl | assumption); (case zhy9 => first | exact trivial | (dsimp only; (repeat' (refine And.intro ?_ ?_)) <;> first | is_list | l_ints | assumption | omega)); (case zhd9 => ktr_room); (case zhu9 => ktr_units)); intro v' h' tk' F' N' k' p'; (first | subst p' | (obtain ⟨_, p'⟩ := p'; subst p') | (obtain ⟨_, _, p'⟩ := p'; subst p')); (try dsimp only); (try k_fold))) | (with_reducible ((with_reducible show wpAny _ _ (subscriptTail _ _ _ _) _ _ _); (with_reducible show wpAny _ _ (subscriptTail _ _ (Value.ref _) (Value.int _ _)) _ _ _); kim_at)) | walk1 | (dsimp only; walk1) | (leave1; walk_say "STEP leave1"; try dsimp only) | fail "no step")); refine ⟨_, _, rfl, ?_, ?_, ?_⟩)
      all_goals (first | (with_reducible assumption) | exact ⟨_, rfl⟩ | skip)
    case fin2 =>
      refine Hold.mk ?_
      intro ys' hT'; have hI' := intsTwo hT'; clear hT'
      replace hI' : IntsAre ys' (tbs (heldOf w c)) := hI'
      have hlen : (tbs (heldOf w c)).length ≤ 5 := by
        unfold tbs; rw [List.length_map]; exact Nat.le_trans (List.length_filter_le _ _) (by simp)
      by_cases hz : tbs (heldOf w c) = []
      · (repeat' (first | (k_unfold; (try dsimp only)) | (k_end; wrow_close) | (with_reducible ((with_reducible show wpAny _ _ (exec (Stmt.Assign _ (PySem.Expr.ListComp _ _ _ _) _) _) _ _ _); k_dflt (refine LCt.Assign_ListComp_T (F₀ := by k_asm) (by rfl) (by with_unfolding_all rfl) (by with_unfolding_all rfl) (by decide) (by rfl) (by decide) (by rfl) (by rfl) (by rfl) ?_); k_dflt lct_toSrc)) | (with_reducible ((with_reducible show wpAny _ _ (eval (PySem.Expr.ListComp _ _ _ _) _) _ _ _); k_dflt (refine LCt.ListComp_T (F₀ := by k_asm) (by with_unfolding_all rfl) (by decide) (by rfl) (by decide) (by rfl) ?_); k_dflt lct_toSrc)) | (with_reducible ((with_reducible show wpAny _ _ (call (Value.ref _) _ _) _ _ _); k_dflt (refine' cvUse ?zC9 ?zB9 ?zF9 ?zX9 ?zN9 ?zT9 ?zhk9 ?zhy9 ?zhd9 ?zhu9 ?_; (case zF9 => k_asm); (case zT9 => k_asm); (case zC9 => first | exact f_c4 _ _ _ _ _ _ | exact f_c6 _ _ _ _ _ _ | exact f_c7 _ _ _ _ _ _ | exact f_c8 _ _ _ _ _ _ | exact f_c9 _ _ _ _ _ _); (case zB9 => k_asm); (case zX9 => k_asm); (case zN9 => k_asm); (case zhk9 => first | exact rfl | assumption); (case zhy9 => first | exact trivial | (dsimp only; (repeat' (refine And.intro ?_ ?_)) <;> first | is_list | l_ints | assumption | omega)); (case zhd9 => ktr_room); (case zhu9 => ktr_units)); intro v' h' tk' F' N' k' p'; (first | subst p' | (obtain ⟨_, p'⟩ := p'; subst p') | (obtain ⟨_, _, p'⟩ := p'; subst p')); (try dsimp only); (try k_fold))) | (with_reducible ((with_reducible show wpAny _ _ (subscriptTail _ _ _ _) _ _ _); (with_reducible show wpAny _ _ (subscriptTail _ _ (Value.ref _) (Value.int _ _)) _ _ _); kim_at)) | walk1 | (dsimp only; walk1) | (leave1; walk_say "STEP leave1"; try dsimp only) | fail "no step"))
        all_goals (try k_data)
        all_goals (refine hret _ _ _ (frKeep F (Fr.keep (by assumption))) (newsKeep N (Fr.keep (by assumption))) (Fr.keep (by assumption)) ?_)
        all_goals (first | (exact ⟨_, by unfold tbl; rw [if_pos hz]⟩) | (exfalso; contradiction))
      · have hpos : 0 < (tbs (heldOf w c)).length := List.length_pos_iff.mpr hz
        (repeat' (first | (k_unfold; (try dsimp only)) | (k_end; wrow_close) | (with_reducible ((with_reducible show wpAny _ _ (exec (Stmt.Assign _ (PySem.Expr.ListComp _ _ _ _) _) _) _ _ _); k_dflt (refine LCt.Assign_ListComp_T (F₀ := by k_asm) (by rfl) (by with_unfolding_all rfl) (by with_unfolding_all rfl) (by decide) (by rfl) (by decide) (by rfl) (by rfl) (by rfl) ?_); k_dflt lct_toSrc)) | (with_reducible ((with_reducible show wpAny _ _ (eval (PySem.Expr.ListComp _ _ _ _) _) _ _ _); k_dflt (refine LCt.ListComp_T (F₀ := by k_asm) (by with_unfolding_all rfl) (by decide) (by rfl) (by decide) (by rfl) ?_); k_dflt lct_toSrc)) | (with_reducible ((with_reducible show wpAny _ _ (call (Value.ref _) _ _) _ _ _); k_dflt (refine' cvUse ?zC9 ?zB9 ?zF9 ?zX9 ?zN9 ?zT9 ?zhk9 ?zhy9 ?zhd9 ?zhu9 ?_; (case zF9 => k_asm); (case zT9 => k_asm); (case zC9 => first | exact f_c4 _ _ _ _ _ _ | exact f_c6 _ _ _ _ _ _ | exact f_c7 _ _ _ _ _ _ | exact f_c8 _ _ _ _ _ _ | exact f_c9 _ _ _ _ _ _); (case zB9 => k_asm); (case zX9 => k_asm); (case zN9 => k_asm); (case zhk9 => first | exact rfl | assumption); (case zhy9 => first | exact trivial | (dsimp only; (repeat' (refine And.intro ?_ ?_)) <;> first | is_list | l_ints | assumption | omega)); (case zhd9 => ktr_room); (case zhu9 => ktr_units)); intro v' h' tk' F' N' k' p'; (first | subst p' | (obtain ⟨_, p'⟩ := p'; subst p') | (obtain ⟨_, _, p'⟩ := p'; subst p')); (try dsimp only); (try k_fold))) | (with_reducible ((with_reducible show wpAny _ _ (subscriptTail _ _ _ _) _ _ _); (with_reducible show wpAny _ _ (subscriptTail _ _ (Value.ref _) (Value.int _ _)) _ _ _); kim_at)) | walk1 | (dsimp only; walk1) | (leave1; walk_say "STEP leave1"; try dsimp only) | fail "no step"))
        all_goals (try k_data)
        all_goals (refine hret _ _ _ (frKeep F (Fr.keep (by assumption))) (newsKeep N (Fr.keep (by assumption))) (Fr.keep (by assumption)) ?_)
        all_goals (refine ⟨_, congrArg (fun x => Value.int x _) ?_⟩; unfold tbl; rw [if_neg hz])
        · rw [if_pos (by omega)]; rfl
        · rw [if_neg (by omega)]
end
end
-- KTab
noncomputable section
open PySem PySem.W PyProof.Rows PySem.Calls PySem.Spec
set_option Elab.async false
set_option maxRecDepth 100000
set_option maxHeartbeats 8000000
set_option linter.unusedVariables false
noncomputable def besV : List Int := [831, 834, 8205, 8208, 8233, 8239, 8297, 8304, 12271, 12284, 64975, 65008, 65528] ++ [131069, 131072, 917504, 917506, 917535, 917632]
/-- the tables of a sign, with the sets' ints written out -/
noncomputable def heldN (c : Nat) : List Bool := [c4f c, decide ((c : Int) ∈ [65529, 65530, 65531, 65532, 65533]), decide ((c : Int) ∈ rg 12272 12), decide ((c : Int) ∈ [832, 833, 8206, 8207] ++ rg 8234 5 ++ rg 8298 6), decide ((c : Int) ∈ 917505 :: rg 917536 96)]
theorem heldOf_eq (w : World) (c : Nat) : heldOf w c = heldN c := by
  unfold heldOf heldN
  rw [ints6, ints7, ints9, decide_eq_decide.mpr (ints8 w.params (c : Int))]
theorem bes_tbl : ∀ v ∈ besV, (0 ≤ v ∧ v ≤ 1114111) ∧ tbl (heldN v.toNat) = 5 := by decide +kernel
end
section
open LCg LCt
local macro_rules | `(tactic| k_ne) => `(tactic| (refine neN ?_; (try dsimp only); first | exact NeK.out (by with_reducible assumption) | exact Ne.symm (NeK.out (by with_reducible assumption)) | omega))
local macro_rules | `(tactic| k_all) => `(tactic| with_reducible assumption)
local macro_rules | `(tactic| k_lt $h) => `(tactic| (have kq9' := Kept.mk (allLt_of $h); (refine nesSplit (ltK (Kept.out kq9')) ?_; dsimp only [NesArrow]; intros; (try (refine nesArrow_intro ?_; intro _))); clear $h))
-- KFunA
noncomputable section
open PySem PySem.W PyProof.Rows PySem.Calls PySem.Spec
set_option Elab.async false
set_option maxRecDepth 100000
set_option maxHeartbeats 8000000
set_option linter.unusedVariables false
noncomputable section
noncomputable def firstSc : Scope := by
  refine (fun (o : Scope) (_ : fsc 24 = o) => o) ?b ?h
  case h =>
    dsimp only [fsc, pw, PySem.Challenge.pw_yh0002_01, List.getElem?_cons_succ, List.getElem?_cons_zero]
    exact rfl
noncomputable def firstBody : List Stmt := by
  refine (fun (o : List Stmt) (_ : forB ((fb 24).drop 1 |>.take 1) = o) => o) ?b ?h
  case h =>
    dsimp only [forB, fb, pw, PySem.Challenge.pw_yh0002_01, List.getElem?_cons_succ, List.getElem?_cons_zero, List.drop, List.take]
    exact rfl
end
open LCg LCt
section
local macro_rules | `(tactic| walk_at "CompSrcT") => `(tactic| (k_here; refine Hold.out ?_))
local macro_rules | `(tactic| walk_at "CompSrc") => `(tactic| (k_here; refine Hold.out ?_))
theorem newsSubF {h₀ h : Heap} {L : Addr} {l l' : List (Addr × Obj)} (N : News h₀ L h l) (hs : ∀ p ∈ l', p ∈ l) : News h₀ L h l' := fun p hp => N p (hs p hp)
theorem first_turn (w : World) (mean : ExcName → Option Value) (mg mb : PySem.Str → Option Value) (owner : Int) (rd wt : List Int) (rvs tvs : List Value) (u : Tok) (ra ta : Addr) (ho : 0 ≤ owner ∧ owner < 16) (hrl : rd.length = 8) (hrd : ∀ v ∈ rd, 0 ≤ v ∧ v < 4) (htl : wt.length = 8) (htp : ∀ v ∈ wt, 0 ≤ v) (hri : IntsAre rvs rd) (hti : IntsAre tvs wt) {n : Nat} (ih : Kept (∀ (place : Int) (ws : List Int) (wvs : List Value) (t : Tok) (wa : Addr), ws.length + n = 4 → Kept (Diff ws place) → IntsAre wvs ws → CV w mean mg mb 183 [.int place t, .ref wa, .ref ra, .int owner u, .ref ta] (4 * n + 8) (100 * n + 200) (fun h => h.IsList wa wvs.toArray ∧ h.IsList ra rvs.toArray ∧ h.IsList ta tvs.toArray) (fun v _ => v = .bool (firstV rd wt owner n ws place)))) {place R : Int} {ws : List Int} {wvs : List Value} {t tR : Tok} {wa hl : Addr} (hn : ws.length + (n + 1) = 4) (hD : Kept (Diff ws place)) (hwi : IntsAre wvs ws) (hR : Kept (R = 2 * place ∨ R = 2 * place + 1)) (hRb : 0 ≤ R ∧ R < 8)
   {dp un : Nat} {gd : Option (List Code)} {cn : PySem.Str} {cs : Scope} {a : Addr} {ccd : Value} {cl : List (PySem.Str × Addr)} {outer : List Env} {base g h : Heap} {La L : Addr} {m : PySem.Str → Option Value} {gens : Array GenState} {drawn : Drawn} {toks : Nat} {os : OsState} {Q : Flow → Shared → Prop} {E : Value → Shared → Prop} {o1 o2 o3 o4 : Obj} {inn : List (Addr × Obj)} {hvs : Array Value} {hc : Nat} {kv1 : Option Value}
   (B : Below (ktrTop dp un gd cn cs La a ccd cl outer) base (envX cn cs La a ccd cl :: outer) g) (X : (KF w.params).In g) (T : Top vw LW mean mg mb g) (hk : cs.kind = ScopeKind.function) (hd : dp + (4 * (n + 1) + 8) < recursionLimit) (hu : un + (100 * (n + 1) + 200) < cLine)
   (F : Fr g L h m) (N : News g L h ((hl, W.listOf hvs hc) :: (L + 1 + 1 + 1 + 1, o1) :: (L + 1 + 1 + 1, o2) :: (L + 1 + 1, o3) :: (L + 1, o4) :: inn)) (d1 : o1.data = .cell kv1) (d2 : o2.data = .cell (some (.int R tR))) (d3 : o3.data = .cell (some (.ref ta))) (d4 : o4.data = .cell (some (.ref ra)))
   (hwa : g.IsList wa wvs.toArray) (hra : g.IsList ra rvs.toArray) (hta : g.IsList ta tvs.toArray) (hz2 : hvs.size ≤ 2)
   (nk1 : NeK hl (L + 1 + 1 + 1 + 1)) (nk2 : NeK hl (L + 1 + 1 + 1)) (nk3 : NeK hl (L + 1 + 1)) (nk4 : NeK hl (L + 1)) (hin : ∀ p ∈ inn, p.1 ≠ hl) (hin4 : ∀ p ∈ inn, p.1 ≠ (L + 1 + 1 + 1 + 1))
   (hm1 : m (PySem.Str.ofString "place") = some (.int place t)) (hm2 : m (PySem.Str.ofString "walked") = some (.ref wa)) (hm3 : m (PySem.Str.ofString "hers") = some (.ref hl)) (hm4 : m (PySem.Str.ofString "owner") = some (.int owner u))
   (hE : PassesOwn (model pwC w) ((ktrTop dp un gd cn cs La a ccd cl outer).deeper (envOfC (PySem.Str.ofString "_law_first") firstSc L 183 (.ref 182))) (envOfC (PySem.Str.ofString "_law_first") firstSc L 183 (.ref 182)) E)
   (use : ∀ (b : Bool) (h' : Heap) (tk' : Nat) (m' : PySem.Str → Option Value) (o1' : Obj) (kv' : Option Value), b = turnV (firstV rd wt owner n) rd wt ws R → Fr g L h' m' → News g L h' ((hl, W.listOf (hvs.push (.bool b)) (hc + 1)) :: (L + 1 + 1 + 1 + 1, o1') :: (L + 1 + 1 + 1, o2) :: (L + 1 + 1, o3) :: (L + 1, o4) :: inn) → o1'.data = .cell kv' → (∀ y, y ≠ (PySem.Str.ofString "again") → m' y = m y) → Q .next ⟨h', gens, drawn, tk', os⟩) :
   wpAny (model pwC w) ((ktrTop dp un gd cn cs La a ccd cl outer).deeper (envOfC (PySem.Str.ofString "_law_first") firstSc L 183 (.ref 182))) (execs firstBody (envOfC (PySem.Str.ofString "_law_first") firstSc L 183 (.ref 182))) Q E ⟨h, gens, drawn, toks, os⟩ := by
  have hfill : (PySem.Challenge.rw_yh0002_01 = PySem.Challenge.rw_yh0002_01) ∧ KF = KF := by k_fill; exact ⟨rfl, rfl⟩
  clear hfill
  unfold firstBody
  unfold firstSc at *
  dsimp only at hE ⊢
  have hws := hD.out.1
  have hp := hD.out.2.1
  have hwl := hD.out.len
  (repeat' (first | (k_unfold; (try dsimp only)) | (k_end; wrow_close) | (with_reducible ((with_reducible show wpAny _ _ (call (Value.builtin "list.append") _ _) _ _ _); (with_reducible show wpAny _ _ (call (Value.builtin _) [Value.ref _, _]) _ _ _); k_dflt (refine' append_K ?zk19 ?zk29 ?zk39 ?_ ?zz9; (case zk19 => k_asm); (case zk29 => k_asm); (case zk39 => k_upd); (case zz9 => (rw [sizeLine_eq]; omega)); k_whole); intro h' F' N'; (try k_sweep))) | (with_reducible ((with_reducible show LCg.FinA _ _ _ _ _ _ _); (unfold LCg.FinA); intro D' h' tk' F' N' o1'; (refine nesSplit (off1K o1') ?_; dsimp only [NesArrow]; intros; (try (refine nesArrow_intro ?_; intro _))); clear o1'; (try simp only [List.nil_append, List.cons_append] at N'); (try dsimp only))) | (with_reducible ((with_reducible show LCg.FinE _ _ _ _ _ _ _); (unfold LCg.FinE); intro D' h' tk' F' N' o1'; (refine nesSplit (off1K o1') ?_; dsimp only [NesArrow]; intros; (try (refine nesArrow_intro ?_; intro _))); clear o1'; (try simp only [List.nil_append, List.cons_append] at N'); (try dsimp only))) | (with_reducible ((with_reducible show wpAny _ _ (eval (PySem.Expr.Name _ _) _) _ _ _); k_dflt (refine' nameX_L ?zF9 ?zv9 ?_ ?za9 ?zb9; (case zF9 => k_asm); (case za9 => rfl); (case zb9 => rfl); (case zv9 => first | with_reducible assumption | ((try dsimp only); first | with_reducible assumption | (refine (if_neg (by decide)).trans ?_; with_reducible assumption) | (refine (if_neg (by decide)).trans ((if_neg (by decide)).trans ?_); with_reducible assumption) | (refine (if_neg (by decide)).trans ((if_neg (by decide)).trans ((if_neg (by decide)).trans ?_)); with_reducible assumption))); k_whole))) | (with_reducible ((with_reducible show wpAny _ _ (compareOp CmpOp.NotIn (Value.bool _) (Value.ref _)) _ _ _); k_dflt (refine' notin_bools ?zk19 ?zk29 ?_; (case zk19 => k_asm); (case zk29 => (repeat (first | exact List.Mem.head _ | apply List.Mem.tail)))))) | (with_reducible ((with_reducible show wpAny _ _ (compareOp CmpOp.In (Value.bool _) (Value.ref _)) _ _ _); k_dflt (refine' in_bools ?zk19 ?zk29 ?_; (case zk19 => k_asm); (case zk29 => (repeat (first | exact List.Mem.head _ | apply List.Mem.tail)))))) | (with_reducible ((with_reducible show wpAny _ _ (call (Value.builtin "max") _ _) _ _ _); k_dflt (refine' kso_max ?zk19 ?zk29 ?zk39 ?zk49 ?zk59 ?zk69 ?_; (case zk19 => k_asm); (case zk29 => k_asm); (case zk39 => kso_list); (case zk49 => assumption); (case zk59 => assumption); (case zk69 => with_unfolding_all rfl)); intro h' M' t' k' F' N' a' b'; replace a' := mxL_eq' a' (Kept.out (by assumption)) b'; clear b')) | (with_reducible ((with_reducible show wpAny _ _ (exec (Stmt.If _ _ _ _) _) _ _ _); (fail_if_success (have hF9 : Flag := by assumption)); refine Hold.out ?_)) | (with_reducible ((with_reducible show wpAny _ _ (call (Value.ref _) _ _) _ _ _); refine Hold.out ?_)) | (with_reducible ((with_reducible show wpAny _ _ (exec (Stmt.Assign _ (PySem.Expr.ListComp _ _ _ _) _) _) _ _ _); (with_reducible show wpAny _ _ (exec (Stmt.Assign _ (PySem.Expr.ListComp _ [⟨_, _, [], _⟩] _ _) _) _) _ _ _); k_dflt (refine LCg.Assign_ListComp_U (F₀ := by k_asm) (by rfl) (by with_unfolding_all rfl) (by with_unfolding_all rfl) (by decide) (by rfl) (by decide) (by rfl) (by rfl) (by rfl) ?_); k_dflt lcg_toSrc)) | (with_reducible ((with_reducible show wpAny _ _ (exec (Stmt.Assign _ (PySem.Expr.ListComp _ _ _ _) _) _) _ _ _); (with_reducible show wpAny _ _ (exec (Stmt.Assign _ (PySem.Expr.ListComp _ [⟨_, _, [_], _⟩] _ _) _) _) _ _ _); k_dflt (refine LCt.Assign_ListComp_T (F₀ := by k_asm) (by rfl) (by with_unfolding_all rfl) (by with_unfolding_all rfl) (by decide) (by rfl) (by decide) (by rfl) (by rfl) (by rfl) ?_); k_dflt lct_toSrc)) | (with_reducible ((with_reducible show wpAny _ _ (eval (PySem.Expr.ListComp _ _ _ _) _) _ _ _); (with_reducible show wpAny _ _ (eval (PySem.Expr.ListComp _ [⟨_, _, [], _⟩] _ _) _) _ _ _); k_dflt (refine LCg.ListComp_U (F₀ := by k_asm) (by with_unfolding_all rfl) (by decide) (by rfl) (by decide) (by rfl) ?_); k_dflt lcg_toSrc)) | (with_reducible ((with_reducible show wpAny _ _ (eval (PySem.Expr.ListComp _ _ _ _) _) _ _ _); (with_reducible show wpAny _ _ (eval (PySem.Expr.ListComp _ [⟨_, _, [_], _⟩] _ _) _) _ _ _); k_dflt (refine LCt.ListComp_T (F₀ := by k_asm) (by with_unfolding_all rfl) (by decide) (by rfl) (by decide) (by rfl) ?_); k_dflt lct_toSrc)) | walk1 | (dsimp only; walk1) | (leave1; walk_say "STEP leave1"; try dsimp only) | fail "no step"))
  refine Hold.mk ?_
  have say1 : Say 1 (agP rd (ws ++ [R]) (R)) := ⟨⟩
  have say2 : Say 1 (fun (i : Nat) (y : Value) => ∃ t, y = Value.int ((0 : Int) + (i : Int)) t) := ⟨⟩
  refine' LCt.CompSrcT.range (by rfl) (by k_asm) (by k_asm) (by assumption) ?hsm ?hn ?hsz ?hrest
  case hn => exact rangeSize_nat _ _
  case hsm => (exact small_one (by omega) (by omega) (by (try simp only [List.length_append, List.length_cons, List.length_nil]); omega) (by (try simp only [List.length_append, List.length_cons, List.length_nil]); omega))
  case hsz => (rw [sizeLine_eq]; (try simp only [List.length_append, List.length_cons, List.length_nil]); omega)
  intro g'
  refine restT_say 1 (by assumption) (by assumption) trivial ?step ?fin
  case step =>
    refine Hold.mk ?_
    intro i' v' I' oI' C' oC' D' ys' m' h' tk' E' hi' hv' hC' hx' F' N' off' ne'
    obtain ⟨t', e'⟩ := hv'; subst e'
    (repeat' (first | (k_unfold; (try dsimp only)) | (k_end; wrow_close) | (with_reducible ((with_reducible show wpAny _ _ (call (Value.builtin "list.append") _ _) _ _ _); (with_reducible show wpAny _ _ (call (Value.builtin _) [Value.ref _, _]) _ _ _); k_dflt (refine' append_K ?zk19 ?zk29 ?zk39 ?_ ?zz9; (case zk19 => k_asm); (case zk29 => k_asm); (case zk39 => k_upd); (case zz9 => (rw [sizeLine_eq]; omega)); k_whole); intro h' F' N'; (try k_sweep))) | (with_reducible ((with_reducible show LCg.FinA _ _ _ _ _ _ _); (unfold LCg.FinA); intro D' h' tk' F' N' o1'; (refine nesSplit (off1K o1') ?_; dsimp only [NesArrow]; intros; (try (refine nesArrow_intro ?_; intro _))); clear o1'; (try simp only [List.nil_append, List.cons_append] at N'); (try dsimp only))) | (with_reducible ((with_reducible show LCg.FinE _ _ _ _ _ _ _); (unfold LCg.FinE); intro D' h' tk' F' N' o1'; (refine nesSplit (off1K o1') ?_; dsimp only [NesArrow]; intros; (try (refine nesArrow_intro ?_; intro _))); clear o1'; (try simp only [List.nil_append, List.cons_append] at N'); (try dsimp only))) | (with_reducible ((with_reducible show wpAny _ _ (eval (PySem.Expr.Name _ _) _) _ _ _); k_dflt (refine' nameX_L ?zF9 ?zv9 ?_ ?za9 ?zb9; (case zF9 => k_asm); (case za9 => rfl); (case zb9 => rfl); (case zv9 => first | with_reducible assumption | ((try dsimp only); first | with_reducible assumption | (refine (if_neg (by decide)).trans ?_; with_reducible assumption) | (refine (if_neg (by decide)).trans ((if_neg (by decide)).trans ?_); with_reducible assumption) | (refine (if_neg (by decide)).trans ((if_neg (by decide)).trans ((if_neg (by decide)).trans ?_)); with_reducible assumption))); k_whole))) | (with_reducible ((with_reducible show wpAny _ _ (compareOp CmpOp.NotIn (Value.bool _) (Value.ref _)) _ _ _); k_dflt (refine' notin_bools ?zk19 ?zk29 ?_; (case zk19 => k_asm); (case zk29 => (repeat (first | exact List.Mem.head _ | apply List.Mem.tail)))))) | (with_reducible ((with_reducible show wpAny _ _ (compareOp CmpOp.In (Value.bool _) (Value.ref _)) _ _ _); k_dflt (refine' in_bools ?zk19 ?zk29 ?_; (case zk19 => k_asm); (case zk29 => (repeat (first | exact List.Mem.head _ | apply List.Mem.tail)))))) | (with_reducible ((with_reducible show wpAny _ _ (call (Value.builtin "max") _ _) _ _ _); k_dflt (refine' kso_max ?zk19 ?zk29 ?zk39 ?zk49 ?zk59 ?zk69 ?_; (case zk19 => k_asm); (case zk29 => k_asm); (case zk39 => kso_list); (case zk49 => assumption); (case zk59 => assumption); (case zk69 => with_unfolding_all rfl)); intro h' M' t' k' F' N' a' b'; replace a' := mxL_eq' a' (Kept.out (by assumption)) b'; clear b')) | (with_reducible ((with_reducible show wpAny _ _ (exec (Stmt.If _ _ _ _) _) _ _ _); (fail_if_success (have hF9 : Flag := by assumption)); refine Hold.out ?_)) | (with_reducible ((with_reducible show wpAny _ _ (call (Value.ref _) _ _) _ _ _); refine Hold.out ?_)) | (with_reducible ((with_reducible show wpAny _ _ (exec (Stmt.Assign _ (PySem.Expr.ListComp _ _ _ _) _) _) _ _ _); (with_reducible show wpAny _ _ (exec (Stmt.Assign _ (PySem.Expr.ListComp _ [⟨_, _, [], _⟩] _ _) _) _) _ _ _); k_dflt (refine LCg.Assign_ListComp_U (F₀ := by k_asm) (by rfl) (by with_unfolding_all rfl) (by with_unfolding_all rfl) (by decide) (by rfl) (by decide) (by rfl) (by rfl) (by rfl) ?_); k_dflt lcg_toSrc)) | (with_reducible ((with_reducible show wpAny _ _ (exec (Stmt.Assign _ (PySem.Expr.ListComp _ _ _ _) _) _) _ _ _); (with_reducible show wpAny _ _ (exec (Stmt.Assign _ (PySem.Expr.ListComp _ [⟨_, _, [_], _⟩] _ _) _) _) _ _ _); k_dflt (refine LCt.Assign_ListComp_T (F₀ := by k_asm) (by rfl) (by with_unfolding_all rfl) (by with_unfolding_all rfl) (by decide) (by rfl) (by decide) (by rfl) (by rfl) (by rfl) ?_); k_dflt lct_toSrc)) | (with_reducible ((with_reducible show wpAny _ _ (eval (PySem.Expr.ListComp _ _ _ _) _) _ _ _); (with_reducible show wpAny _ _ (eval (PySem.Expr.ListComp _ [⟨_, _, [], _⟩] _ _) _) _ _ _); k_dflt (refine LCg.ListComp_U (F₀ := by k_asm) (by with_unfolding_all rfl) (by decide) (by rfl) (by decide) (by rfl) ?_); k_dflt lcg_toSrc)) | (with_reducible ((with_reducible show wpAny _ _ (eval (PySem.Expr.ListComp _ _ _ _) _) _ _ _); (with_reducible show wpAny _ _ (eval (PySem.Expr.ListComp _ [⟨_, _, [_], _⟩] _ _) _) _ _ _); k_dflt (refine LCt.ListComp_T (F₀ := by k_asm) (by with_unfolding_all rfl) (by decide) (by rfl) (by decide) (by rfl) ?_); k_dflt lct_toSrc)) | walk1 | (dsimp only; walk1) | (leave1; walk_say "STEP leave1"; try dsimp only) | fail "no step"))
    all_goals (refine ⟨_, _, rfl, by with_reducible assumption, by with_reducible assumption, rfl, fun hq => ?_⟩; clear hq; (repeat' (first | (k_unfold; (try dsimp only)) | (k_end; wrow_close) | (with_reducible ((with_reducible show wpAny _ _ (call (Value.builtin "list.append") _ _) _ _ _); (with_reducible show wpAny _ _ (call (Value.builtin _) [Value.ref _, _]) _ _ _); k_dflt (refine' append_K ?zk19 ?zk29 ?zk39 ?_ ?zz9; (case zk19 => k_asm); (case zk29 => k_asm); (case zk39 => k_upd); (case zz9 => (rw [sizeLine_eq]; omega)); k_whole); intro h' F' N'; (try k_sweep))) | (with_reducible ((with_reducible show LCg.FinA _ _ _ _ _ _ _); (unfold LCg.FinA); intro D' h' tk' F' N' o1'; (refine nesSplit (off1K o1') ?_; dsimp only [NesArrow]; intros; (try (refine nesArrow_intro ?_; intro _))); clear o1'; (try simp only [List.nil_append, List.cons_append] at N'); (try dsimp only))) | (with_reducible ((with_reducible show LCg.FinE _ _ _ _ _ _ _); (unfold LCg.FinE); intro D' h' tk' F' N' o1'; (refine nesSplit (off1K o1') ?_; dsimp only [NesArrow]; intros; (try (refine nesArrow_intro ?_; intro _))); clear o1'; (try simp only [List.nil_append, List.cons_append] at N'); (try dsimp only))) | (with_reducible ((with_reducible show wpAny _ _ (eval (PySem.Expr.Name _ _) _) _ _ _); k_dflt (refine' nameX_L ?zF9 ?zv9 ?_ ?za9 ?zb9; (case zF9 => k_asm); (case za9 => rfl); (case zb9 => rfl); (case zv9 => first | with_reducible assumption | ((try dsimp only); first | with_reducible assumption | (refine (if_neg (by decide)).trans ?_; with_reducible assumption) | (refine (if_neg (by decide)).trans ((if_neg (by decide)).trans ?_); with_reducible assumption) | (refine (if_neg (by decide)).trans ((if_neg (by decide)).trans ((if_neg (by decide)).trans ?_)); with_reducible assumption))); k_whole))) | (with_reducible ((with_reducible show wpAny _ _ (compareOp CmpOp.NotIn (Value.bool _) (Value.ref _)) _ _ _); k_dflt (refine' notin_bools ?zk19 ?zk29 ?_; (case zk19 => k_asm); (case zk29 => (repeat (first | exact List.Mem.head _ | apply List.Mem.tail)))))) | (with_reducible ((with_reducible show wpAny _ _ (compareOp CmpOp.In (Value.bool _) (Value.ref _)) _ _ _); k_dflt (refine' in_bools ?zk19 ?zk29 ?_; (case zk19 => k_asm); (case zk29 => (repeat (first | exact List.Mem.head _ | apply List.Mem.tail)))))) | (with_reducible ((with_reducible show wpAny _ _ (call (Value.builtin "max") _ _) _ _ _); k_dflt (refine' kso_max ?zk19 ?zk29 ?zk39 ?zk49 ?zk59 ?zk69 ?_; (case zk19 => k_asm); (case zk29 => k_asm); (case zk39 => kso_list); (case zk49 => assumption); (case zk59 => assumption); (case zk69 => with_unfolding_all rfl)); intro h' M' t' k' F' N' a' b'; replace a' := mxL_eq' a' (Kept.out (by assumption)) b'; clear b')) | (with_reducible ((with_reducible show wpAny _ _ (exec (Stmt.If _ _ _ _) _) _ _ _); (fail_if_success (have hF9 : Flag := by assumption)); refine Hold.out ?_)) | (with_reducible ((with_reducible show wpAny _ _ (call (Value.ref _) _ _) _ _ _); refine Hold.out ?_)) | (with_reducible ((with_reducible show wpAny _ _ (exec (Stmt.Assign _ (PySem.Expr.ListComp _ _ _ _) _) _) _ _ _); (with_reducible show wpAny _ _ (exec (Stmt.Assign _ (PySem.Expr.ListComp _ [⟨_, _, [], _⟩] _ _) _) _) _ _ _); k_dflt (refine LCg.Assign_ListComp_U (F₀ := by k_asm) (by rfl) (by with_unfolding_all rfl) (by with_unfolding_all rfl) (by decide) (by rfl) (by decide) (by rfl) (by rfl) (by rfl) ?_); k_dflt lcg_toSrc)) | (with_reducible ((with_reducible show wpAny _ _ (exec (Stmt.Assign _ (PySem.Expr.ListComp _ _ _ _) _) _) _ _ _); (with_reducible show wpAny _ _ (exec (Stmt.Assign _ (PySem.Expr.ListComp _ [⟨_, _, [_], _⟩] _ _) _) _) _ _ _); k_dflt (refine LCt.Assign_ListComp_T (F₀ := by k_asm) (by rfl) (by with_unfolding_all rfl) (by with_unfolding_all rfl) (by decide) (by rfl) (by decide) (by rfl) (by rfl) (by rfl) ?_); k_dflt lct_toSrc)) | (with_reducible ((with_reducible show wpAny _ _ (eval (PySem.Expr.ListComp _ _ _ _) _) _ _ _); (with_reducible show wpAny _ _ (eval (PySem.Expr.ListComp _ [⟨_, _, [], _⟩] _ _) _) _ _ _); k_dflt (refine LCg.ListComp_U (F₀ := by k_asm) (by with_unfolding_all rfl) (by decide) (by rfl) (by decide) (by rfl) ?_); k_dflt lcg_toSrc)) | (with_reducible ((with_reducible show wpAny _ _ (eval (PySem.Expr.ListComp _ _ _ _) _) _ _ _); (with_reducible show wpAny _ _ (eval (PySem.Expr.ListComp _ [⟨_, _, [_], _⟩] _ _) _) _ _ _); k_dflt (refine LCt.ListComp_T (F₀ := by k_asm) (by with_unfolding_all rfl) (by decide) (by rfl) (by decide) (by rfl) ?_); k_dflt lct_toSrc)) | walk1 | (dsimp only; walk1) | (leave1; walk_say "STEP leave1"; try dsimp only) | fail "no step")); exact ⟨_, _, rfl, by with_reducible assumption, by with_reducible assumption, ⟨_, rfl⟩⟩)
  clear say1 say2
  refine Hold.mk ?_
  intro ys' hT'; have hI' := intsTwo hT'; clear hT'
  replace hI' : IntsAre ys' (agL rd ws (R)) := hI'
  obtain ⟨al, hal⟩ : ∃ al, Kept (al = agL rd ws (R)) := ⟨_, ⟨rfl⟩⟩
  rw [← hal.out] at hI'
  have hlen : al.length ≤ 4 := by
    rw [hal.out]; unfold agL; rw [List.length_map]; refine Nat.le_trans (List.length_filter_le _ _) ?_
    rw [List.length_range]; omega
  have hal0 : ∀ v ∈ al, 0 ≤ v ∧ v ≤ ws.length := by
    intro v hv; rw [hal.out] at hv; unfold agL at hv
    obtain ⟨k, hk, rfl⟩ := List.mem_map.mp hv
    have := List.mem_range.mp (List.mem_filter.mp hk).1
    omega
  (repeat' (first | (k_unfold; (try dsimp only)) | (k_end; wrow_close) | (with_reducible ((with_reducible show wpAny _ _ (call (Value.builtin "list.append") _ _) _ _ _); (with_reducible show wpAny _ _ (call (Value.builtin _) [Value.ref _, _]) _ _ _); k_dflt (refine' append_K ?zk19 ?zk29 ?zk39 ?_ ?zz9; (case zk19 => k_asm); (case zk29 => k_asm); (case zk39 => k_upd); (case zz9 => (rw [sizeLine_eq]; omega)); k_whole); intro h' F' N'; (try k_sweep))) | (with_reducible ((with_reducible show LCg.FinA _ _ _ _ _ _ _); (unfold LCg.FinA); intro D' h' tk' F' N' o1'; (refine nesSplit (off1K o1') ?_; dsimp only [NesArrow]; intros; (try (refine nesArrow_intro ?_; intro _))); clear o1'; (try simp only [List.nil_append, List.cons_append] at N'); (try dsimp only))) | (with_reducible ((with_reducible show LCg.FinE _ _ _ _ _ _ _); (unfold LCg.FinE); intro D' h' tk' F' N' o1'; (refine nesSplit (off1K o1') ?_; dsimp only [NesArrow]; intros; (try (refine nesArrow_intro ?_; intro _))); clear o1'; (try simp only [List.nil_append, List.cons_append] at N'); (try dsimp only))) | (with_reducible ((with_reducible show wpAny _ _ (eval (PySem.Expr.Name _ _) _) _ _ _); k_dflt (refine' nameX_L ?zF9 ?zv9 ?_ ?za9 ?zb9; (case zF9 => k_asm); (case za9 => rfl); (case zb9 => rfl); (case zv9 => first | with_reducible assumption | ((try dsimp only); first | with_reducible assumption | (refine (if_neg (by decide)).trans ?_; with_reducible assumption) | (refine (if_neg (by decide)).trans ((if_neg (by decide)).trans ?_); with_reducible assumption) | (refine (if_neg (by decide)).trans ((if_neg (by decide)).trans ((if_neg (by decide)).trans ?_)); with_reducible assumption))); k_whole))) | (with_reducible ((with_reducible show wpAny _ _ (compareOp CmpOp.NotIn (Value.bool _) (Value.ref _)) _ _ _); k_dflt (refine' notin_bools ?zk19 ?zk29 ?_; (case zk19 => k_asm); (case zk29 => (repeat (first | exact List.Mem.head _ | apply List.Mem.tail)))))) | (with_reducible ((with_reducible show wpAny _ _ (compareOp CmpOp.In (Value.bool _) (Value.ref _)) _ _ _); k_dflt (refine' in_bools ?zk19 ?zk29 ?_; (case zk19 => k_asm); (case zk29 => (repeat (first | exact List.Mem.head _ | apply List.Mem.tail)))))) | (with_reducible ((with_reducible show wpAny _ _ (call (Value.builtin "max") _ _) _ _ _); k_dflt (refine' kso_max ?zk19 ?zk29 ?zk39 ?zk49 ?zk59 ?zk69 ?_; (case zk19 => k_asm); (case zk29 => k_asm); (case zk39 => kso_list); (case zk49 => assumption); (case zk59 => assumption); (case zk69 => with_unfolding_all rfl)); intro h' M' t' k' F' N' a' b'; replace a' := mxL_eq' a' (Kept.out (by assumption)) b'; clear b')) | (with_reducible ((with_reducible show wpAny _ _ (exec (Stmt.If _ _ _ _) _) _ _ _); (fail_if_success (have hF9 : Flag := by assumption)); refine Hold.out ?_)) | (with_reducible ((with_reducible show wpAny _ _ (call (Value.ref _) _ _) _ _ _); refine Hold.out ?_)) | (with_reducible ((with_reducible show wpAny _ _ (exec (Stmt.Assign _ (PySem.Expr.ListComp _ _ _ _) _) _) _ _ _); (with_reducible show wpAny _ _ (exec (Stmt.Assign _ (PySem.Expr.ListComp _ [⟨_, _, [], _⟩] _ _) _) _) _ _ _); k_dflt (refine LCg.Assign_ListComp_U (F₀ := by k_asm) (by rfl) (by with_unfolding_all rfl) (by with_unfolding_all rfl) (by decide) (by rfl) (by decide) (by rfl) (by rfl) (by rfl) ?_); k_dflt lcg_toSrc)) | (with_reducible ((with_reducible show wpAny _ _ (exec (Stmt.Assign _ (PySem.Expr.ListComp _ _ _ _) _) _) _ _ _); (with_reducible show wpAny _ _ (exec (Stmt.Assign _ (PySem.Expr.ListComp _ [⟨_, _, [_], _⟩] _ _) _) _) _ _ _); k_dflt (refine LCt.Assign_ListComp_T (F₀ := by k_asm) (by rfl) (by with_unfolding_all rfl) (by with_unfolding_all rfl) (by decide) (by rfl) (by decide) (by rfl) (by rfl) (by rfl) ?_); k_dflt lct_toSrc)) | (with_reducible ((with_reducible show wpAny _ _ (eval (PySem.Expr.ListComp _ _ _ _) _) _ _ _); (with_reducible show wpAny _ _ (eval (PySem.Expr.ListComp _ [⟨_, _, [], _⟩] _ _) _) _ _ _); k_dflt (refine LCg.ListComp_U (F₀ := by k_asm) (by with_unfolding_all rfl) (by decide) (by rfl) (by decide) (by rfl) ?_); k_dflt lcg_toSrc)) | (with_reducible ((with_reducible show wpAny _ _ (eval (PySem.Expr.ListComp _ _ _ _) _) _ _ _); (with_reducible show wpAny _ _ (eval (PySem.Expr.ListComp _ [⟨_, _, [_], _⟩] _ _) _) _ _ _); k_dflt (refine LCt.ListComp_T (F₀ := by k_asm) (by with_unfolding_all rfl) (by decide) (by rfl) (by decide) (by rfl) ?_); k_dflt lct_toSrc)) | walk1 | (dsimp only; walk1) | (leave1; walk_say "STEP leave1"; try dsimp only) | fail "no step"))
  refine Hold.mk ?_
  have flag : Flag := ⟨⟩
  by_cases hz : al = []
  · (repeat' (first | (k_unfold; (try dsimp only)) | (k_end; wrow_close) | (with_reducible ((with_reducible show wpAny _ _ (call (Value.builtin "list.append") _ _) _ _ _); (with_reducible show wpAny _ _ (call (Value.builtin _) [Value.ref _, _]) _ _ _); k_dflt (refine' append_K ?zk19 ?zk29 ?zk39 ?_ ?zz9; (case zk19 => k_asm); (case zk29 => k_asm); (case zk39 => k_upd); (case zz9 => (rw [sizeLine_eq]; omega)); k_whole); intro h' F' N'; (try k_sweep))) | (with_reducible ((with_reducible show LCg.FinA _ _ _ _ _ _ _); (unfold LCg.FinA); intro D' h' tk' F' N' o1'; (refine nesSplit (off1K o1') ?_; dsimp only [NesArrow]; intros; (try (refine nesArrow_intro ?_; intro _))); clear o1'; (try simp only [List.nil_append, List.cons_append] at N'); (try dsimp only))) | (with_reducible ((with_reducible show LCg.FinE _ _ _ _ _ _ _); (unfold LCg.FinE); intro D' h' tk' F' N' o1'; (refine nesSplit (off1K o1') ?_; dsimp only [NesArrow]; intros; (try (refine nesArrow_intro ?_; intro _))); clear o1'; (try simp only [List.nil_append, List.cons_append] at N'); (try dsimp only))) | (with_reducible ((with_reducible show wpAny _ _ (eval (PySem.Expr.Name _ _) _) _ _ _); k_dflt (refine' nameX_L ?zF9 ?zv9 ?_ ?za9 ?zb9; (case zF9 => k_asm); (case za9 => rfl); (case zb9 => rfl); (case zv9 => first | with_reducible assumption | ((try dsimp only); first | with_reducible assumption | (refine (if_neg (by decide)).trans ?_; with_reducible assumption) | (refine (if_neg (by decide)).trans ((if_neg (by decide)).trans ?_); with_reducible assumption) | (refine (if_neg (by decide)).trans ((if_neg (by decide)).trans ((if_neg (by decide)).trans ?_)); with_reducible assumption))); k_whole))) | (with_reducible ((with_reducible show wpAny _ _ (compareOp CmpOp.NotIn (Value.bool _) (Value.ref _)) _ _ _); k_dflt (refine' notin_bools ?zk19 ?zk29 ?_; (case zk19 => k_asm); (case zk29 => (repeat (first | exact List.Mem.head _ | apply List.Mem.tail)))))) | (with_reducible ((with_reducible show wpAny _ _ (compareOp CmpOp.In (Value.bool _) (Value.ref _)) _ _ _); k_dflt (refine' in_bools ?zk19 ?zk29 ?_; (case zk19 => k_asm); (case zk29 => (repeat (first | exact List.Mem.head _ | apply List.Mem.tail)))))) | (with_reducible ((with_reducible show wpAny _ _ (call (Value.builtin "max") _ _) _ _ _); k_dflt (refine' kso_max ?zk19 ?zk29 ?zk39 ?zk49 ?zk59 ?zk69 ?_; (case zk19 => k_asm); (case zk29 => k_asm); (case zk39 => kso_list); (case zk49 => assumption); (case zk59 => assumption); (case zk69 => with_unfolding_all rfl)); intro h' M' t' k' F' N' a' b'; replace a' := mxL_eq' a' (Kept.out (by assumption)) b'; clear b')) | (with_reducible ((with_reducible show wpAny _ _ (exec (Stmt.If _ _ _ _) _) _ _ _); (fail_if_success (have hF9 : Flag := by assumption)); refine Hold.out ?_)) | (with_reducible ((with_reducible show wpAny _ _ (call (Value.ref _) _ _) _ _ _); refine Hold.out ?_)) | (with_reducible ((with_reducible show wpAny _ _ (exec (Stmt.Assign _ (PySem.Expr.ListComp _ _ _ _) _) _) _ _ _); (with_reducible show wpAny _ _ (exec (Stmt.Assign _ (PySem.Expr.ListComp _ [⟨_, _, [], _⟩] _ _) _) _) _ _ _); k_dflt (refine LCg.Assign_ListComp_U (F₀ := by k_asm) (by rfl) (by with_unfolding_all rfl) (by with_unfolding_all rfl) (by decide) (by rfl) (by decide) (by rfl) (by rfl) (by rfl) ?_); k_dflt lcg_toSrc)) | (with_reducible ((with_reducible show wpAny _ _ (exec (Stmt.Assign _ (PySem.Expr.ListComp _ _ _ _) _) _) _ _ _); (with_reducible show wpAny _ _ (exec (Stmt.Assign _ (PySem.Expr.ListComp _ [⟨_, _, [_], _⟩] _ _) _) _) _ _ _); k_dflt (refine LCt.Assign_ListComp_T (F₀ := by k_asm) (by rfl) (by with_unfolding_all rfl) (by with_unfolding_all rfl) (by decide) (by rfl) (by decide) (by rfl) (by rfl) (by rfl) ?_); k_dflt lct_toSrc)) | (with_reducible ((with_reducible show wpAny _ _ (eval (PySem.Expr.ListComp _ _ _ _) _) _ _ _); (with_reducible show wpAny _ _ (eval (PySem.Expr.ListComp _ [⟨_, _, [], _⟩] _ _) _) _ _ _); k_dflt (refine LCg.ListComp_U (F₀ := by k_asm) (by with_unfolding_all rfl) (by decide) (by rfl) (by decide) (by rfl) ?_); k_dflt lcg_toSrc)) | (with_reducible ((with_reducible show wpAny _ _ (eval (PySem.Expr.ListComp _ _ _ _) _) _ _ _); (with_reducible show wpAny _ _ (eval (PySem.Expr.ListComp _ [⟨_, _, [_], _⟩] _ _) _) _ _ _); k_dflt (refine LCt.ListComp_T (F₀ := by k_asm) (by with_unfolding_all rfl) (by decide) (by rfl) (by decide) (by rfl) ?_); k_dflt lct_toSrc)) | walk1 | (dsimp only; walk1) | (leave1; walk_say "STEP leave1"; try dsimp only) | fail "no step"))
    refine Hold.mk ?_
    have hDn : Kept (Diff (ws ++ [R]) (rd.getD (R).toNat 0)) := ⟨hD.out.step (hR.out) hrl hrd (by rw [← hal.out]; exact hz)⟩
    refine' cvUse (ih.out (rd.getD (R).toNat 0) (ws ++ [R]) _ _ _ (by simp only [List.length_append, List.length_singleton]; omega) hDn (by assumption)) ?B ?F ?X ?N ?T ?hk ?hy ?hd ?hu ?_
    case F => k_asm
    case T => k_asm
    case B => k_asm
    case X => k_asm
    case N => k_asm
    case hk => first | exact rfl | assumption
    case hy => (dsimp only; (repeat' (refine And.intro ?_ ?_)) <;> is_list)
    case hd => ktr_room
    case hu => ktr_units
    intro v' h' tk' F' N' k' p'
    subst p'
    (try dsimp only)
    (try k_fold)
    (repeat' (first | (k_unfold; (try dsimp only)) | (k_end; wrow_close) | (with_reducible ((with_reducible show wpAny _ _ (call (Value.builtin "list.append") _ _) _ _ _); (with_reducible show wpAny _ _ (call (Value.builtin _) [Value.ref _, _]) _ _ _); k_dflt (refine' append_K ?zk19 ?zk29 ?zk39 ?_ ?zz9; (case zk19 => k_asm); (case zk29 => k_asm); (case zk39 => k_upd); (case zz9 => (rw [sizeLine_eq]; omega)); k_whole); intro h' F' N'; (try k_sweep))) | (with_reducible ((with_reducible show LCg.FinA _ _ _ _ _ _ _); (unfold LCg.FinA); intro D' h' tk' F' N' o1'; (refine nesSplit (off1K o1') ?_; dsimp only [NesArrow]; intros; (try (refine nesArrow_intro ?_; intro _))); clear o1'; (try simp only [List.nil_append, List.cons_append] at N'); (try dsimp only))) | (with_reducible ((with_reducible show LCg.FinE _ _ _ _ _ _ _); (unfold LCg.FinE); intro D' h' tk' F' N' o1'; (refine nesSplit (off1K o1') ?_; dsimp only [NesArrow]; intros; (try (refine nesArrow_intro ?_; intro _))); clear o1'; (try simp only [List.nil_append, List.cons_append] at N'); (try dsimp only))) | (with_reducible ((with_reducible show wpAny _ _ (eval (PySem.Expr.Name _ _) _) _ _ _); k_dflt (refine' nameX_L ?zF9 ?zv9 ?_ ?za9 ?zb9; (case zF9 => k_asm); (case za9 => rfl); (case zb9 => rfl); (case zv9 => first | with_reducible assumption | ((try dsimp only); first | with_reducible assumption | (refine (if_neg (by decide)).trans ?_; with_reducible assumption) | (refine (if_neg (by decide)).trans ((if_neg (by decide)).trans ?_); with_reducible assumption) | (refine (if_neg (by decide)).trans ((if_neg (by decide)).trans ((if_neg (by decide)).trans ?_)); with_reducible assumption))); k_whole))) | (with_reducible ((with_reducible show wpAny _ _ (compareOp CmpOp.NotIn (Value.bool _) (Value.ref _)) _ _ _); k_dflt (refine' notin_bools ?zk19 ?zk29 ?_; (case zk19 => k_asm); (case zk29 => (repeat (first | exact List.Mem.head _ | apply List.Mem.tail)))))) | (with_reducible ((with_reducible show wpAny _ _ (compareOp CmpOp.In (Value.bool _) (Value.ref _)) _ _ _); k_dflt (refine' in_bools ?zk19 ?zk29 ?_; (case zk19 => k_asm); (case zk29 => (repeat (first | exact List.Mem.head _ | apply List.Mem.tail)))))) | (with_reducible ((with_reducible show wpAny _ _ (call (Value.builtin "max") _ _) _ _ _); k_dflt (refine' kso_max ?zk19 ?zk29 ?zk39 ?zk49 ?zk59 ?zk69 ?_; (case zk19 => k_asm); (case zk29 => k_asm); (case zk39 => kso_list); (case zk49 => assumption); (case zk59 => assumption); (case zk69 => with_unfolding_all rfl)); intro h' M' t' k' F' N' a' b'; replace a' := mxL_eq' a' (Kept.out (by assumption)) b'; clear b')) | (with_reducible ((with_reducible show wpAny _ _ (exec (Stmt.If _ _ _ _) _) _ _ _); (fail_if_success (have hF9 : Flag := by assumption)); refine Hold.out ?_)) | (with_reducible ((with_reducible show wpAny _ _ (call (Value.ref _) _ _) _ _ _); refine Hold.out ?_)) | (with_reducible ((with_reducible show wpAny _ _ (exec (Stmt.Assign _ (PySem.Expr.ListComp _ _ _ _) _) _) _ _ _); (with_reducible show wpAny _ _ (exec (Stmt.Assign _ (PySem.Expr.ListComp _ [⟨_, _, [], _⟩] _ _) _) _) _ _ _); k_dflt (refine LCg.Assign_ListComp_U (F₀ := by k_asm) (by rfl) (by with_unfolding_all rfl) (by with_unfolding_all rfl) (by decide) (by rfl) (by decide) (by rfl) (by rfl) (by rfl) ?_); k_dflt lcg_toSrc)) | (with_reducible ((with_reducible show wpAny _ _ (exec (Stmt.Assign _ (PySem.Expr.ListComp _ _ _ _) _) _) _ _ _); (with_reducible show wpAny _ _ (exec (Stmt.Assign _ (PySem.Expr.ListComp _ [⟨_, _, [_], _⟩] _ _) _) _) _ _ _); k_dflt (refine LCt.Assign_ListComp_T (F₀ := by k_asm) (by rfl) (by with_unfolding_all rfl) (by with_unfolding_all rfl) (by decide) (by rfl) (by decide) (by rfl) (by rfl) (by rfl) ?_); k_dflt lct_toSrc)) | (with_reducible ((with_reducible show wpAny _ _ (eval (PySem.Expr.ListComp _ _ _ _) _) _ _ _); (with_reducible show wpAny _ _ (eval (PySem.Expr.ListComp _ [⟨_, _, [], _⟩] _ _) _) _ _ _); k_dflt (refine LCg.ListComp_U (F₀ := by k_asm) (by with_unfolding_all rfl) (by decide) (by rfl) (by decide) (by rfl) ?_); k_dflt lcg_toSrc)) | (with_reducible ((with_reducible show wpAny _ _ (eval (PySem.Expr.ListComp _ _ _ _) _) _ _ _); (with_reducible show wpAny _ _ (eval (PySem.Expr.ListComp _ [⟨_, _, [_], _⟩] _ _) _) _ _ _); k_dflt (refine LCt.ListComp_T (F₀ := by k_asm) (by with_unfolding_all rfl) (by decide) (by rfl) (by decide) (by rfl) ?_); k_dflt lct_toSrc)) | walk1 | (dsimp only; walk1) | (leave1; walk_say "STEP leave1"; try dsimp only) | fail "no step"))
    try dsimp only
    refine' use _ _ _ _ _ _ ?ub ?uF ?uN ?ud ?um
    case uF => with_reducible assumption
    case uN => ((iterate 5 (refine newsCons (by with_reducible assumption) (by repeat (first | exact List.Mem.head _ | apply List.Mem.tail)) ?_)); exact newsSubF (by with_reducible assumption) (fun p hp => by (repeat (first | exact hp | apply List.Mem.tail))))
    case ud => with_reducible assumption
    case um => (intro y hy; (try dsimp only); exact if_neg hy)
    case ub => (unfold turnV; rw [if_pos (by rw [← hal.out]; exact hz)])
  · have hpos : 0 < al.length := List.length_pos_iff.mpr hz
    have ha0 : 0 ≤ al.getD (Int.toNat 0) 0 ∧ al.getD (Int.toNat 0) 0 ≤ ws.length := hal0 _ (getD_mem hpos)
    have ha1 : 0 ≤ al.getD (Int.toNat 0) 0 := ha0.1
    (repeat' (first | (k_unfold; (try dsimp only)) | (k_end; wrow_close) | (with_reducible ((with_reducible show wpAny _ _ (call (Value.builtin "list.append") _ _) _ _ _); (with_reducible show wpAny _ _ (call (Value.builtin _) [Value.ref _, _]) _ _ _); k_dflt (refine' append_K ?zk19 ?zk29 ?zk39 ?_ ?zz9; (case zk19 => k_asm); (case zk29 => k_asm); (case zk39 => k_upd); (case zz9 => (rw [sizeLine_eq]; omega)); k_whole); intro h' F' N'; (try k_sweep))) | (with_reducible ((with_reducible show LCg.FinA _ _ _ _ _ _ _); (unfold LCg.FinA); intro D' h' tk' F' N' o1'; (refine nesSplit (off1K o1') ?_; dsimp only [NesArrow]; intros; (try (refine nesArrow_intro ?_; intro _))); clear o1'; (try simp only [List.nil_append, List.cons_append] at N'); (try dsimp only))) | (with_reducible ((with_reducible show LCg.FinE _ _ _ _ _ _ _); (unfold LCg.FinE); intro D' h' tk' F' N' o1'; (refine nesSplit (off1K o1') ?_; dsimp only [NesArrow]; intros; (try (refine nesArrow_intro ?_; intro _))); clear o1'; (try simp only [List.nil_append, List.cons_append] at N'); (try dsimp only))) | (with_reducible ((with_reducible show wpAny _ _ (eval (PySem.Expr.Name _ _) _) _ _ _); k_dflt (refine' nameX_L ?zF9 ?zv9 ?_ ?za9 ?zb9; (case zF9 => k_asm); (case za9 => rfl); (case zb9 => rfl); (case zv9 => first | with_reducible assumption | ((try dsimp only); first | with_reducible assumption | (refine (if_neg (by decide)).trans ?_; with_reducible assumption) | (refine (if_neg (by decide)).trans ((if_neg (by decide)).trans ?_); with_reducible assumption) | (refine (if_neg (by decide)).trans ((if_neg (by decide)).trans ((if_neg (by decide)).trans ?_)); with_reducible assumption))); k_whole))) | (with_reducible ((with_reducible show wpAny _ _ (compareOp CmpOp.NotIn (Value.bool _) (Value.ref _)) _ _ _); k_dflt (refine' notin_bools ?zk19 ?zk29 ?_; (case zk19 => k_asm); (case zk29 => (repeat (first | exact List.Mem.head _ | apply List.Mem.tail)))))) | (with_reducible ((with_reducible show wpAny _ _ (compareOp CmpOp.In (Value.bool _) (Value.ref _)) _ _ _); k_dflt (refine' in_bools ?zk19 ?zk29 ?_; (case zk19 => k_asm); (case zk29 => (repeat (first | exact List.Mem.head _ | apply List.Mem.tail)))))) | (with_reducible ((with_reducible show wpAny _ _ (call (Value.builtin "max") _ _) _ _ _); k_dflt (refine' kso_max ?zk19 ?zk29 ?zk39 ?zk49 ?zk59 ?zk69 ?_; (case zk19 => k_asm); (case zk29 => k_asm); (case zk39 => kso_list); (case zk49 => assumption); (case zk59 => assumption); (case zk69 => with_unfolding_all rfl)); intro h' M' t' k' F' N' a' b'; replace a' := mxL_eq' a' (Kept.out (by assumption)) b'; clear b')) | (with_reducible ((with_reducible show wpAny _ _ (exec (Stmt.If _ _ _ _) _) _ _ _); (fail_if_success (have hF9 : Flag := by assumption)); refine Hold.out ?_)) | (with_reducible ((with_reducible show wpAny _ _ (call (Value.ref _) _ _) _ _ _); refine Hold.out ?_)) | (with_reducible ((with_reducible show wpAny _ _ (exec (Stmt.Assign _ (PySem.Expr.ListComp _ _ _ _) _) _) _ _ _); (with_reducible show wpAny _ _ (exec (Stmt.Assign _ (PySem.Expr.ListComp _ [⟨_, _, [], _⟩] _ _) _) _) _ _ _); k_dflt (refine LCg.Assign_ListComp_U (F₀ := by k_asm) (by rfl) (by with_unfolding_all rfl) (by with_unfolding_all rfl) (by decide) (by rfl) (by decide) (by rfl) (by rfl) (by rfl) ?_); k_dflt lcg_toSrc)) | (with_reducible ((with_reducible show wpAny _ _ (exec (Stmt.Assign _ (PySem.Expr.ListComp _ _ _ _) _) _) _ _ _); (with_reducible show wpAny _ _ (exec (Stmt.Assign _ (PySem.Expr.ListComp _ [⟨_, _, [_], _⟩] _ _) _) _) _ _ _); k_dflt (refine LCt.Assign_ListComp_T (F₀ := by k_asm) (by rfl) (by with_unfolding_all rfl) (by with_unfolding_all rfl) (by decide) (by rfl) (by decide) (by rfl) (by rfl) (by rfl) ?_); k_dflt lct_toSrc)) | (with_reducible ((with_reducible show wpAny _ _ (eval (PySem.Expr.ListComp _ _ _ _) _) _ _ _); (with_reducible show wpAny _ _ (eval (PySem.Expr.ListComp _ [⟨_, _, [], _⟩] _ _) _) _ _ _); k_dflt (refine LCg.ListComp_U (F₀ := by k_asm) (by with_unfolding_all rfl) (by decide) (by rfl) (by decide) (by rfl) ?_); k_dflt lcg_toSrc)) | (with_reducible ((with_reducible show wpAny _ _ (eval (PySem.Expr.ListComp _ _ _ _) _) _ _ _); (with_reducible show wpAny _ _ (eval (PySem.Expr.ListComp _ [⟨_, _, [_], _⟩] _ _) _) _ _ _); k_dflt (refine LCt.ListComp_T (F₀ := by k_asm) (by with_unfolding_all rfl) (by decide) (by rfl) (by decide) (by rfl) ?_); k_dflt lct_toSrc)) | walk1 | (dsimp only; walk1) | (leave1; walk_say "STEP leave1"; try dsimp only) | fail "no step"))
    refine Hold.mk ?_
    have say3 : Say 2 (fun (i : Nat) (y : Value) => ∃ t, y = Value.int (wt.getD (((ws ++ [R]).drop (al.getD 0 0).toNat).getD i 0).toNat 0) t) := ⟨⟩
    refine' LCg.CompSrc.ledger (by rfl) (by k_asm) (by k_asm) (by k_mem) ?hsz2 ?hrest2
    case hsz2 => first | size_fits | exact Nat.le_of_ble_eq_true rfl
    intro g2'
    refine restU_say 2 (by assumption) (Or.inr ⟨_, by k_mem, rfl, _, rfl⟩) ?step2 ?fin2
    case step2 =>
      refine Hold.mk ?_
      intro i' v' I' oI' C' oC' D' ys' m' h' tk' E' hi' hv' hC' hx' F' N' off' ne'
      with_reducible rename IntsAre _ (List.drop (al.getD 0 0).toNat (ws ++ [R])) => hIw
      obtain ⟨nv, tv, e', en⟩ := IntsAre.at hIw i' v' (by simpa using hv')
      subst e'
      have hnv : nv = (List.drop (al.getD 0 0).toNat (ws ++ [R])).getD i' 0 := by rw [List.getD_eq_getElem?_getD, en]; rfl
      replace hnv := Kept.mk hnv
      have hnb : 0 ≤ nv ∧ nv < 8 := by
        have hm := List.mem_of_mem_drop (List.mem_of_getElem? en)
        rcases List.mem_append.mp hm with hm | hm
        · exact hws nv hm
        · rw [List.mem_singleton] at hm; omega
      clear en
      (repeat' (first | (k_unfold; (try dsimp only)) | (k_end; wrow_close) | (with_reducible ((with_reducible show wpAny _ _ (call (Value.builtin "list.append") _ _) _ _ _); (with_reducible show wpAny _ _ (call (Value.builtin _) [Value.ref _, _]) _ _ _); k_dflt (refine' append_K ?zk19 ?zk29 ?zk39 ?_ ?zz9; (case zk19 => k_asm); (case zk29 => k_asm); (case zk39 => k_upd); (case zz9 => (rw [sizeLine_eq]; omega)); k_whole); intro h' F' N'; (try k_sweep))) | (with_reducible ((with_reducible show LCg.FinA _ _ _ _ _ _ _); (unfold LCg.FinA); intro D' h' tk' F' N' o1'; (refine nesSplit (off1K o1') ?_; dsimp only [NesArrow]; intros; (try (refine nesArrow_intro ?_; intro _))); clear o1'; (try simp only [List.nil_append, List.cons_append] at N'); (try dsimp only))) | (with_reducible ((with_reducible show LCg.FinE _ _ _ _ _ _ _); (unfold LCg.FinE); intro D' h' tk' F' N' o1'; (refine nesSplit (off1K o1') ?_; dsimp only [NesArrow]; intros; (try (refine nesArrow_intro ?_; intro _))); clear o1'; (try simp only [List.nil_append, List.cons_append] at N'); (try dsimp only))) | (with_reducible ((with_reducible show wpAny _ _ (eval (PySem.Expr.Name _ _) _) _ _ _); k_dflt (refine' nameX_L ?zF9 ?zv9 ?_ ?za9 ?zb9; (case zF9 => k_asm); (case za9 => rfl); (case zb9 => rfl); (case zv9 => first | with_reducible assumption | ((try dsimp only); first | with_reducible assumption | (refine (if_neg (by decide)).trans ?_; with_reducible assumption) | (refine (if_neg (by decide)).trans ((if_neg (by decide)).trans ?_); with_reducible assumption) | (refine (if_neg (by decide)).trans ((if_neg (by decide)).trans ((if_neg (by decide)).trans ?_)); with_reducible assumption))); k_whole))) | (with_reducible ((with_reducible show wpAny _ _ (compareOp CmpOp.NotIn (Value.bool _) (Value.ref _)) _ _ _); k_dflt (refine' notin_bools ?zk19 ?zk29 ?_; (case zk19 => k_asm); (case zk29 => (repeat (first | exact List.Mem.head _ | apply List.Mem.tail)))))) | (with_reducible ((with_reducible show wpAny _ _ (compareOp CmpOp.In (Value.bool _) (Value.ref _)) _ _ _); k_dflt (refine' in_bools ?zk19 ?zk29 ?_; (case zk19 => k_asm); (case zk29 => (repeat (first | exact List.Mem.head _ | apply List.Mem.tail)))))) | (with_reducible ((with_reducible show wpAny _ _ (call (Value.builtin "max") _ _) _ _ _); k_dflt (refine' kso_max ?zk19 ?zk29 ?zk39 ?zk49 ?zk59 ?zk69 ?_; (case zk19 => k_asm); (case zk29 => k_asm); (case zk39 => kso_list); (case zk49 => assumption); (case zk59 => assumption); (case zk69 => with_unfolding_all rfl)); intro h' M' t' k' F' N' a' b'; replace a' := mxL_eq' a' (Kept.out (by assumption)) b'; clear b')) | (with_reducible ((with_reducible show wpAny _ _ (exec (Stmt.If _ _ _ _) _) _ _ _); (fail_if_success (have hF9 : Flag := by assumption)); refine Hold.out ?_)) | (with_reducible ((with_reducible show wpAny _ _ (call (Value.ref _) _ _) _ _ _); refine Hold.out ?_)) | (with_reducible ((with_reducible show wpAny _ _ (exec (Stmt.Assign _ (PySem.Expr.ListComp _ _ _ _) _) _) _ _ _); (with_reducible show wpAny _ _ (exec (Stmt.Assign _ (PySem.Expr.ListComp _ [⟨_, _, [], _⟩] _ _) _) _) _ _ _); k_dflt (refine LCg.Assign_ListComp_U (F₀ := by k_asm) (by rfl) (by with_unfolding_all rfl) (by with_unfolding_all rfl) (by decide) (by rfl) (by decide) (by rfl) (by rfl) (by rfl) ?_); k_dflt lcg_toSrc)) | (with_reducible ((with_reducible show wpAny _ _ (exec (Stmt.Assign _ (PySem.Expr.ListComp _ _ _ _) _) _) _ _ _); (with_reducible show wpAny _ _ (exec (Stmt.Assign _ (PySem.Expr.ListComp _ [⟨_, _, [_], _⟩] _ _) _) _) _ _ _); k_dflt (refine LCt.Assign_ListComp_T (F₀ := by k_asm) (by rfl) (by with_unfolding_all rfl) (by with_unfolding_all rfl) (by decide) (by rfl) (by decide) (by rfl) (by rfl) (by rfl) ?_); k_dflt lct_toSrc)) | (with_reducible ((with_reducible show wpAny _ _ (eval (PySem.Expr.ListComp _ _ _ _) _) _ _ _); (with_reducible show wpAny _ _ (eval (PySem.Expr.ListComp _ [⟨_, _, [], _⟩] _ _) _) _ _ _); k_dflt (refine LCg.ListComp_U (F₀ := by k_asm) (by with_unfolding_all rfl) (by decide) (by rfl) (by decide) (by rfl) ?_); k_dflt lcg_toSrc)) | (with_reducible ((with_reducible show wpAny _ _ (eval (PySem.Expr.ListComp _ _ _ _) _) _ _ _); (with_reducible show wpAny _ _ (eval (PySem.Expr.ListComp _ [⟨_, _, [_], _⟩] _ _) _) _ _ _); k_dflt (refine LCt.ListComp_T (F₀ := by k_asm) (by with_unfolding_all rfl) (by decide) (by rfl) (by decide) (by rfl) ?_); k_dflt lct_toSrc)) | walk1 | (dsimp only; walk1) | (leave1; walk_say "STEP leave1"; try dsimp only) | fail "no step"))
      all_goals exact ⟨_, _, rfl, by with_reducible assumption, by with_reducible assumption, ⟨_, by rw [← hnv.out]⟩⟩
    clear say3
    refine Hold.mk ?_
    intro ys' hT'; have hI' := intsTwo hT'; clear hT'
    have hIl := IntsAre.length (by assumption : IntsAre _ (List.drop (al.getD 0 0).toNat (ws ++ [R])))
    obtain ⟨wl, hwl⟩ : ∃ wl, Kept (wl = wtL wt (ringL rd ws (R))) := ⟨_, ⟨rfl⟩⟩
    replace hI' : IntsAre ys' wl := by
      have e := map_range_getD (fun r => wt.getD r.toNat 0) (List.drop (al.getD 0 0).toNat (ws ++ [R])) (by simpa using hIl)
      simp only [List.size_toArray] at hI'
      rw [e] at hI'
      rw [hwl.out]; unfold wtL ringL; rw [← hal.out]; exact hI'
    have hwlp : 0 < wl.length := by
      rw [hwl.out]; unfold wtL ringL; rw [← hal.out, List.length_map, List.length_drop, List.length_append, List.length_singleton]
      have : (al.getD (Int.toNat 0) 0) = al.getD 0 0 := rfl
      omega
    have hwl0 : Kept (∀ x ∈ wl, 0 ≤ x) := ⟨by
      intro x hx; rw [hwl.out] at hx; unfold wtL at hx
      obtain ⟨r, hr, rfl⟩ := List.mem_map.mp hx
      rw [List.getD_eq_getElem?_getD]
      cases e : wt[r.toNat]? with
      | none => exact Int.le_refl _
      | some x => exact htp x (List.mem_of_getElem? e)⟩
    (repeat' (first | (k_unfold; (try dsimp only)) | (k_end; wrow_close) | (with_reducible ((with_reducible show wpAny _ _ (call (Value.builtin "list.append") _ _) _ _ _); (with_reducible show wpAny _ _ (call (Value.builtin _) [Value.ref _, _]) _ _ _); k_dflt (refine' append_K ?zk19 ?zk29 ?zk39 ?_ ?zz9; (case zk19 => k_asm); (case zk29 => k_asm); (case zk39 => k_upd); (case zz9 => (rw [sizeLine_eq]; omega)); k_whole); intro h' F' N'; (try k_sweep))) | (with_reducible ((with_reducible show LCg.FinA _ _ _ _ _ _ _); (unfold LCg.FinA); intro D' h' tk' F' N' o1'; (refine nesSplit (off1K o1') ?_; dsimp only [NesArrow]; intros; (try (refine nesArrow_intro ?_; intro _))); clear o1'; (try simp only [List.nil_append, List.cons_append] at N'); (try dsimp only))) | (with_reducible ((with_reducible show LCg.FinE _ _ _ _ _ _ _); (unfold LCg.FinE); intro D' h' tk' F' N' o1'; (refine nesSplit (off1K o1') ?_; dsimp only [NesArrow]; intros; (try (refine nesArrow_intro ?_; intro _))); clear o1'; (try simp only [List.nil_append, List.cons_append] at N'); (try dsimp only))) | (with_reducible ((with_reducible show wpAny _ _ (eval (PySem.Expr.Name _ _) _) _ _ _); k_dflt (refine' nameX_L ?zF9 ?zv9 ?_ ?za9 ?zb9; (case zF9 => k_asm); (case za9 => rfl); (case zb9 => rfl); (case zv9 => first | with_reducible assumption | ((try dsimp only); first | with_reducible assumption | (refine (if_neg (by decide)).trans ?_; with_reducible assumption) | (refine (if_neg (by decide)).trans ((if_neg (by decide)).trans ?_); with_reducible assumption) | (refine (if_neg (by decide)).trans ((if_neg (by decide)).trans ((if_neg (by decide)).trans ?_)); with_reducible assumption))); k_whole))) | (with_reducible ((with_reducible show wpAny _ _ (compareOp CmpOp.NotIn (Value.bool _) (Value.ref _)) _ _ _); k_dflt (refine' notin_bools ?zk19 ?zk29 ?_; (case zk19 => k_asm); (case zk29 => (repeat (first | exact List.Mem.head _ | apply List.Mem.tail)))))) | (with_reducible ((with_reducible show wpAny _ _ (compareOp CmpOp.In (Value.bool _) (Value.ref _)) _ _ _); k_dflt (refine' in_bools ?zk19 ?zk29 ?_; (case zk19 => k_asm); (case zk29 => (repeat (first | exact List.Mem.head _ | apply List.Mem.tail)))))) | (with_reducible ((with_reducible show wpAny _ _ (call (Value.builtin "max") _ _) _ _ _); k_dflt (refine' kso_max ?zk19 ?zk29 ?zk39 ?zk49 ?zk59 ?zk69 ?_; (case zk19 => k_asm); (case zk29 => k_asm); (case zk39 => kso_list); (case zk49 => assumption); (case zk59 => assumption); (case zk69 => with_unfolding_all rfl)); intro h' M' t' k' F' N' a' b'; replace a' := mxL_eq' a' (Kept.out (by assumption)) b'; clear b')) | (with_reducible ((with_reducible show wpAny _ _ (exec (Stmt.If _ _ _ _) _) _ _ _); (fail_if_success (have hF9 : Flag := by assumption)); refine Hold.out ?_)) | (with_reducible ((with_reducible show wpAny _ _ (call (Value.ref _) _ _) _ _ _); refine Hold.out ?_)) | (with_reducible ((with_reducible show wpAny _ _ (exec (Stmt.Assign _ (PySem.Expr.ListComp _ _ _ _) _) _) _ _ _); (with_reducible show wpAny _ _ (exec (Stmt.Assign _ (PySem.Expr.ListComp _ [⟨_, _, [], _⟩] _ _) _) _) _ _ _); k_dflt (refine LCg.Assign_ListComp_U (F₀ := by k_asm) (by rfl) (by with_unfolding_all rfl) (by with_unfolding_all rfl) (by decide) (by rfl) (by decide) (by rfl) (by rfl) (by rfl) ?_); k_dflt lcg_toSrc)) | (with_reducible ((with_reducible show wpAny _ _ (exec (Stmt.Assign _ (PySem.Expr.ListComp _ _ _ _) _) _) _ _ _); (with_reducible show wpAny _ _ (exec (Stmt.Assign _ (PySem.Expr.ListComp _ [⟨_, _, [_], _⟩] _ _) _) _) _ _ _); k_dflt (refine LCt.Assign_ListComp_T (F₀ := by k_asm) (by rfl) (by with_unfolding_all rfl) (by with_unfolding_all rfl) (by decide) (by rfl) (by decide) (by rfl) (by rfl) (by rfl) ?_); k_dflt lct_toSrc)) | (with_reducible ((with_reducible show wpAny _ _ (eval (PySem.Expr.ListComp _ _ _ _) _) _ _ _); (with_reducible show wpAny _ _ (eval (PySem.Expr.ListComp _ [⟨_, _, [], _⟩] _ _) _) _ _ _); k_dflt (refine LCg.ListComp_U (F₀ := by k_asm) (by with_unfolding_all rfl) (by decide) (by rfl) (by decide) (by rfl) ?_); k_dflt lcg_toSrc)) | (with_reducible ((with_reducible show wpAny _ _ (eval (PySem.Expr.ListComp _ _ _ _) _) _ _ _); (with_reducible show wpAny _ _ (eval (PySem.Expr.ListComp _ [⟨_, _, [_], _⟩] _ _) _) _ _ _); k_dflt (refine LCt.ListComp_T (F₀ := by k_asm) (by with_unfolding_all rfl) (by decide) (by rfl) (by decide) (by rfl) ?_); k_dflt lct_toSrc)) | walk1 | (dsimp only; walk1) | (leave1; walk_say "STEP leave1"; try dsimp only) | fail "no step"))
    try dsimp only
    refine' use _ _ _ _ _ _ ?ub ?uF ?uN ?ud ?um
    case uF => with_reducible assumption
    case uN => ((iterate 5 (refine newsCons (by with_reducible assumption) (by repeat (first | exact List.Mem.head _ | apply List.Mem.tail)) ?_)); exact newsSubF (by with_reducible assumption) (fun p hp => by (repeat (first | exact hp | apply List.Mem.tail))))
    case ud => with_reducible assumption
    case um => (intro y hy; (try dsimp only); exact if_neg hy)
    case ub => (unfold turnV; rw [if_neg (by rw [← hal.out]; exact hz), ← hwl.out]; subst_vars; rfl)
end
end
-- KFun9
noncomputable section
open PySem PySem.W PyProof.Rows PySem.Calls PySem.Spec
set_option Elab.async false
set_option maxRecDepth 100000
set_option maxHeartbeats 8000000
set_option linter.unusedVariables false
open LCg LCt
section
theorem f_first (w : World) (mean : ExcName → Option Value) (mg mb : PySem.Str → Option Value) (owner : Int) (rd wt : List Int) (rvs tvs : List Value) (u : Tok) (ra ta : Addr) (ho : 0 ≤ owner ∧ owner < 16) (hrl : rd.length = 8) (hrd : ∀ v ∈ rd, 0 ≤ v ∧ v < 4) (htl : wt.length = 8) (htp : ∀ v ∈ wt, 0 ≤ v) (hri : IntsAre rvs rd) (hti : IntsAre tvs wt) :
   ∀ (n : Nat) (place : Int) (ws : List Int) (wvs : List Value) (t : Tok) (wa : Addr), ws.length + n = 4 → Kept (Diff ws place) → IntsAre wvs ws →
   CV w mean mg mb 183 [.int place t, .ref wa, .ref ra, .int owner u, .ref ta] (4 * n + 8) (100 * n + 200) (fun h => h.IsList wa wvs.toArray ∧ h.IsList ra rvs.toArray ∧ h.IsList ta tvs.toArray) (fun v _ => v = .bool (firstV rd wt owner n ws place)) := by
  have hfill : (PySem.Challenge.rw_yh0002_01 = PySem.Challenge.rw_yh0002_01) ∧ KF = KF := by k_fill; exact ⟨rfl, rfl⟩
  clear hfill
  intro n
  induction n with
  | zero => intro place ws wvs t wa hn hD; exact absurd hD.out.len (by omega)
  | succ n ih =>
    intro place ws wvs t wa hn hD hwi
    replace ih := Kept.mk ih
    have hws := hD.out.1
    have hp := hD.out.2.1
    have hwl := hD.out.len
    intro dp un gd cn cs a ccd cl outer A₀ base h₀ L m news s Q E B F X N T hk hyp hd hu hret
    obtain ⟨g, gens, drawn, toks, os⟩ := s
    dsimp only at F N hyp hret ⊢
    obtain ⟨hwa, hra, hta⟩ := hyp
    refine wpAny_call ?_
    k_dflt (first | (refine' code_defV ?zk19 ?zk29 ?zk39 ?zk59 ?zkA9 ?zkF9 ?zkK9 ?zk69 ?zk79 ?zk89 ?zk99 ?zkB9 ?_ ?zc29 ?zc39 ?zc49 ?zc59; (case zkA9 => exact rfl); (case zkF9 => exact rfl); (case zkK9 => first | exact rfl | assumption); (case zk19 => k_asm); (case zk29 => k_asm); (case zk39 => k_asm); (case zk59 => k_asm); (case zk69 => k_is); (case zk79 => k_is); (case zk89 => ktr_room); (case zk99 => exact BindsTo.of_eq rfl); (case zc59 => decide); (case zkB9 => exact locs rfl); (case zc29 => exact rfl); (case zc39 => exact rfl); (case zc49 => exact rfl); k_whole; intro L' h' FG' F' N' B' X' T'; (try dsimp only); (try k_lift B'); (try k_fold)) | (refine' code_defCV ?zk19 ?zk29 ?zk39 ?zk59 ?zkA9 ?zkF9 ?zkK9 ?zk69 ?zk79 ?zk89 ?zk99 ?zkB9 ?zkD9 ?_ ?zc29 ?zc39 ?zc49; (case zkA9 => exact rfl); (case zkF9 => exact rfl); (case zkK9 => first | exact rfl | assumption); (case zk19 => k_asm); (case zk29 => k_asm); (case zk39 => k_asm); (case zk59 => k_asm); (case zk69 => k_is); (case zk79 => k_is); (case zk89 => ktr_room); (case zk99 => exact BindsTo.of_eq rfl); (case zkB9 => exact rfl); (case zkD9 => decide +kernel); (case zc29 => exact rfl); (case zc39 => exact rfl); (case zc49 => exact rfl); k_whole; intro L' h' tk' cells' FG' F' N' Y' B' X' T'; k_cells Y'; (try simp only [List.cons_append, List.nil_append] at N'); (try dsimp only); (try k_lift B'); (try k_fold)))
    have L' := trivial; have h' := trivial; have tk' := trivial; have FG' := trivial; have B' := trivial; have X' := trivial; have T' := trivial; have cells' := trivial; have Y' := trivial; have F' := trivial; have N' := trivial
    (repeat' (first | (k_unfold; (try dsimp only)) | (k_end; wrow_close) | (with_reducible ((with_reducible show wpAny _ _ (compareOp CmpOp.NotIn (Value.bool _) (Value.ref _)) _ _ _); k_dflt (refine' notin_bools ?zk19 ?zk29 ?_; (case zk19 => k_asm); (case zk29 => (repeat (first | exact List.Mem.head _ | apply List.Mem.tail)))))) | (with_reducible ((with_reducible show wpAny _ _ (compareOp CmpOp.In (Value.bool _) (Value.ref _)) _ _ _); k_dflt (refine' in_bools ?zk19 ?zk29 ?_; (case zk19 => k_asm); (case zk29 => (repeat (first | exact List.Mem.head _ | apply List.Mem.tail)))))) | (with_reducible ((with_reducible show wpAny _ _ (execs (_ :: _) _) _ _ _); (with_reducible show wpAny _ _ (execs (Stmt.Assign [PySem.Expr.Name (PySem.Str.ofString "way") _] _ _ :: _) _) _ _ _); refine Hold.out ?_)) | (with_reducible ((with_reducible show wpAny _ _ (eval (PySem.Expr.Name _ _) _) _ _ _); k_dflt (refine' nameX_L ?zF9 ?zv9 ?_ ?za9 ?zb9; (case zF9 => k_asm); (case za9 => rfl); (case zb9 => rfl); (case zv9 => first | with_reducible assumption | ((try dsimp only); first | with_reducible assumption | (refine (if_neg (by decide)).trans ?_; with_reducible assumption) | (refine (if_neg (by decide)).trans ((if_neg (by decide)).trans ?_); with_reducible assumption) | (refine (if_neg (by decide)).trans ((if_neg (by decide)).trans ((if_neg (by decide)).trans ?_)); with_reducible assumption))); k_whole))) | (with_reducible ((with_reducible show LCg.FinA _ _ _ _ _ _ _); (unfold LCg.FinA); intro D' h' tk' F' N' o1'; (refine nesSplit (off1K o1') ?_; dsimp only [NesArrow]; intros; (try (refine nesArrow_intro ?_; intro _))); clear o1'; (try simp only [List.nil_append, List.cons_append] at N'); (try dsimp only))) | (with_reducible ((with_reducible show LCg.FinE _ _ _ _ _ _ _); (unfold LCg.FinE); intro D' h' tk' F' N' o1'; (refine nesSplit (off1K o1') ?_; dsimp only [NesArrow]; intros; (try (refine nesArrow_intro ?_; intro _))); clear o1'; (try simp only [List.nil_append, List.cons_append] at N'); (try dsimp only))) | walk1 | (dsimp only; walk1) | (leave1; walk_say "STEP leave1"; try dsimp only) | fail "no step"))
    refine Hold.mk ?_
    rename_i L1 h5 tk1 FG1 B1 X1 T1 o1 o2 o3 o4 d1 d2 d3 d4 hl h4 kq1 n1 n2 n3 n4 h3 D h2 N2 kq2 m1 m2 m3 m4 m5 i1 kq3 p1 p2 p3 p4 p5 p6 h1 tk2 F2 oi hcls N3 h0 o2n F3 N4 d2n
    dsimp only at F3 N4 ⊢
    clear N2 N3 F2 FG1
    have T9 : ∀ x : PySem.Str, True := fun _ => trivial
    refine first_turn w mean mg mb owner rd wt rvs tvs u ra ta ho hrl hrd htl htp hri hti ih (place := place) (R := 2 * place) hn hD hwi ⟨Or.inl rfl⟩ ⟨by omega, by omega⟩ (hvs := #[]) (hc := 0) (o1 := o1) (o2 := o2n) (o3 := o3) (o4 := o4) (inn := [(i1, oi), (D, { cls := .type "tuple", data := .seq #[.int (2 * place) (tk + 1), .int (2 * place + 1) (tk + 1 + 1 + 1 + 1 + 1)] })]) B1 X1 T1 hk hd hu F3 (by (iterate 7 (refine newsCons N4 (by repeat (first | exact List.Mem.head _ | apply List.Mem.tail)) ?_)); exact News.nil) d1 d2n (d3.trans rfl) (d4.trans rfl) hwa hra hta (by decide) ⟨Ne.symm n1.out⟩ ⟨Ne.symm n2.out⟩ ⟨Ne.symm n3.out⟩ ⟨Ne.symm n4.out⟩ (nesKTo ⟨⟨Ne.symm p2.out⟩, ⟨Ne.symm m1.out⟩, trivial⟩) (nesKTo ⟨⟨Ne.symm p3.out⟩, ⟨Ne.symm m2.out⟩, trivial⟩) ((if_neg (by decide)).trans rfl) ((if_neg (by decide)).trans rfl) (if_pos rfl) ((if_neg (by decide)).trans rfl) PassesOwn.leaving ?useA
    intro b1 h6 tk6 m6 o1' kv' hb1 F6 N6 d1' hm6
    have e61 : m6 (PySem.Str.ofString "place") = some (.int place t) := (hm6 _ (by decide)).trans ((if_neg (by decide)).trans rfl)
    have e62 : m6 (PySem.Str.ofString "walked") = some (.ref wa) := (hm6 _ (by decide)).trans ((if_neg (by decide)).trans rfl)
    have e63 : m6 (PySem.Str.ofString "hers") = some (.ref hl) := (hm6 _ (by decide)).trans (if_pos rfl)
    have e64 : m6 (PySem.Str.ofString "owner") = some (.int owner u) := (hm6 _ (by decide)).trans ((if_neg (by decide)).trans rfl)
    clear hm6 F3 N4 d1
    (repeat' (first | (k_unfold; (try dsimp only)) | (k_end; wrow_close) | (with_reducible ((with_reducible show wpAny _ _ (compareOp CmpOp.NotIn (Value.bool _) (Value.ref _)) _ _ _); k_dflt (refine' notin_bools ?zk19 ?zk29 ?_; (case zk19 => k_asm); (case zk29 => (repeat (first | exact List.Mem.head _ | apply List.Mem.tail)))))) | (with_reducible ((with_reducible show wpAny _ _ (compareOp CmpOp.In (Value.bool _) (Value.ref _)) _ _ _); k_dflt (refine' in_bools ?zk19 ?zk29 ?_; (case zk19 => k_asm); (case zk29 => (repeat (first | exact List.Mem.head _ | apply List.Mem.tail)))))) | (with_reducible ((with_reducible show wpAny _ _ (execs (_ :: _) _) _ _ _); (with_reducible show wpAny _ _ (execs (Stmt.Assign [PySem.Expr.Name (PySem.Str.ofString "way") _] _ _ :: _) _) _ _ _); refine Hold.out ?_)) | (with_reducible ((with_reducible show wpAny _ _ (eval (PySem.Expr.Name _ _) _) _ _ _); k_dflt (refine' nameX_L ?zF9 ?zv9 ?_ ?za9 ?zb9; (case zF9 => k_asm); (case za9 => rfl); (case zb9 => rfl); (case zv9 => first | with_reducible assumption | ((try dsimp only); first | with_reducible assumption | (refine (if_neg (by decide)).trans ?_; with_reducible assumption) | (refine (if_neg (by decide)).trans ((if_neg (by decide)).trans ?_); with_reducible assumption) | (refine (if_neg (by decide)).trans ((if_neg (by decide)).trans ((if_neg (by decide)).trans ?_)); with_reducible assumption))); k_whole))) | (with_reducible ((with_reducible show LCg.FinA _ _ _ _ _ _ _); (unfold LCg.FinA); intro D' h' tk' F' N' o1'; (refine nesSplit (off1K o1') ?_; dsimp only [NesArrow]; intros; (try (refine nesArrow_intro ?_; intro _))); clear o1'; (try simp only [List.nil_append, List.cons_append] at N'); (try dsimp only))) | (with_reducible ((with_reducible show LCg.FinE _ _ _ _ _ _ _); (unfold LCg.FinE); intro D' h' tk' F' N' o1'; (refine nesSplit (off1K o1') ?_; dsimp only [NesArrow]; intros; (try (refine nesArrow_intro ?_; intro _))); clear o1'; (try simp only [List.nil_append, List.cons_append] at N'); (try dsimp only))) | walk1 | (dsimp only; walk1) | (leave1; walk_say "STEP leave1"; try dsimp only) | fail "no step"))
    (show UnrEndW _ _ _ _ _ _)
    ktu_end
    (repeat' (first | (k_unfold; (try dsimp only)) | (k_end; wrow_close) | (with_reducible ((with_reducible show wpAny _ _ (compareOp CmpOp.NotIn (Value.bool _) (Value.ref _)) _ _ _); k_dflt (refine' notin_bools ?zk19 ?zk29 ?_; (case zk19 => k_asm); (case zk29 => (repeat (first | exact List.Mem.head _ | apply List.Mem.tail)))))) | (with_reducible ((with_reducible show wpAny _ _ (compareOp CmpOp.In (Value.bool _) (Value.ref _)) _ _ _); k_dflt (refine' in_bools ?zk19 ?zk29 ?_; (case zk19 => k_asm); (case zk29 => (repeat (first | exact List.Mem.head _ | apply List.Mem.tail)))))) | (with_reducible ((with_reducible show wpAny _ _ (execs (_ :: _) _) _ _ _); (with_reducible show wpAny _ _ (execs (Stmt.Assign [PySem.Expr.Name (PySem.Str.ofString "way") _] _ _ :: _) _) _ _ _); refine Hold.out ?_)) | (with_reducible ((with_reducible show wpAny _ _ (eval (PySem.Expr.Name _ _) _) _ _ _); k_dflt (refine' nameX_L ?zF9 ?zv9 ?_ ?za9 ?zb9; (case zF9 => k_asm); (case za9 => rfl); (case zb9 => rfl); (case zv9 => first | with_reducible assumption | ((try dsimp only); first | with_reducible assumption | (refine (if_neg (by decide)).trans ?_; with_reducible assumption) | (refine (if_neg (by decide)).trans ((if_neg (by decide)).trans ?_); with_reducible assumption) | (refine (if_neg (by decide)).trans ((if_neg (by decide)).trans ((if_neg (by decide)).trans ?_)); with_reducible assumption))); k_whole))) | (with_reducible ((with_reducible show LCg.FinA _ _ _ _ _ _ _); (unfold LCg.FinA); intro D' h' tk' F' N' o1'; (refine nesSplit (off1K o1') ?_; dsimp only [NesArrow]; intros; (try (refine nesArrow_intro ?_; intro _))); clear o1'; (try simp only [List.nil_append, List.cons_append] at N'); (try dsimp only))) | (with_reducible ((with_reducible show LCg.FinE _ _ _ _ _ _ _); (unfold LCg.FinE); intro D' h' tk' F' N' o1'; (refine nesSplit (off1K o1') ?_; dsimp only [NesArrow]; intros; (try (refine nesArrow_intro ?_; intro _))); clear o1'; (try simp only [List.nil_append, List.cons_append] at N'); (try dsimp only))) | walk1 | (dsimp only; walk1) | (leave1; walk_say "STEP leave1"; try dsimp only) | fail "no step"))
    refine Hold.mk ?_
    rename_i h7 tk7 F7 oj hclj N7 h8 o2p F8 N8 d2p
    clear N7 F7 N6 F6
    refine first_turn w mean mg mb owner rd wt rvs tvs u ra ta ho hrl hrd htl htp hri hti ih (place := place) (R := 2 * place + 1) hn hD hwi ⟨Or.inr rfl⟩ ⟨by omega, by omega⟩ (hvs := #[].push (.bool b1)) (hc := 0 + 1) (o1 := o1') (o2 := o2p) (o3 := o3) (o4 := o4) (inn := [(i1, oj), (D, { cls := .type "tuple", data := .seq #[.int (2 * place) (tk + 1), .int (2 * place + 1) (tk + 1 + 1 + 1 + 1 + 1)] })]) B1 X1 T1 hk hd hu F8 (by (iterate 7 (refine newsCons N8 (by repeat (first | exact List.Mem.head _ | apply List.Mem.tail)) ?_)); exact News.nil) d1' d2p (d3.trans rfl) (d4.trans rfl) hwa hra hta (by rw [Array.size_push]; exact Nat.le_of_ble_eq_true rfl) ⟨Ne.symm n1.out⟩ ⟨Ne.symm n2.out⟩ ⟨Ne.symm n3.out⟩ ⟨Ne.symm n4.out⟩ (nesKTo ⟨⟨Ne.symm p2.out⟩, ⟨Ne.symm m1.out⟩, trivial⟩) (nesKTo ⟨⟨Ne.symm p3.out⟩, ⟨Ne.symm m2.out⟩, trivial⟩) e61 e62 e63 e64 PassesOwn.leaving ?useB
    intro b2 h9 tk9 m9 o1q kvq hb2 F9 N9 d1q hm9
    have f61 : m9 (PySem.Str.ofString "place") = some (.int place t) := (hm9 _ (by decide)).trans e61
    have f63 : m9 (PySem.Str.ofString "hers") = some (.ref hl) := (hm9 _ (by decide)).trans e63
    have f64 : m9 (PySem.Str.ofString "owner") = some (.int owner u) := (hm9 _ (by decide)).trans e64
    clear hm9 F8 N8 d1' e61 e62 e63 e64
    (repeat' (first | (k_unfold; (try dsimp only)) | (k_end; wrow_close) | (with_reducible ((with_reducible show wpAny _ _ (compareOp CmpOp.NotIn (Value.bool _) (Value.ref _)) _ _ _); k_dflt (refine' notin_bools ?zk19 ?zk29 ?_; (case zk19 => k_asm); (case zk29 => (repeat (first | exact List.Mem.head _ | apply List.Mem.tail)))))) | (with_reducible ((with_reducible show wpAny _ _ (compareOp CmpOp.In (Value.bool _) (Value.ref _)) _ _ _); k_dflt (refine' in_bools ?zk19 ?zk29 ?_; (case zk19 => k_asm); (case zk29 => (repeat (first | exact List.Mem.head _ | apply List.Mem.tail)))))) | (with_reducible ((with_reducible show wpAny _ _ (execs (_ :: _) _) _ _ _); (with_reducible show wpAny _ _ (execs (Stmt.Assign [PySem.Expr.Name (PySem.Str.ofString "way") _] _ _ :: _) _) _ _ _); refine Hold.out ?_)) | (with_reducible ((with_reducible show wpAny _ _ (eval (PySem.Expr.Name _ _) _) _ _ _); k_dflt (refine' nameX_L ?zF9 ?zv9 ?_ ?za9 ?zb9; (case zF9 => k_asm); (case za9 => rfl); (case zb9 => rfl); (case zv9 => first | with_reducible assumption | ((try dsimp only); first | with_reducible assumption | (refine (if_neg (by decide)).trans ?_; with_reducible assumption) | (refine (if_neg (by decide)).trans ((if_neg (by decide)).trans ?_); with_reducible assumption) | (refine (if_neg (by decide)).trans ((if_neg (by decide)).trans ((if_neg (by decide)).trans ?_)); with_reducible assumption))); k_whole))) | (with_reducible ((with_reducible show LCg.FinA _ _ _ _ _ _ _); (unfold LCg.FinA); intro D' h' tk' F' N' o1'; (refine nesSplit (off1K o1') ?_; dsimp only [NesArrow]; intros; (try (refine nesArrow_intro ?_; intro _))); clear o1'; (try simp only [List.nil_append, List.cons_append] at N'); (try dsimp only))) | (with_reducible ((with_reducible show LCg.FinE _ _ _ _ _ _ _); (unfold LCg.FinE); intro D' h' tk' F' N' o1'; (refine nesSplit (off1K o1') ?_; dsimp only [NesArrow]; intros; (try (refine nesArrow_intro ?_; intro _))); clear o1'; (try simp only [List.nil_append, List.cons_append] at N'); (try dsimp only))) | walk1 | (dsimp only; walk1) | (leave1; walk_say "STEP leave1"; try dsimp only) | fail "no step"))
    (show UnrEndW _ _ _ _ _ _)
    ktu_end
    (repeat' (first | (k_unfold; (try dsimp only)) | (k_end; wrow_close) | (with_reducible ((with_reducible show wpAny _ _ (compareOp CmpOp.NotIn (Value.bool _) (Value.ref _)) _ _ _); k_dflt (refine' notin_bools ?zk19 ?zk29 ?_; (case zk19 => k_asm); (case zk29 => (repeat (first | exact List.Mem.head _ | apply List.Mem.tail)))))) | (with_reducible ((with_reducible show wpAny _ _ (compareOp CmpOp.In (Value.bool _) (Value.ref _)) _ _ _); k_dflt (refine' in_bools ?zk19 ?zk29 ?_; (case zk19 => k_asm); (case zk29 => (repeat (first | exact List.Mem.head _ | apply List.Mem.tail)))))) | (with_reducible ((with_reducible show wpAny _ _ (execs (_ :: _) _) _ _ _); (with_reducible show wpAny _ _ (execs (Stmt.Assign [PySem.Expr.Name (PySem.Str.ofString "way") _] _ _ :: _) _) _ _ _); refine Hold.out ?_)) | (with_reducible ((with_reducible show wpAny _ _ (eval (PySem.Expr.Name _ _) _) _ _ _); k_dflt (refine' nameX_L ?zF9 ?zv9 ?_ ?za9 ?zb9; (case zF9 => k_asm); (case za9 => rfl); (case zb9 => rfl); (case zv9 => first | with_reducible assumption | ((try dsimp only); first | with_reducible assumption | (refine (if_neg (by decide)).trans ?_; with_reducible assumption) | (refine (if_neg (by decide)).trans ((if_neg (by decide)).trans ?_); with_reducible assumption) | (refine (if_neg (by decide)).trans ((if_neg (by decide)).trans ((if_neg (by decide)).trans ?_)); with_reducible assumption))); k_whole))) | (with_reducible ((with_reducible show LCg.FinA _ _ _ _ _ _ _); (unfold LCg.FinA); intro D' h' tk' F' N' o1'; (refine nesSplit (off1K o1') ?_; dsimp only [NesArrow]; intros; (try (refine nesArrow_intro ?_; intro _))); clear o1'; (try simp only [List.nil_append, List.cons_append] at N'); (try dsimp only))) | (with_reducible ((with_reducible show LCg.FinE _ _ _ _ _ _ _); (unfold LCg.FinE); intro D' h' tk' F' N' o1'; (refine nesSplit (off1K o1') ?_; dsimp only [NesArrow]; intros; (try (refine nesArrow_intro ?_; intro _))); clear o1'; (try simp only [List.nil_append, List.cons_append] at N'); (try dsimp only))) | walk1 | (dsimp only; walk1) | (leave1; walk_say "STEP leave1"; try dsimp only) | fail "no step"))
    all_goals (try k_data)
    all_goals (refine hret _ _ _ (frKeep F (Fr.keep (by assumption))) (newsKeep N (Fr.keep (by assumption))) (Fr.keep (by assumption)) ?_)
    all_goals (rw [firstV])
    · rw [if_pos (by assumption)]; subst_vars; (try rfl); (try (congr 1; simp))
    · rw [if_neg (by first | assumption | (exact fun hq => hq (by assumption)))]; subst_vars; (try rfl); (try (congr 1; simp))
end
end
end
section
open LCg LCt
local macro_rules | `(tactic| walk_at "pyIter ref") => `(tactic| (k_here; refine Hold.out ?_))
local macro_rules | `(tactic| walk_at "CompSrcT") => `(tactic| (k_here; refine Hold.out ?_))
local macro_rules | `(tactic| walk_at "CompSrc") => `(tactic| (k_here; refine Hold.out ?_))
-- KLEa
noncomputable section
open PySem PySem.W PyProof.Rows PySem.Calls PySem.Spec
set_option Elab.async false
set_option maxRecDepth 100000
set_option maxHeartbeats 8000000
set_option linter.unusedVariables false
open LCg LCt
noncomputable def stems : List PySem.Str := [PySem.Str.ofString "", PySem.Str.ofString "a", PySem.Str.ofString "b", PySem.Str.ofString "aa", PySem.Str.ofString "ab", PySem.Str.ofString "ba", PySem.Str.ofString "bb"]
noncomputable def labW (fg p : Int) : PySem.Str := stems.getD (fg.fmod 7).toNat Str.empty ++ ⟨#[(sgn (fg.fdiv 7) p).toNat]⟩
noncomputable def prtV (cs : List Int) (i : Nat) : Int := (cs.getD 2 0).fdiv ((i : Int) + 1)
noncomputable def figV (cs : List Int) (i : Nat) : Int := ((cs.getD 1 0).fdiv (35 ^ ((i : Int)).toNat)).fmod 35
theorem stems_len (n : Nat) : (stems.getD n Str.empty).length ≤ 2 := by
  have h : ∀ x ∈ stems, x.length ≤ 2 := by decide +kernel
  rw [List.getD_eq_getElem?_getD]
  cases e : stems[n]? with
  | none => exact Nat.zero_le _
  | some x => exact h x (List.mem_of_getElem? e)
theorem newsSub {h₀ h : Heap} {L : Addr} {l l' : List (Addr × Obj)} (N : News h₀ L h l) (hs : ∀ p ∈ l', p ∈ l) : News h₀ L h l' := fun p hp => N p (hs p hp)
theorem fm7 (x : Int) : 0 ≤ x.fmod 7 ∧ x.fmod 7 < 7 := ⟨Int.fmod_nonneg_of_pos _ (by decide), Int.fmod_lt_of_pos _ (by decide)⟩
theorem fd7 (x : Int) : 0 ≤ (x.fmod 35).fdiv 7 ∧ (x.fmod 35).fdiv 7 ≤ 4 := by
  have h1 : 0 ≤ x.fmod 35 := Int.fmod_nonneg_of_pos _ (by decide)
  have h2 : x.fmod 35 < 35 := Int.fmod_lt_of_pos _ (by decide)
  rw [Int.fdiv_eq_ediv_of_nonneg _ (by decide)]
  omega
section
local macro_rules | `(tactic| k_mem) => `(tactic| first | with_reducible assumption | (refine memOf ?_; with_reducible assumption))
theorem law_Ea (w : World) (mean : ExcName → Option Value) (mg mb : PySem.Str → Option Value) {g h : Heap} {L f : Addr} {cdv : Value} {m : PySem.Str → Option Value} {gens : Array GenState} {drawn : Drawn} {toks : Nat} {os : OsState} {Q : Flow → Shared → Prop} {E : Value → Shared → Prop} {l : Addr} {cvs : List Value} {cs : List Int} {nx : List (Addr × Obj)} {o1 o2 : Obj} {i : Nat} {ti : Tok}
   (B : Below callerA g [] g) (X : (KF w.params).In g) (T : Top vw LW mean mg mb g) (F : Fr g L h m) (N : News g L h nx) (hm1 : (L + 1, o1) ∈ nx) (hm2 : (L + 1 + 1, o2) ∈ nx) (hml : (l, W.listOf cvs.toArray 0) ∈ nx) (d1 : o1.data = .cell (some (.ref l))) (d2 : o2.data = .cell (some (.int (i : Int) ti))) (hI : IntsAre cvs cs) (hlen : cs.length = 3) (hi : i < 8)
   (hE : PassesOwn (model pwC w) (callerA.deeper (envOfC (PySem.Str.ofString "law") lawSc L f cdv)) (envOfC (PySem.Str.ofString "law") lawSc L f cdv) E)
   (use : ∀ (h' : Heap) (tk' : Nat) (m' : PySem.Str → Option Value) (t1 t2 t3 : Tok), Fr g L h' m' → m' (PySem.Str.ofString "part") = some (.int (prtV cs i) t1) → m' (PySem.Str.ofString "figure") = some (.int (figV cs i) t2) → m' (PySem.Str.ofString "label") = some (.str (labW (figV cs i) (prtV cs i)) t3) → (∀ y, y ≠ (PySem.Str.ofString "part") → y ≠ (PySem.Str.ofString "figure") → y ≠ (PySem.Str.ofString "label") → m' y = m y) → News g L h' nx → Q .next ⟨h', gens, drawn, tk', os⟩) : wpAny (model pwC w) (callerA.deeper (envOfC (PySem.Str.ofString "law") lawSc L f cdv)) (execs lawEa (envOfC (PySem.Str.ofString "law") lawSc L f cdv)) Q E ⟨h, gens, drawn, toks, os⟩ := by
  have hfill : (PySem.Challenge.rw_yh0002_01 = PySem.Challenge.rw_yh0002_01) ∧ KF = KF := by k_fill; exact ⟨rfl, rfl⟩
  clear hfill
  unfold lawEa
  unfold lawSc at *
  dsimp only at hE ⊢
  have hpw : (0 : Int) < 35 ^ ((i : Int)).toNat := Int.pow_pos (by decide)
  (repeat' (first | (k_unfold; (try dsimp only)) | (k_end; wrow_close) | (with_reducible ((with_reducible show wpAny _ _ (binaryOp Operator.Add (Value.str _ _) (Value.str _ _)) _ _ _); (with_reducible show wpAny _ _ (binaryOp Operator.Add (Value.str (List.getD _ _ _) _) _) _ _ _); k_dflt (refine SBL.add ?h9 ?zz99; (case zz99 => (rw [sizeLine_eq]; exact Nat.le_trans (Nat.add_le_add (stems_len _) (Nat.le_refl 1)) (by decide)))); intro t' k' e')) | (with_reducible ((with_reducible show wpAny _ _ (subscriptTail _ _ _ _) _ _ _); (with_reducible show wpAny _ _ (subscriptTail (PySem.Expr.Name _ _) _ (Value.ref _) (Value.int _ _)) _ _ _); k_dflt (refine' item_strsA (ys := stems) ?zk19 ?zk29 ?zk39 ?zk49 ?zk59 ?_; (case zk19 => is_list); (case zk29 => (repeat (first | exact StrsAre.nil | refine StrsAre.cons _ _ ?_))); (case zk39 => exact (fm7 _).1); (case zk49 => exact (fm7 _).2); (case zk59 => exact Int.lt_trans (fm7 _).2 (by decide))); intro t9')) | (with_reducible ((with_reducible show wpAny _ _ (call (Value.ref _) _ _) _ _ _); (k_dflt (first | (refine' cvUse (f_sign _ _ _ _ _ _ _ _ (fd7 _)) ?zB9 ?zF9 ?zX9 ?zN9 ?zT9 ?zhk9 ?zhy9 ?zhd9 ?zhu9 ?_; (case zF9 => k_asm); (case zT9 => k_asm); (case zB9 => k_asm); (case zX9 => k_asm); (case zN9 => k_asm); (case zhk9 => first | exact rfl | assumption); (case zhy9 => first | exact trivial | (dsimp only; (repeat' (refine And.intro ?_ ?_)) <;> first | is_list | l_ints | (with_reducible assumption) | omega | decide | kt_len)); (case zhd9 => ktr_room); (case zhu9 => ktr_units); intro v' h' tk' F' N' k' p'; (obtain ⟨tk9', p'⟩ := p'; subst p')))); (try dsimp only); (try k_fold))) | (with_reducible ((with_reducible show wpAny _ _ (eval (PySem.Expr.ListComp _ _ _ _) _) _ _ _); (with_reducible show wpAny _ _ (eval (PySem.Expr.ListComp _ [⟨_, _, [], _⟩] _ _) _) _ _ _); k_dflt (refine LCg.ListComp_U (F₀ := by k_asm) (by with_unfolding_all rfl) (by decide) (by rfl) (by decide) (by rfl) ?_); k_dflt lcg_toSrc)) | (with_reducible ((with_reducible show wpAny _ _ (eval (PySem.Expr.ListComp _ _ _ _) _) _ _ _); (with_reducible show wpAny _ _ (eval (PySem.Expr.ListComp _ [⟨_, _, [_], _⟩] _ _) _) _ _ _); k_dflt (refine LCt.ListComp_T (F₀ := by k_asm) (by with_unfolding_all rfl) (by decide) (by rfl) (by decide) (by rfl) ?_); k_dflt lct_toSrc)) | (with_reducible ((with_reducible show wpAny _ _ (exec (Stmt.For _ _ _ _ _) _) _ _ _); (rename Fr _ _ _ _ => lF'); (with_unfolding_all refine' For_turns lF' ?_ ?zhs99 ?zhE99; (case zhs99 => (intro _; rfl)); (case zhE99 => assumption); k_whole))) | (with_reducible ((with_reducible show wpAny _ _ (eval (PySem.Expr.Name _ _) _) _ _ _); k_dflt (refine' nameX_L ?zF9 ?zv9 ?_ ?za9 ?zb9; (case zF9 => k_asm); (case za9 => rfl); (case zb9 => rfl); (case zv9 => first | with_reducible assumption | ((try dsimp only); first | with_reducible assumption | (refine (if_neg (by decide)).trans ?_; with_reducible assumption) | (refine (if_neg (by decide)).trans ((if_neg (by decide)).trans ?_); with_reducible assumption) | (refine (if_neg (by decide)).trans ((if_neg (by decide)).trans ((if_neg (by decide)).trans ?_)); with_reducible assumption))); k_whole))) | walk1 | (dsimp only; walk1) | (leave1; walk_say "STEP leave1"; try dsimp only) | fail "no step"))
  · exact absurd (by assumption) (Int.ne_of_gt hpw)
  refine' use _ _ _ _ _ _ ?ua ?ub ?uc ?ud ?ue ?uf
  case ua => assumption
  case ub => exact rfl
  case uc => exact rfl
  case ud => exact rfl
  case ue => (intro y h1 h2 h3; (try dsimp only); exact (if_neg h3).trans ((if_neg h2).trans (if_neg h1)))
  case uf => ((refine newsSub (by with_reducible assumption) ?_); intro p hp; (repeat (first | exact hp | apply List.Mem.tail)))
end
end
-- KLEb
noncomputable section
open PySem PySem.W PyProof.Rows PySem.Calls PySem.Spec
set_option Elab.async false
set_option maxRecDepth 100000
set_option maxHeartbeats 8000000
set_option linter.unusedVariables false
open LCg LCt
noncomputable def pres : List PySem.Str := [PySem.Str.ofString "", PySem.Str.ofString "+", PySem.Str.ofString "0", PySem.Str.ofString " "]
noncomputable def posts : List PySem.Str := [PySem.Str.ofString "", PySem.Str.ofString " "]
noncomputable def behs : List PySem.Str := [PySem.Str.ofString "", PySem.Str.ofString ".", PySem.Str.ofString " (|||9|)"]
theorem lenD {l : List PySem.Str} {b : Nat} (h : ∀ x ∈ l, x.length ≤ b) (n : Nat) : (l.getD n Str.empty).length ≤ b := by
  rw [List.getD_eq_getElem?_getD]
  cases e : l[n]? with
  | none => exact Nat.zero_le _
  | some x => exact h x (List.mem_of_getElem? e)
theorem pres_len (n : Nat) : (pres.getD n Str.empty).length ≤ 1 := lenD (by decide +kernel) n
theorem posts_len (n : Nat) : (posts.getD n Str.empty).length ≤ 1 := lenD (by decide +kernel) n
theorem behs_len (n : Nat) : (behs.getD n Str.empty).length ≤ 8 := lenD (by decide +kernel) n
theorem fmb (x n : Int) (hn : 0 < n) : 0 ≤ x.fmod n ∧ x.fmod n < n := ⟨Int.fmod_nonneg_of_pos _ hn, Int.fmod_lt_of_pos _ hn⟩
noncomputable def mkW (p : Int) : PySem.Str := Txt.item (PySem.Str.ofString "|!;x") ((p.fdiv 3).fmod 4)
noncomputable def bhW (p : Int) : PySem.Str := behs.getD ((p.fdiv 5).fmod 3).toNat Str.empty
noncomputable def f1W (p : Int) : PySem.Str := PySem.Str.ofString (toString (p.fmod 4))
noncomputable def f2W (p : Int) : PySem.Str := PySem.Str.ofString (toString ((p.fdiv 4).fmod 4))
noncomputable def f3W (p r : Int) : PySem.Str := pres.getD (p.fmod 4).toNat Str.empty ++ PySem.Str.ofString (toString r) ++ posts.getD ((p.fdiv 4).fmod 2).toNat Str.empty
theorem dg_len {r : Int} (h : 0 ≤ r ∧ r < 4) : (PySem.Str.ofString (toString r)).length = 1 := by
  have h' : r = 0 ∨ r = 1 ∨ r = 2 ∨ r = 3 := by omega
  rcases h' with rfl | rfl | rfl | rfl <;> decide +kernel
section
local macro_rules | `(tactic| k_mem) => `(tactic| first | with_reducible assumption | (refine memOf ?_; with_reducible assumption))
theorem law_Eb (w : World) (mean : ExcName → Option Value) (mg mb : PySem.Str → Option Value) {g h : Heap} {L f : Addr} {cdv : Value} {m : PySem.Str → Option Value} {gens : Array GenState} {drawn : Drawn} {toks : Nat} {os : OsState} {Q : Flow → Shared → Prop} {E : Value → Shared → Prop} {lr : Addr} {rvs : List Value} {rd : List Int} {nx : List (Addr × Obj)} {o2 o3 : Obj} {i : Nat} {ti : Tok} {p : Int} {tp : Tok}
   (B : Below callerA g [] g) (X : (KF w.params).In g) (T : Top vw LW mean mg mb g) (F : Fr g L h m) (N : News g L h nx) (hm2 : (L + 1 + 1, o2) ∈ nx) (hm3 : (L + 1 + 1 + 1, o3) ∈ nx) (hmr : (lr, lst rvs) ∈ nx) (d2 : o2.data = .cell (some (.int (i : Int) ti))) (d3 : o3.data = .cell (some (.ref lr))) (hI : IntsAre rvs rd) (hlen : rd.length = 8) (hrd : ∀ v ∈ rd, 0 ≤ v ∧ v < 4) (hi : i < 8) (hmp : m (PySem.Str.ofString "part") = some (.int p tp))
   (hE : PassesOwn (model pwC w) (callerA.deeper (envOfC (PySem.Str.ofString "law") lawSc L f cdv)) (envOfC (PySem.Str.ofString "law") lawSc L f cdv) E)
   (use : ∀ (h' : Heap) (tk' : Nat) (m' : PySem.Str → Option Value) (lf : Addr) (t1 t2 t3 t4 t5 : Tok), Fr g L h' m' → m' (PySem.Str.ofString "fields") = some (.ref lf) → m' (PySem.Str.ofString "mark") = some (.str (mkW p) t4) → m' (PySem.Str.ofString "behind") = some (.str (bhW p) t5) → (∀ y, y ≠ (PySem.Str.ofString "port") → y ≠ (PySem.Str.ofString "fields") → y ≠ (PySem.Str.ofString "mark") → y ≠ (PySem.Str.ofString "behind") → m' y = m y) → News g L h' ((lf, W.listOf #[.str (f1W p) t1, .str (f2W p) t2, .str (f3W p (rd.getD ((i : Int)).toNat 0)) t3] 0) :: nx) → AllLt lf nx → Q .next ⟨h', gens, drawn, tk', os⟩) : wpAny (model pwC w) (callerA.deeper (envOfC (PySem.Str.ofString "law") lawSc L f cdv)) (execs lawEb (envOfC (PySem.Str.ofString "law") lawSc L f cdv)) Q E ⟨h, gens, drawn, toks, os⟩ := by
  have hfill : (PySem.Challenge.rw_yh0002_01 = PySem.Challenge.rw_yh0002_01) ∧ KF = KF := by k_fill; exact ⟨rfl, rfl⟩
  clear hfill
  unfold lawEb
  unfold lawSc at *
  dsimp only at hE ⊢
  have hi2 : (0 : Int) ≤ (i : Int) ∧ (i : Int) < (rd.length : Int) := ⟨by omega, by omega⟩
  have hrv : 0 ≤ rd.getD ((i : Int)).toNat 0 ∧ rd.getD ((i : Int)).toNat 0 < 4 := hrd _ (getD_mem (by omega))
  have hq1 := fmb p 4 (by decide)
  have hq2 := fmb (p.fdiv 4) 4 (by decide)
  have hq3 := fmb (p.fdiv 4) 2 (by decide)
  have hq4 := fmb (p.fdiv 3) 4 (by decide)
  have hq5 := fmb (p.fdiv 5) 3 (by decide)
  have hl1 := pres_len (p.fmod 4).toNat
  have hl2 := dg_len hrv
  have hl3 := posts_len ((p.fdiv 4).fmod 2).toNat
  have hl4 := behs_len ((p.fdiv 5).fmod 3).toNat
  (repeat' (first | (k_unfold; (try dsimp only)) | (k_end; wrow_close) | (with_reducible ((with_reducible show wpAny _ _ (binaryOp Operator.Add (Value.str _ _) (Value.str _ _)) _ _ _); k_dflt (refine SBL.add ?h9 ?zz99; (case zz99 => (rw [sizeLine_eq]; omega))); intro t' k' e')) | (with_reducible ((with_reducible show wpAny _ _ (subscriptTail _ _ _ _) _ _ _); (with_reducible show wpAny _ _ (subscriptTail (PySem.Expr.Name _ _) _ (Value.ref _) (Value.int (Int.fmod _ 3) _)) _ _ _); k_dflt (refine' item_strsA (ys := behs) ?zk19 ?zk29 ?zk39 ?zk49 ?zk59 ?_; (case zk19 => is_list); (case zk29 => (repeat (first | exact StrsAre.nil | refine StrsAre.cons _ _ ?_))); (case zk39 => exact (fmb _ _ (by decide)).1); (case zk49 => exact (fmb _ _ (by decide)).2); (case zk59 => exact Int.lt_trans (fmb _ _ (by decide)).2 (by decide))); intro t9')) | (with_reducible ((with_reducible show wpAny _ _ (subscriptTail _ _ _ _) _ _ _); (with_reducible show wpAny _ _ (subscriptTail (PySem.Expr.Name _ _) _ (Value.ref _) (Value.int (Int.fmod _ 2) _)) _ _ _); k_dflt (refine' item_strsA (ys := posts) ?zk19 ?zk29 ?zk39 ?zk49 ?zk59 ?_; (case zk19 => is_list); (case zk29 => (repeat (first | exact StrsAre.nil | refine StrsAre.cons _ _ ?_))); (case zk39 => exact (fmb _ _ (by decide)).1); (case zk49 => exact (fmb _ _ (by decide)).2); (case zk59 => exact Int.lt_trans (fmb _ _ (by decide)).2 (by decide))); intro t9')) | (with_reducible ((with_reducible show wpAny _ _ (subscriptTail _ _ _ _) _ _ _); (with_reducible show wpAny _ _ (subscriptTail (PySem.Expr.Name _ _) _ (Value.ref _) (Value.int (Int.fmod _ 4) _)) _ _ _); k_dflt (refine' item_strsA (ys := pres) ?zk19 ?zk29 ?zk39 ?zk49 ?zk59 ?_; (case zk19 => is_list); (case zk29 => (repeat (first | exact StrsAre.nil | refine StrsAre.cons _ _ ?_))); (case zk39 => exact (fmb _ _ (by decide)).1); (case zk49 => exact (fmb _ _ (by decide)).2); (case zk59 => exact Int.lt_trans (fmb _ _ (by decide)).2 (by decide))); intro t9')) | (with_reducible ((with_reducible show wpAny _ _ (eval (PySem.Expr.ListComp _ _ _ _) _) _ _ _); (with_reducible show wpAny _ _ (eval (PySem.Expr.ListComp _ [⟨_, _, [], _⟩] _ _) _) _ _ _); k_dflt (refine LCg.ListComp_U (F₀ := by k_asm) (by with_unfolding_all rfl) (by decide) (by rfl) (by decide) (by rfl) ?_); k_dflt lcg_toSrc)) | (with_reducible ((with_reducible show wpAny _ _ (eval (PySem.Expr.ListComp _ _ _ _) _) _ _ _); (with_reducible show wpAny _ _ (eval (PySem.Expr.ListComp _ [⟨_, _, [_], _⟩] _ _) _) _ _ _); k_dflt (refine LCt.ListComp_T (F₀ := by k_asm) (by with_unfolding_all rfl) (by decide) (by rfl) (by decide) (by rfl) ?_); k_dflt lct_toSrc)) | (with_reducible ((with_reducible show wpAny _ _ (exec (Stmt.For _ _ _ _ _) _) _ _ _); (rename Fr _ _ _ _ => lF'); (with_unfolding_all refine' For_turns lF' ?_ ?zhs99 ?zhE99; (case zhs99 => (intro _; rfl)); (case zhE99 => assumption); k_whole))) | (with_reducible ((with_reducible show wpAny _ _ (eval (PySem.Expr.Name _ _) _) _ _ _); k_dflt (refine' nameX_L ?zF9 ?zv9 ?_ ?za9 ?zb9; (case zF9 => k_asm); (case za9 => rfl); (case zb9 => rfl); (case zv9 => first | with_reducible assumption | ((try dsimp only); first | with_reducible assumption | (refine (if_neg (by decide)).trans ?_; with_reducible assumption) | (refine (if_neg (by decide)).trans ((if_neg (by decide)).trans ?_); with_reducible assumption) | (refine (if_neg (by decide)).trans ((if_neg (by decide)).trans ((if_neg (by decide)).trans ?_)); with_reducible assumption))); k_whole))) | (with_reducible ((with_reducible show wpAny _ _ (subscriptTail _ _ _ _) _ _ _); (with_reducible show wpAny _ _ (subscriptTail _ _ (Value.ref _) (Value.int _ _)) _ _ _); (fail_if_success (with_reducible show wpAny _ _ (subscriptTail (PySem.Expr.Name _ _) _ _ _) _ _ _)); k_dflt (refine kba_turn (value' := PySem.Expr.Name (PySem.Str.ofString "_") ⟨0, 0, 0, 0⟩) (fun _ => rfl) ?_))) | walk1 | (dsimp only; walk1) | (leave1; walk_say "STEP leave1"; try dsimp only) | fail "no step"))
  refine' use _ _ _ _ _ _ _ _ _ ?ua ?ub ?uc ?ud ?ue ?uf ?ug
  case ua => assumption
  case ub => exact rfl
  case uc => exact rfl
  case ud => exact rfl
  case ue => (intro y h1 h2 h3 h4; (try dsimp only); exact (if_neg h4).trans ((if_neg h3).trans ((if_neg h2).trans (if_neg h1))))
  case uf => ((refine newsSub (by with_reducible assumption) ?_); intro p hp; (rcases List.mem_cons.mp hp with rfl | hp); (repeat (first | exact List.Mem.head _ | apply List.Mem.tail)); (repeat (first | exact hp | apply List.Mem.tail)))
  case ug => ((with_reducible rename _ ∧ _ ∧ AllLt _ _ => hx9); exact hx9.2.2)
end
end
-- KOcc
noncomputable section
open PySem.Builtin.Str PySem PySem.W PyProof.Rows PySem.Calls PySem.Spec PySem.StrLaws
set_option Elab.async false
set_option maxRecDepth 100000
set_option maxHeartbeats 0
set_option linter.unusedVariables false
noncomputable def occG (sub : List Nat) (k hi : Nat) : Nat → List Nat → Nat → Nat → Nat → List Nat
  | 0, _, _, _, _ => []
  | n + 1, rest, i, free, lim =>
    match Nat.blt 0 lim && (Nat.ble free i && (Nat.ble (i + k) hi && (rest.take k == sub))) with
    | true => i :: occG sub k hi n rest.tail (i + 1) (i + k) (lim - 1)
    | false => occG sub k hi n rest.tail (i + 1) free lim
theorem occ_run (x y : PySem.Str) (hi limit : Nat) : ∀ (n i free : Nat) (found : Array Nat), 
    (forIn (List.range' i n) (found, free) (occBody x y hi limit)).run.fst.toList = found.toList ++ occG y.cps.toList y.length hi n (x.cps.toList.drop i) i free (limit - found.size)
  | 0, i, free, found => by simp [occG]
  | n + 1, i, free, found => by
    rw [List.range'_succ, List.forIn_cons]
    have ht : (x.cps.toList.drop i).tail = x.cps.toList.drop (i + 1) := by rw [List.tail_drop]
    have hs : subAt x y i = ((x.cps.toList.drop i).take y.length == y.cps.toList) := subAt_eq x y i
    by_cases hc : ((found.size < limit ∧ free ≤ i) ∧ i + y.length ≤ hi) ∧ subAt x y i = true
    · have e : (Nat.blt 0 (limit - found.size) && (Nat.ble free i && (Nat.ble (i + y.length) hi && ((x.cps.toList.drop i).take y.length == y.cps.toList)))) = true := by
        rw [← hs, hc.2, Bool.and_eq_true, Bool.and_eq_true, Bool.and_eq_true]
        exact ⟨Nat.ble_eq_true_of_le (by omega), Nat.ble_eq_true_of_le hc.1.1.2, Nat.ble_eq_true_of_le hc.1.2, rfl⟩
      unfold occBody
      rw [if_pos hc]
      show (forIn (List.range' (i + 1) n) (found.push i, i + y.length) (occBody x y hi limit)).run.fst.toList = _
      rw [occ_run x y hi limit n (i + 1) (i + y.length) (found.push i), occG, e, ht]
      simp [Array.size_push, Nat.sub_add_eq]
    · have e : (Nat.blt 0 (limit - found.size) && (Nat.ble free i && (Nat.ble (i + y.length) hi && ((x.cps.toList.drop i).take y.length == y.cps.toList)))) = false := by
        rw [← hs, Bool.eq_false_iff]
        intro h
        rw [Bool.and_eq_true, Bool.and_eq_true, Bool.and_eq_true] at h
        obtain ⟨h1, h2, h3, h4⟩ := h
        have h1' := Nat.le_of_ble_eq_true h1
        exact hc ⟨⟨⟨by omega, Nat.le_of_ble_eq_true h2⟩, Nat.le_of_ble_eq_true h3⟩, h4⟩
      unfold occBody
      rw [if_neg hc]
      show (forIn (List.range' (i + 1) n) (found, free) (occBody x y hi limit)).run.fst.toList = _
      rw [occ_run x y hi limit n (i + 1) free found, occG, e, ht]
theorem occ_fast (x y : PySem.Str) (lo hi lim : Nat) : occurrences x y lo hi lim = occG y.cps.toList y.length hi (hi + 1 - lo) (x.cps.toList.drop lo) lo lo lim := by
  rw [occ_eq, occ_run]
  simp
end
-- KStr2
noncomputable section
open PySem.Builtin.Str PySem PySem.W PyProof.Rows PySem.Calls PySem.Spec PySem.StrLaws
set_option Elab.async false
set_option maxRecDepth 100000
set_option maxHeartbeats 8000000
set_option linter.unusedVariables false
noncomputable abbrev sl (l : List Nat) : PySem.Str := ⟨l.toArray⟩
theorem pick_range (l : List Nat) (i : Nat) : ∀ k : Nat, (List.range k).filterMap (fun q => l[i + q]?) = (l.drop i).take k
  | 0 => by simp
  | k + 1 => by
    rw [List.range_succ, List.filterMap_append, pick_range l i k, List.take_add_one, List.getElem?_drop]
    have : List.filterMap (fun q => l[i + q]?) [k] = (l[i + k]?).toList := by
      cases h : l[i + k]? <;> simp [List.filterMap_cons, h]
    rw [this]
theorem range_eq (i j : Nat) : sliceRange (i : Int) (j : Int) 1 = (List.range (j - i)).map (fun k => i + k) := by
  unfold sliceRange
  have hc : (if (1 : Int) > 0 then (if (i : Int) < (j : Int) then ((j : Int) - i + 1 - 1) / 1 else 0) else (if (i : Int) > (j : Int) then ((i : Int) - j - 1 - 1) / (-1) else 0)).toNat = j - i := by
    rw [if_pos (by decide), Int.ediv_one]
    split <;> omega
  have hf : (fun (k : Nat) => ((i : Int) + 1 * (k : Int)).toNat) = fun k => i + k := by funext k; omega
  show (List.range (if (1 : Int) > 0 then (if (i : Int) < (j : Int) then ((j : Int) - i + 1 - 1) / 1 else 0) else (if (i : Int) > (j : Int) then ((i : Int) - j - 1 - 1) / (-1) else 0)).toNat).map (fun (k : Nat) => ((i : Int) + 1 * (k : Int)).toNat) = _
  rw [hc, hf]
theorem slice_of {l : List Nat} {lo hi : Option Int} {i j : Nat} (h : strSliceIndices lo hi 1 l.length = sliceRange (i : Int) (j : Int) 1) (hij : i ≤ j) (hj : j ≤ l.length) : Txt.slice (sl l) lo hi = sl ((l.drop i).take (j - i)) := by
  have hlen : (sl l).length = l.length := by show l.toArray.size = _; rw [List.size_toArray]
  unfold Txt.slice
  rw [hlen, h, range_eq]
  have hpick : (List.map (fun k => i + k) (List.range (j - i))).filterMap (fun q => (sl l).cps[q]?) = (l.drop i).take (j - i) := by
    rw [List.filterMap_map, ← pick_range l i (j - i)]
    congr 1
    funext q
    simp [Function.comp]
  split
  · rename_i hb
    rw [Bool.and_eq_true, List.length_map, List.length_range, beq_iff_eq, beq_iff_eq] at hb
    have hi0 : i = 0 := by omega
    have hjl : j = l.length := by omega
    subst hi0 hjl
    simp
  · rw [hpick]
theorem slice_ij {l : List Nat} {i j : Nat} (hij : i ≤ j) (hj : j ≤ l.length) : Txt.slice (sl l) (some (i : Int)) (some (j : Int)) = sl ((l.drop i).take (j - i)) := by
  refine slice_of ?_ hij hj
  show sliceRange (max 0 (min (if (i : Int) < 0 then (i : Int) + (l.length : Int) else i) (l.length : Int))) (max 0 (min (if (j : Int) < 0 then (j : Int) + (l.length : Int) else j) (l.length : Int))) 1 = _
  have e1 : max 0 (min (if (i : Int) < 0 then (i : Int) + (l.length : Int) else i) (l.length : Int)) = (i : Int) := by split <;> omega
  have e2 : max 0 (min (if (j : Int) < 0 then (j : Int) + (l.length : Int) else j) (l.length : Int)) = (j : Int) := by split <;> omega
  rw [e1, e2]
theorem slice_nj {l : List Nat} {j : Nat} (hj : j ≤ l.length) : Txt.slice (sl l) none (some (j : Int)) = sl (l.take j) := by
  have := slice_of (l := l) (lo := none) (hi := some (j : Int)) (i := 0) (j := j) ?_ (Nat.zero_le _) hj
  · rw [this]; simp
  · show sliceRange (if (1 : Int) > 0 then 0 else (l.length : Int) - 1) (max 0 (min (if (j : Int) < 0 then (j : Int) + (l.length : Int) else j) (l.length : Int))) 1 = _
    have e2 : max 0 (min (if (j : Int) < 0 then (j : Int) + (l.length : Int) else j) (l.length : Int)) = (j : Int) := by split <;> omega
    rw [e2, if_pos (by decide)]; rfl
theorem slice_last {l : List Nat} {c : Nat} : Txt.slice (sl (l ++ [c])) none (some (-1)) = sl l := by
  have := slice_of (l := l ++ [c]) (lo := none) (hi := some (-1)) (i := 0) (j := l.length) ?_ (Nat.zero_le _) (by simp)
  · rw [this]; simp
  · show sliceRange (if (1 : Int) > 0 then 0 else ((l ++ [c]).length : Int) - 1) (max 0 (min (if (-1 : Int) < 0 then (-1 : Int) + ((l ++ [c]).length : Int) else -1) ((l ++ [c]).length : Int))) 1 = _
    have hl : (l ++ [c]).length = l.length + 1 := by simp
    have e2 : max 0 (min (if (-1 : Int) < 0 then (-1 : Int) + ((l ++ [c]).length : Int) else -1) ((l ++ [c]).length : Int)) = (l.length : Int) := by rw [hl]; split <;> omega
    rw [e2, if_pos (by decide)]; rfl
theorem item_at {l : List Nat} {i : Nat} {c : Nat} (h : l[i]? = some c) : Txt.item (sl l) (i : Int) = sl [c] := by
  obtain ⟨hlt, _⟩ := List.getElem?_eq_some_iff.mp h
  have hs : seqIndex? (i : Int) (sl l).length = some i := by
    unfold seqIndex?
    show (if (decide (0 ≤ (if (i : Int) < 0 then (i : Int) + (l.toArray.size : Int) else i)) && decide ((if (i : Int) < 0 then (i : Int) + (l.toArray.size : Int) else i) < (l.toArray.size : Int))) = true then some (if (i : Int) < 0 then (i : Int) + (l.toArray.size : Int) else i).toNat else none) = some i
    have e : (if (i : Int) < 0 then (i : Int) + (l.toArray.size : Int) else (i : Int)) = i := by split <;> omega
    rw [e, List.size_toArray, decide_eq_true (by omega : (0 : Int) ≤ i), decide_eq_true (by omega : (i : Int) < l.length)]
    simp
  unfold Txt.item Txt.charAt
  rw [hs]
  show (⟨#[((sl l).cps[i]?).getD 0]⟩ : PySem.Str) = _
  have : (sl l).cps[i]? = some c := by show l.toArray[i]? = _; rw [List.getElem?_toArray, h]
  rw [this]; rfl
/-- the first place of a sign -/
theorem occ_head {c : Nat} : ∀ (U T : List Nat) (hi n i free : Nat), (∀ u ∈ U, u ≠ c) → free ≤ i → i + U.length + 1 ≤ hi → U.length + 1 ≤ n → ∃ r, occG [c] 1 hi n (U ++ c :: T) i free 1 = (i + U.length) :: r
  | [], T, hi, n, i, free, _, hf, hh, hn => by
    obtain ⟨n, rfl⟩ : ∃ k, n = k + 1 := ⟨n - 1, by simp at hn; omega⟩
    rw [List.nil_append, occG]
    have e : (Nat.blt 0 1 && (Nat.ble free i && (Nat.ble (i + 1) hi && ((c :: T).take 1 == [c])))) = true := by
      rw [Bool.and_eq_true, Bool.and_eq_true, Bool.and_eq_true]
      exact ⟨rfl, Nat.ble_eq_true_of_le hf, Nat.ble_eq_true_of_le (by simp at hh; omega), by simp⟩
    rw [e]
    exact ⟨_, rfl⟩
  | u :: U, T, hi, n, i, free, hU, hf, hh, hn => by
    obtain ⟨n, rfl⟩ : ∃ k, n = k + 1 := ⟨n - 1, by simp at hn; omega⟩
    rw [List.cons_append, occG]
    have hu := hU u (List.mem_cons_self ..)
    have e : (Nat.blt 0 1 && (Nat.ble free i && (Nat.ble (i + 1) hi && ((u :: (U ++ c :: T)).take 1 == [c])))) = false := by
      have : ((u :: (U ++ c :: T)).take 1 == [c]) = false := by simp [hu]
      rw [this]; simp
    rw [e]
    obtain ⟨r, hr⟩ := occ_head U T hi n (i + 1) free (fun v hv => hU v (List.mem_cons_of_mem _ hv)) (by omega) (by simp at hh; omega) (by simp at hn; omega)
    refine ⟨r, ?_⟩
    show occG [c] 1 hi n (U ++ c :: T) (i + 1) free 1 = _
    rw [hr, List.length_cons]
    congr 1; omega
theorem occ_no {c : Nat} : ∀ (U : List Nat) (hi n i free lim : Nat), (∀ u ∈ U, u ≠ c) → occG [c] 1 hi n U i free lim = []
  | U, hi, 0, i, free, lim, _ => rfl
  | [], hi, n + 1, i, free, lim, h => by
    rw [occG]
    have : (([] : List Nat).take 1 == [c]) = false := by simp
    rw [this, Bool.and_false, Bool.and_false, Bool.and_false]
    exact occ_no [] hi n (i + 1) free lim h
  | u :: U, hi, n + 1, i, free, lim, h => by
    rw [occG]
    have : ((u :: U).take 1 == [c]) = false := by simp [h u (List.mem_cons_self ..)]
    rw [this, Bool.and_false, Bool.and_false, Bool.and_false]
    exact occ_no U hi n (i + 1) free lim fun v hv => h v (List.mem_cons_of_mem _ hv)
theorem find_at {A T : List Nat} {c : Nat} (h : ∀ u ∈ A, u ≠ c) : Txt.find (sl (A ++ c :: T)) (sl [c]) = (A.length : Int) := by
  unfold Txt.find
  rw [occ_fast]
  obtain ⟨r, hr⟩ := occ_head A T (A ++ c :: T).length ((A ++ c :: T).length + 1 - 0) 0 0 h (Nat.le_refl _) (by simp <;> omega) (by simp <;> omega)
  have e1 : (sl (A ++ c :: T)).length = (A ++ c :: T).length := by show (A ++ c :: T).toArray.size = _; rw [List.size_toArray]
  have e2 : (sl (A ++ c :: T)).cps.toList = A ++ c :: T := by show (A ++ c :: T).toArray.toList = _; simp
  rw [e1, e2]
  show (match occG [c] 1 (A ++ c :: T).length ((A ++ c :: T).length + 1 - 0) (List.drop 0 (A ++ c :: T)) 0 0 1 with | i :: _ => (i : Int) | [] => -1) = _
  rw [List.drop_zero, hr]
  simp
theorem find_none {A : List Nat} {c : Nat} (h : ∀ u ∈ A, u ≠ c) : Txt.find (sl A) (sl [c]) = -1 := by
  unfold Txt.find
  rw [occ_fast]
  have e2 : (sl A).cps.toList = A := by show A.toArray.toList = _; simp
  rw [e2, List.drop_zero]
  show (match occG [c] 1 (sl A).length ((sl A).length + 1 - 0) A 0 0 1 with | i :: _ => (i : Int) | [] => -1) = _
  rw [occ_no A _ _ _ _ _ h]
theorem from_nat {n i : Nat} : fromIndex n (i : Int) = i := by
  unfold fromIndex
  split <;> omega
theorem find3_at {P U T : List Nat} {c : Nat} (h : ∀ u ∈ U, u ≠ c) : Txt.find3 (sl (P ++ (U ++ c :: T))) (sl [c]) (P.length : Int) = ((P.length + U.length : Nat) : Int) := by
  unfold Txt.find3
  rw [occ_fast, from_nat]
  obtain ⟨r, hr⟩ := occ_head U T (P ++ (U ++ c :: T)).length ((P ++ (U ++ c :: T)).length + 1 - P.length) P.length P.length h (Nat.le_refl _) (by simp; omega) (by simp; omega)
  have e1 : (sl (P ++ (U ++ c :: T))).length = (P ++ (U ++ c :: T)).length := by show (P ++ (U ++ c :: T)).toArray.size = _; rw [List.size_toArray]
  have e2 : (sl (P ++ (U ++ c :: T))).cps.toList = P ++ (U ++ c :: T) := by show (P ++ (U ++ c :: T)).toArray.toList = _; simp
  rw [e1, e2, List.drop_left]
  show (match occG [c] 1 (P ++ (U ++ c :: T)).length ((P ++ (U ++ c :: T)).length + 1 - P.length) (U ++ c :: T) P.length P.length 1 with | i :: _ => (i : Int) | [] => -1) = _
  rw [hr]
theorem find3_none {P U : List Nat} {c : Nat} (h : ∀ u ∈ U, u ≠ c) : Txt.find3 (sl (P ++ U)) (sl [c]) (P.length : Int) = -1 := by
  unfold Txt.find3
  rw [occ_fast, from_nat]
  have e2 : (sl (P ++ U)).cps.toList = P ++ U := by show (P ++ U).toArray.toList = _; simp
  rw [e2, List.drop_left]
  show (match occG [c] 1 (sl (P ++ U)).length ((sl (P ++ U)).length + 1 - P.length) U P.length P.length 1 with | i :: _ => (i : Int) | [] => -1) = _
  rw [occ_no U _ _ _ _ _ h]
end
-- KStr3
noncomputable section
open PySem.Builtin.Str PySem PySem.W PyProof.Rows PySem.Calls PySem.Spec PySem.StrLaws
set_option Elab.async false
set_option maxRecDepth 100000
set_option maxHeartbeats 0
set_option linter.unusedVariables false
theorem sl_app (a b : List Nat) : sl a ++ sl b = sl (a ++ b) := by
  show (⟨a.toArray ++ b.toArray⟩ : PySem.Str) = ⟨(a ++ b).toArray⟩
  simp
theorem sl_len (a : List Nat) : (sl a).length = a.length := by show a.toArray.size = _; rw [List.size_toArray]
noncomputable def preL (a : Nat) : List Nat := match a with | 1 => [43] | 2 => [48] | 3 => [32] | _ => []
noncomputable def pstL (b : Nat) : List Nat := match b with | 1 => [32] | _ => []
noncomputable def mkL (d : Nat) : Nat := match d with | 0 => 124 | 1 => 33 | 2 => 59 | _ => 120
noncomputable def bhL (e : Nat) : List Nat := match e with | 1 => [46] | 2 => [32, 40, 124, 124, 124, 57, 124, 41] | _ => []
noncomputable def f3L (a c r : Nat) : List Nat := preL a ++ (48 + r) :: pstL c
noncomputable def P9 : List Nat := [50, 50, 57, 32, 111, 107, 41, 32, 40]
noncomputable def M3 (k : Nat) (u v x : List Nat) : List Nat := k :: (u ++ k :: (v ++ k :: (x ++ [k])))
noncomputable def M4 (k : Nat) (u v x y : List Nat) : List Nat := k :: (u ++ k :: (v ++ k :: (x ++ k :: (y ++ [k]))))
noncomputable def M2 (k : Nat) (u v : List Nat) : List Nat := k :: (u ++ k :: (v ++ [k]))
theorem reply3 {c : List Nat} {k : Nat} {u v x bh : List Nat} : replyS (sl c) [sl u, sl v, sl x] (sl [k]) (sl bh) = sl ((c ++ [32, 111, 107, 41, 32, 40]) ++ (M3 k u v x ++ 41 :: bh)) := by
  have e1 : PySem.Str.ofString " ok) (" = sl [32, 111, 107, 41, 32, 40] := by decide +kernel
  have e2 : PySem.Str.ofString ")" = sl [41] := by decide +kernel
  have e3 : Txt.join (sl [k]) [sl u, sl v, sl x] = sl u ++ sl [k] ++ sl v ++ sl [k] ++ sl x := rfl
  unfold replyS M3
  rw [e1, e2, e3]
  simp only [sl_app]
  refine congrArg sl ?_
  simp
theorem reply4 {c : List Nat} {k : Nat} {u v x y bh : List Nat} : replyS (sl c) [sl u, sl v, sl x, sl y] (sl [k]) (sl bh) = sl ((c ++ [32, 111, 107, 41, 32, 40]) ++ (M4 k u v x y ++ 41 :: bh)) := by
  have e1 : PySem.Str.ofString " ok) (" = sl [32, 111, 107, 41, 32, 40] := by decide +kernel
  have e2 : PySem.Str.ofString ")" = sl [41] := by decide +kernel
  have e3 : Txt.join (sl [k]) [sl u, sl v, sl x, sl y] = sl u ++ sl [k] ++ sl v ++ sl [k] ++ sl x ++ sl [k] ++ sl y := rfl
  unfold replyS M4
  rw [e1, e2, e3]
  simp only [sl_app]
  refine congrArg sl ?_
  simp
theorem reply2 {c : List Nat} {k : Nat} {u v bh : List Nat} : replyS (sl c) [sl u, sl v] (sl [k]) (sl bh) = sl ((c ++ [32, 111, 107, 41, 32, 40]) ++ (M2 k u v ++ 41 :: bh)) := by
  have e1 : PySem.Str.ofString " ok) (" = sl [32, 111, 107, 41, 32, 40] := by decide +kernel
  have e2 : PySem.Str.ofString ")" = sl [41] := by decide +kernel
  have e3 : Txt.join (sl [k]) [sl u, sl v] = sl u ++ sl [k] ++ sl v := rfl
  unfold replyS M2
  rw [e1, e2, e3]
  simp only [sl_app]
  refine congrArg sl ?_
  simp
/-- what parse229 sees in a text that has the brackets -/
theorem seen {M T : List Nat} {k k' : Nat} (hM : ∀ u ∈ M, u ≠ 41) (hs : M[0]? = some k) (he : M[M.length - 1]? = some k') (h1 : M ≠ []) (hl : M.length + T.length ≤ 900) :
    (sl (P9 ++ (M ++ 41 :: T))).length ≤ 1000 ∧ (Txt.slice (sl (P9 ++ (M ++ 41 :: T))) none (some 3) != PySem.Str.ofString "229") = false ∧ fL (sl (P9 ++ (M ++ 41 :: T))) = 8 ∧ fR (sl (P9 ++ (M ++ 41 :: T))) = ((9 + M.length : Nat) : Int) ∧
    9 < fR (sl (P9 ++ (M ++ 41 :: T))) ∧ fR (sl (P9 ++ (M ++ 41 :: T))) < (sl (P9 ++ (M ++ 41 :: T))).length ∧ Txt.item (sl (P9 ++ (M ++ 41 :: T))) (fL (sl (P9 ++ (M ++ 41 :: T))) + 1) = sl [k] ∧
    Txt.item (sl (P9 ++ (M ++ 41 :: T))) (fR (sl (P9 ++ (M ++ 41 :: T))) - 1) = sl [k'] ∧ Txt.slice (sl (P9 ++ (M ++ 41 :: T))) (some (fL (sl (P9 ++ (M ++ 41 :: T))) + 1)) (some (fR (sl (P9 ++ (M ++ 41 :: T))))) = sl M := by
  have e1 : PySem.Str.ofString "(" = sl [40] := by decide +kernel
  have e2 : PySem.Str.ofString ")" = sl [41] := by decide +kernel
  have e3 : PySem.Str.ofString "229" = sl [50, 50, 57] := by decide +kernel
  have hL : fL (sl (P9 ++ (M ++ 41 :: T))) = 8 := by
    unfold fL
    rw [e1]
    exact find_at (A := [50, 50, 57, 32, 111, 107, 41, 32]) (T := M ++ 41 :: T) (by decide)
  have hR : fR (sl (P9 ++ (M ++ 41 :: T))) = ((9 + M.length : Nat) : Int) := by
    show Txt.find3 _ _ (fL (sl (P9 ++ (M ++ 41 :: T))) + 1) = _
    rw [hL, e2]
    exact find3_at (P := P9) hM
  have hlen : (P9 ++ (M ++ 41 :: T)).length = 10 + M.length + T.length := by simp [P9]; omega
  have hpos : 0 < M.length := List.length_pos_iff.mpr h1
  rw [hL, hR, sl_len, hlen]
  refine ⟨by omega, ?_, rfl, rfl, by omega, by omega, ?_, ?_, ?_⟩
  · have := slice_nj (l := P9 ++ (M ++ 41 :: T)) (j := 3) (by omega)
    have h3 : ((3 : Nat) : Int) = 3 := rfl
    rw [h3] at this
    rw [this, e3]
    rfl
  · have : (P9 ++ (M ++ 41 :: T))[9]? = some k := by
      rw [List.getElem?_append_right (by simp [P9])]
      show (M ++ 41 :: T)[0]? = _
      rw [List.getElem?_append_left hpos]; exact hs
    exact item_at this
  · have h9 : (((9 + M.length : Nat) : Int) - 1) = ((8 + M.length : Nat) : Int) := by omega
    rw [h9]
    have : (P9 ++ (M ++ 41 :: T))[8 + M.length]? = some k' := by
      rw [List.getElem?_append_right (by simp [P9]; omega)]
      have h7 : 8 + M.length - P9.length = M.length - 1 := by show 8 + M.length - 9 = _; omega
      rw [h7, List.getElem?_append_left (by omega)]; exact he
    exact item_at this
  · have h9 : ((8 : Int) + 1) = ((9 : Nat) : Int) := rfl
    rw [h9, slice_ij (by omega) (by omega)]
    have h7 : List.drop 9 (P9 ++ (M ++ 41 :: T)) = M ++ 41 :: T := by
      rw [show 9 = P9.length from rfl, List.drop_left]
    rw [h7, show 9 + M.length - 9 = M.length by omega, List.take_left]
noncomputable def splitG (l : List Nat) (k : Nat) : List PySem.Str := partsBetween (sl l) (occG [k] 1 l.length (l.length + 1) l 0 0 (l.length + 1)) 1
theorem kind1 {l : List Nat} (h : ∀ u ∈ l, u < 256) : Builtin.Str.strKind (sl l) = 1 := by
  unfold Builtin.Str.strKind
  rw [if_pos]
  show l.toArray.all (· < 256) = true
  rw [List.all_toArray, List.all_eq_true]
  exact fun u hu => decide_eq_true (h u hu)
theorem split_g {l : List Nat} {k : Nat} (h : ∀ u ∈ l, u < 256) (hm : k ∈ l) : Txt.split (sl l) (sl [k]) = splitG l k := by
  unfold Txt.split splitG
  have hpos : 0 < l.length := List.length_pos_of_mem hm
  have hk : k < 256 := h k hm
  have e1 : decide ((sl l).length < (sl [k]).length) = false := by
    exact decide_eq_false (by rw [sl_len]; show ¬ l.length < 1; omega)
  have e2 : decide (Builtin.Str.strKind (sl l) < Builtin.Str.strKind (sl [k])) = false := by
    rw [kind1 h, kind1 (l := [k]) (fun u hu => by rw [List.mem_singleton] at hu; omega)]; rfl
  rw [e1, e2, occ_fast, sl_len, List.drop_zero]
  have e3 : (sl l).cps.toList = l := by show l.toArray.toList = _; simp
  rw [e3]
  show (if false = true then _ else if (occG [k] 1 l.length (l.length + 1 - 0) l 0 0 (l.length + 1)).isEmpty = true then [sl l] else partsBetween (sl l) (occG [k] 1 l.length (l.length + 1 - 0) l 0 0 (l.length + 1)) 1) = _
  rw [if_neg Bool.false_ne_true]
  split
  · rename_i he
    rw [List.isEmpty_iff] at he
    show [sl l] = partsBetween (sl l) (occG [k] 1 l.length (l.length + 1 - 0) l 0 0 (l.length + 1)) 1
    rw [he]
    simp [partsBetween, strSub, Str.length]
  · rfl
noncomputable def replaceF (x y z : PySem.Str) : PySem.Str :=
  match occG y.cps.toList y.length x.length (x.length + 1 - 0) (x.cps.toList.drop 0) 0 0 (x.length + 1) with
  | [] => x
  | l => if (y.length == 0 && z.length == 0) = true then x else glued z (partsBetween x l y.length)
theorem replace_f (x y z : PySem.Str) : Txt.replace x y z = replaceF x y z := by
  unfold Txt.replace replaceF
  rw [occ_fast]
  cases occG y.cps.toList y.length x.length (x.length + 1 - 0) (x.cps.toList.drop 0) 0 0 (x.length + 1) with
  | nil => rfl
  | cons a l =>
    by_cases h : (y.length == 0 && z.length == 0) = true
    · show (if (false || (y.length == 0 && z.length == 0)) = true then x else _) = if (y.length == 0 && z.length == 0) = true then x else _
      rw [Bool.false_or]
    · show (if (false || (y.length == 0 && z.length == 0)) = true then x else _) = if (y.length == 0 && z.length == 0) = true then x else _
      rw [Bool.false_or]
noncomputable def all4 (f : Nat → Nat → Nat → Nat → Nat → Bool) : Bool := (List.range 4).all fun a => (List.range 4).all fun b => (List.range 2).all fun c => (List.range 4).all fun d => (List.range 4).all fun r => f a b c d r
theorem split3 : all4 (fun a b c d r => splitG (M3 (mkL d) [48 + a] [48 + b] (f3L a c r)) (mkL d) == [sl [], sl [48 + a], sl [48 + b], sl (f3L a c r), sl []]) = true := by kernel_rfl
theorem split4 : all4 (fun a b c d r => splitG (M4 (mkL d) [48 + a] [48 + b] (f3L a c r) [52]) (mkL d) == [sl [], sl [48 + a], sl [48 + b], sl (f3L a c r), sl [52], sl []]) = true := by kernel_rfl
theorem split2 : all4 (fun a b c d r => splitG (M2 (mkL d) [48 + b] (f3L a c r)) (mkL d) == [sl [], sl [48 + b], sl (f3L a c r), sl []]) = true := by kernel_rfl
end
section
local macro_rules | `(tactic| k_ne) => `(tactic| (refine neN ?_; (try dsimp only); first | exact NeK.out (by with_reducible assumption) | exact Ne.symm (NeK.out (by with_reducible assumption)) | omega))
local macro_rules | `(tactic| k_all) => `(tactic| with_reducible assumption)
section
local macro_rules | `(tactic| k_lt $h) => `(tactic| (have kq9' := Kept.mk (allLt_of $h); (refine nesSplit (ltK (Kept.out kq9')) ?_; dsimp only [NesArrow]; intros; (try (refine nesArrow_intro ?_; intro _))); clear $h))
-- KLD
noncomputable section
open PySem PySem.W PyProof.Rows PySem.Calls PySem.Spec
set_option Elab.async false
set_option maxRecDepth 100000
set_option maxHeartbeats 8000000
set_option linter.unusedVariables false
open LCg LCt
section
theorem law_D (w : World) (mean : ExcName → Option Value) (mg mb : PySem.Str → Option Value) {g h : Heap} {L f : Addr} {cdv : Value} {m : PySem.Str → Option Value} {gens : Array GenState} {drawn : Drawn} {toks : Nat} {os : OsState} {Q : Flow → Shared → Prop} {E : Value → Shared → Prop} {l lr : Addr} {cvs rvs : List Value} {o1 : Obj} {o2 : Obj} {o3 : Obj} {o4 : Obj} {o5 : Obj} {o6 : Obj} {o7 : Obj} {o8 : Obj} {o9 : Obj} {o10 : Obj}
   (B : Below callerA g [] g) (X : (KF w.params).In g) (T : Top vw LW mean mg mb g) (F : Fr g L h m) (N : News g L h [(lr, lst rvs), (l, W.listOf cvs.toArray 0), (L + 1 + 1 + 1 + 1 + 1 + 1 + 1 + 1 + 1 + 1, o10), (L + 1 + 1 + 1 + 1 + 1 + 1 + 1 + 1 + 1, o9), (L + 1 + 1 + 1 + 1 + 1 + 1 + 1 + 1, o8), (L + 1 + 1 + 1 + 1 + 1 + 1 + 1, o7), (L + 1 + 1 + 1 + 1 + 1 + 1, o6), (L + 1 + 1 + 1 + 1 + 1, o5), (L + 1 + 1 + 1 + 1, o4), (L + 1 + 1 + 1, o3), (L + 1 + 1, o2), (L + 1, o1)]) (d5 : o5.data = .cell none) (d6 : o6.data = .cell none) (d7 : o7.data = .cell none) (hD : Dst [lr, l, L + 1 + 1 + 1 + 1 + 1 + 1 + 1 + 1 + 1 + 1, L + 1 + 1 + 1 + 1 + 1 + 1 + 1 + 1 + 1, L + 1 + 1 + 1 + 1 + 1 + 1 + 1 + 1, L + 1 + 1 + 1 + 1 + 1 + 1 + 1, L + 1 + 1 + 1 + 1 + 1 + 1, L + 1 + 1 + 1 + 1 + 1, L + 1 + 1 + 1 + 1, L + 1 + 1 + 1, L + 1 + 1, L + 1])
   (hE : PassesOwn (model pwC w) (callerA.deeper (envOfC (PySem.Str.ofString "law") lawSc L f cdv)) (envOfC (PySem.Str.ofString "law") lawSc L f cdv) E)
   (use : ∀ (h' : Heap) (tk' : Nat) (m' : PySem.Str → Option Value) (ltb lle lla lco : Addr) (o5' o6' o7' : Obj), Fr g L h' m' → m' (PySem.Str.ofString "labels") = some (.ref lla) → (∀ y, y ≠ (PySem.Str.ofString "labels") → m' y = m y) → News g L h' [(ltb, W.listOf #[] 0), (lle, W.listOf #[] 0), (lla, W.listOf #[] 0), (lco, W.listOf #[] 0), (lr, lst rvs), (l, W.listOf cvs.toArray 0), (L + 1 + 1 + 1 + 1 + 1 + 1 + 1 + 1 + 1 + 1, o10), (L + 1 + 1 + 1 + 1 + 1 + 1 + 1 + 1 + 1, o9), (L + 1 + 1 + 1 + 1 + 1 + 1 + 1 + 1, o8), (L + 1 + 1 + 1 + 1 + 1 + 1 + 1, o7'), (L + 1 + 1 + 1 + 1 + 1 + 1, o6'), (L + 1 + 1 + 1 + 1 + 1, o5'), (L + 1 + 1 + 1 + 1, o4), (L + 1 + 1 + 1, o3), (L + 1 + 1, o2), (L + 1, o1)] → o5'.data = .cell (some (.ref lco)) → o6'.data = .cell (some (.ref lle)) → o7'.data = .cell (some (.ref ltb)) → Dst [ltb, lle, lla, lco, lr, l, L + 1 + 1 + 1 + 1 + 1 + 1 + 1 + 1 + 1 + 1, L + 1 + 1 + 1 + 1 + 1 + 1 + 1 + 1 + 1, L + 1 + 1 + 1 + 1 + 1 + 1 + 1 + 1, L + 1 + 1 + 1 + 1 + 1 + 1 + 1, L + 1 + 1 + 1 + 1 + 1 + 1, L + 1 + 1 + 1 + 1 + 1, L + 1 + 1 + 1 + 1, L + 1 + 1 + 1, L + 1 + 1, L + 1] → @LT.lt Nat _ lco lla → @LT.lt Nat _ lla lle → @LT.lt Nat _ lle ltb → Q .next ⟨h', gens, drawn, tk', os⟩) : wpAny (model pwC w) (callerA.deeper (envOfC (PySem.Str.ofString "law") lawSc L f cdv)) (execs lawD (envOfC (PySem.Str.ofString "law") lawSc L f cdv)) Q E ⟨h, gens, drawn, toks, os⟩ := by
  have hfill : (PySem.Challenge.rw_yh0002_01 = PySem.Challenge.rw_yh0002_01) ∧ KF = KF := by k_fill; exact ⟨rfl, rfl⟩
  clear hfill
  unfold lawD
  unfold lawSc at *
  dsimp only at hE ⊢
  have nk5_0 : NeK lr (L + 1 + 1 + 1 + 1 + 1) := dstK hD 0 (j := 7) rfl rfl (by decide)
  have nk5_1 : NeK l (L + 1 + 1 + 1 + 1 + 1) := dstK hD 1 (j := 7) rfl rfl (by decide)
  have nk6_0 : NeK lr (L + 1 + 1 + 1 + 1 + 1 + 1) := dstK hD 0 (j := 6) rfl rfl (by decide)
  have nk6_1 : NeK l (L + 1 + 1 + 1 + 1 + 1 + 1) := dstK hD 1 (j := 6) rfl rfl (by decide)
  have nk7_0 : NeK lr (L + 1 + 1 + 1 + 1 + 1 + 1 + 1) := dstK hD 0 (j := 5) rfl rfl (by decide)
  have nk7_1 : NeK l (L + 1 + 1 + 1 + 1 + 1 + 1 + 1) := dstK hD 1 (j := 5) rfl rfl (by decide)
  (repeat' (first | (k_unfold; (try dsimp only)) | (k_end; wrow_close) | (with_reducible ((with_reducible show wpAny _ _ (eval (PySem.Expr.ListComp _ _ _ _) _) _ _ _); (with_reducible show wpAny _ _ (eval (PySem.Expr.ListComp _ [⟨_, _, [], _⟩] _ _) _) _ _ _); k_dflt (refine LCg.ListComp_U (F₀ := by k_asm) (by with_unfolding_all rfl) (by decide) (by rfl) (by decide) (by rfl) ?_); k_dflt lcg_toSrc)) | (with_reducible ((with_reducible show wpAny _ _ (eval (PySem.Expr.ListComp _ _ _ _) _) _ _ _); (with_reducible show wpAny _ _ (eval (PySem.Expr.ListComp _ [⟨_, _, [_], _⟩] _ _) _) _ _ _); k_dflt (refine LCt.ListComp_T (F₀ := by k_asm) (by with_unfolding_all rfl) (by decide) (by rfl) (by decide) (by rfl) ?_); k_dflt lct_toSrc)) | (with_reducible ((with_reducible show wpAny _ _ (exec (Stmt.For _ _ _ _ _) _) _ _ _); (rename Fr _ _ _ _ => lF'); (with_unfolding_all refine' For_turns lF' ?_ ?zhs99 ?zhE99; (case zhs99 => (intro _; rfl)); (case zhE99 => assumption); k_whole))) | (with_reducible ((with_reducible show wpAny _ _ (eval (PySem.Expr.Name _ _) _) _ _ _); k_dflt (refine' nameX_L ?zF9 ?zv9 ?_ ?za9 ?zb9; (case zF9 => k_asm); (case za9 => rfl); (case zb9 => rfl); (case zv9 => first | with_reducible assumption | ((try dsimp only); first | with_reducible assumption | (refine (if_neg (by decide)).trans ?_; with_reducible assumption) | (refine (if_neg (by decide)).trans ((if_neg (by decide)).trans ?_); with_reducible assumption) | (refine (if_neg (by decide)).trans ((if_neg (by decide)).trans ((if_neg (by decide)).trans ?_)); with_reducible assumption))); k_whole))) | walk1 | (dsimp only; walk1) | (leave1; walk_say "STEP leave1"; try dsimp only) | fail "no step"))
  rename Kept (AllLt _ ((_, W.listOf #[] 0) :: (_, W.listOf #[] 0) :: (_, W.listOf #[] 0) :: (lr, _) :: _)) => kq4
  rename Kept (AllLt _ ((_, W.listOf #[] 0) :: (_, W.listOf #[] 0) :: (lr, _) :: _)) => kq3
  rename Kept (AllLt _ ((_, W.listOf #[] 0) :: (lr, _) :: _)) => kq2
  rename Kept (AllLt _ ((lr, _) :: _)) => kq1
  refine' use _ _ _ _ _ _ _ _ _ _ ?ua ?uc ?ud ?ub ?ue ?uf ?ug ?uh ?ui ?uj ?uk
  case ua => assumption
  case uc => exact rfl
  case ud => (intro y hy; (try dsimp only); exact if_neg hy)
  case ub => assumption
  case ue => assumption
  case uf => assumption
  case ug => assumption
  case uh => exact ⟨neAllOf kq4.out, neAllOf kq3.out, neAllOf kq2.out, neAllOf kq1.out, hD⟩
  case ui => exact kq2.out.1
  case uj => exact kq3.out.1
  case uk => exact kq4.out.1
end
end
-- KLA
noncomputable section
open PySem PySem.W PyProof.Rows PySem.Calls PySem.Spec
set_option Elab.async false
set_option maxRecDepth 100000
set_option maxHeartbeats 8000000
set_option linter.unusedVariables false
section
theorem law_A (w : World) (mean : ExcName → Option Value) (mg mb : PySem.Str → Option Value) {g h : Heap} {L f : Addr} {cdv : Value} {m : PySem.Str → Option Value} {gens : Array GenState} {drawn : Drawn} {toks : Nat} {os : OsState} {Q : Flow → Shared → Prop} {E : Value → Shared → Prop} {sa : Addr} {svs : List Value} {ss : List Int} {o1 : Obj} {o2 : Obj} {o3 : Obj} {o4 : Obj} {o5 : Obj} {o6 : Obj} {o7 : Obj} {o8 : Obj} {o9 : Obj} {o10 : Obj}
   (B : Below callerA g [] g) (X : (KF w.params).In g) (T : Top vw LW mean mg mb g) (F : Fr g L h m) (N : News g L h [(L + 1 + 1 + 1 + 1 + 1 + 1 + 1 + 1 + 1 + 1, o10), (L + 1 + 1 + 1 + 1 + 1 + 1 + 1 + 1 + 1, o9), (L + 1 + 1 + 1 + 1 + 1 + 1 + 1 + 1, o8), (L + 1 + 1 + 1 + 1 + 1 + 1 + 1, o7), (L + 1 + 1 + 1 + 1 + 1 + 1, o6), (L + 1 + 1 + 1 + 1 + 1, o5), (L + 1 + 1 + 1 + 1, o4), (L + 1 + 1 + 1, o3), (L + 1 + 1, o2), (L + 1, o1)]) (d1 : o1.data = .cell none) (d2 : o2.data = .cell none) (d3 : o3.data = .cell none) (d4 : o4.data = .cell none) (d5 : o5.data = .cell none) (d6 : o6.data = .cell none) (d7 : o7.data = .cell none) (d8 : o8.data = .cell none) (d9 : o9.data = .cell none) (d10 : o10.data = .cell none) (hm : m (PySem.Str.ofString "script") = some (.ref sa)) (hs : g.IsList sa svs.toArray) (hi : IntsAre svs ss) (hl : ss.length ≤ 63)
   (hE : PassesOwn (model pwC w) (callerA.deeper (envOfC (PySem.Str.ofString "law") lawSc L f cdv)) (envOfC (PySem.Str.ofString "law") lawSc L f cdv) E)
   (use : ∀ (h' : Heap) (tk' : Nat) (o1' o2' : Obj) (cs : List Int) (cvs : List Value) (l : Addr) (kv : Option Value), Fr g L h' m → News g L h' [(l, W.listOf cvs.toArray 0), (L + 1 + 1 + 1 + 1 + 1 + 1 + 1 + 1 + 1 + 1, o10), (L + 1 + 1 + 1 + 1 + 1 + 1 + 1 + 1 + 1, o9), (L + 1 + 1 + 1 + 1 + 1 + 1 + 1 + 1, o8), (L + 1 + 1 + 1 + 1 + 1 + 1 + 1, o7), (L + 1 + 1 + 1 + 1 + 1 + 1, o6), (L + 1 + 1 + 1 + 1 + 1, o5), (L + 1 + 1 + 1 + 1, o4), (L + 1 + 1 + 1, o3), (L + 1 + 1, o2'), (L + 1, o1')] → o1'.data = .cell (some (.ref l)) → o2'.data = .cell kv → IntsAre cvs cs → cs.length = 3 → @LT.lt Nat _ (L + 1 + 1 + 1 + 1 + 1 + 1 + 1 + 1 + 1 + 1) l → Q .next ⟨h', gens, drawn, tk', os⟩) : wpAny (model pwC w) (callerA.deeper (envOfC (PySem.Str.ofString "law") lawSc L f cdv)) (execs lawA (envOfC (PySem.Str.ofString "law") lawSc L f cdv)) Q E ⟨h, gens, drawn, toks, os⟩ := by
  have hfill : (PySem.Challenge.rw_yh0002_01 = PySem.Challenge.rw_yh0002_01) ∧ KF = KF := by k_fill; exact ⟨rfl, rfl⟩
  clear hfill
  unfold lawA
  unfold lawSc at *
  dsimp only at hE ⊢
  (repeat' (first | (k_unfold; (try dsimp only)) | (k_end; wrow_close) | (with_reducible ((with_reducible show wpAny _ _ (exec (Stmt.For _ _ _ _ _) _) _ _ _); (rename Fr _ _ _ _ => lF'); (with_unfolding_all refine' For_turns lF' ?_ ?zhs99 ?zhE99; (case zhs99 => (intro _; rfl)); (case zhE99 => assumption); k_whole))) | (with_reducible ((with_reducible show wpAny _ _ (eval (PySem.Expr.Name _ _) _) _ _ _); k_dflt (refine' nameX_L ?zF9 ?zv9 ?_ ?za9 ?zb9; (case zF9 => k_asm); (case za9 => rfl); (case zb9 => rfl); (case zv9 => first | with_reducible assumption | ((try dsimp only); first | with_reducible assumption | (refine (if_neg (by decide)).trans ?_; with_reducible assumption) | (refine (if_neg (by decide)).trans ((if_neg (by decide)).trans ?_); with_reducible assumption) | (refine (if_neg (by decide)).trans ((if_neg (by decide)).trans ((if_neg (by decide)).trans ?_)); with_reducible assumption))); k_whole))) | walk1 | (dsimp only; walk1) | (leave1; walk_say "STEP leave1"; try dsimp only) | fail "no step"))
  refine Hold.mk ?_
  rename Kept (AllLt _ _) => kq1
  refine turns_rangeQ (L := L) (n := ss.length) (fun i m₁ nx => ∀ G9 : Prop, (m₁ = m → ∀ (o1' o2' : Obj) (cs : List Int) (cvs : List Value) (l : Addr) (kv : Option Value), nx = [(l, W.listOf cvs.toArray 0), (L + 1 + 1 + 1 + 1 + 1 + 1 + 1 + 1 + 1 + 1, o10), (L + 1 + 1 + 1 + 1 + 1 + 1 + 1 + 1 + 1, o9), (L + 1 + 1 + 1 + 1 + 1 + 1 + 1 + 1, o8), (L + 1 + 1 + 1 + 1 + 1 + 1 + 1, o7), (L + 1 + 1 + 1 + 1 + 1 + 1, o6), (L + 1 + 1 + 1 + 1 + 1, o5), (L + 1 + 1 + 1 + 1, o4), (L + 1 + 1 + 1, o3), (L + 1 + 1, o2'), (L + 1, o1')] → o1'.data = .cell (some (.ref l)) → o2'.data = .cell kv → IntsAre cvs cs → cs.length = 3 → @LT.lt Nat _ (L + 1 + 1 + 1 + 1 + 1 + 1 + 1 + 1 + 1 + 1) l → G9) → G9) rfl (by rfl) (by k_asm) ?hsm ?hn (by k_asm) (by k_asm) ?h0 ?turn ?done
  case hn => exact rangeSize_nat _ _
  case hsm => exact small_one (by omega) (by omega) (by omega) (by omega)
  case h0 =>
    intro G9 k9
    refine' k9 rfl _ _ _ _ _ _ rfl ?h0a ?h0b (.cons _ _ (.cons _ _ (.cons _ _ .nil))) rfl ?h0c
    case h0a => with_reducible assumption
    case h0b => with_reducible assumption
    case h0c => exact kq1.out.1
  case turn =>
    intro i t m₁ nx h tk I oI Qz hi' hJ hne F' N' hQz
    refine hJ _ ?_
    intro e90 o1' o2' cs cvs l kv e97 d1' d2' hI hlen hlt
    subst e90
    subst e97
    have hk0 : (0 : Int) + (i : Int) = (i : Int) := by omega
    rw [hk0]
    have hk1 : (0 : Int) ≤ (i : Int) ∧ (i : Int) < (ss.length : Int) := ⟨by omega, by omega⟩
    clear d1 d2
    have hne' := Kept.mk hne
    (refine nesSplit (nesK hne) ?_; dsimp only [NesArrow]; intros; (try (refine nesArrow_intro ?_; intro _)))
    clear hne
    (repeat' (first | (k_unfold; (try dsimp only)) | (k_end; wrow_close) | (with_reducible ((with_reducible show wpAny _ _ (exec (Stmt.For _ _ _ _ _) _) _ _ _); (rename Fr _ _ _ _ => lF'); (with_unfolding_all refine' For_turns lF' ?_ ?zhs99 ?zhE99; (case zhs99 => (intro _; rfl)); (case zhE99 => assumption); k_whole))) | (with_reducible ((with_reducible show wpAny _ _ (eval (PySem.Expr.Name _ _) _) _ _ _); k_dflt (refine' nameX_L ?zF9 ?zv9 ?_ ?za9 ?zb9; (case zF9 => k_asm); (case za9 => rfl); (case zb9 => rfl); (case zv9 => first | with_reducible assumption | ((try dsimp only); first | with_reducible assumption | (refine (if_neg (by decide)).trans ?_; with_reducible assumption) | (refine (if_neg (by decide)).trans ((if_neg (by decide)).trans ?_); with_reducible assumption) | (refine (if_neg (by decide)).trans ((if_neg (by decide)).trans ((if_neg (by decide)).trans ?_)); with_reducible assumption))); k_whole))) | walk1 | (dsimp only; walk1) | (leave1; walk_say "STEP leave1"; try dsimp only) | fail "no step"))
    dsimp only
    refine' hQz _ _ _ _ ?za ?zb ?zc ?_
    case za => assumption
    case zb => assumption
    case zc => exact neMap2 hne'.out rfl
    intro G9 k9
    refine' k9 rfl _ _ _ _ _ _ rfl ?zd ?ze ?zf ?zg ?zh
    case zd => with_reducible assumption
    case ze => with_reducible assumption
    case zf => assumption
    case zg => (rw [List.length_set]; exact hlen)
    case zh => exact hlt
  case done =>
    intro m₁ nx h tk hJ F' N'
    refine hJ _ ?_
    intro e90 o1' o2' cs cvs l kv e97 d1' d2' hI hlen hlt
    subst e90
    subst e97
    refine wpAny_execs_nil ?_
    exact use _ _ _ _ _ _ _ _ F' N' d1' d2' hI hlen hlt
end
end
-- KStr4
noncomputable section
open PySem.Builtin.Str PySem PySem.W PyProof.Rows PySem.Calls PySem.Spec PySem.StrLaws
set_option Elab.async false
set_option maxRecDepth 100000
set_option maxHeartbeats 0
set_option linter.unusedVariables false
theorem all4_at {f : Nat → Nat → Nat → Nat → Nat → Bool} (h : all4 f = true) {a b c d r : Nat} (ha : a < 4) (hb : b < 4) (hc : c < 2) (hd : d < 4) (hr : r < 4) : f a b c d r = true := by
  unfold all4 at h
  have h1 := List.all_eq_true.mp h a (List.mem_range.mpr ha)
  have h2 := List.all_eq_true.mp h1 b (List.mem_range.mpr hb)
  have h3 := List.all_eq_true.mp h2 c (List.mem_range.mpr hc)
  have h4 := List.all_eq_true.mp h3 d (List.mem_range.mpr hd)
  exact List.all_eq_true.mp h4 r (List.mem_range.mpr hr)
noncomputable def shape (M : List Nat) (k : Nat) : Bool := M.all (fun u => u != 41 && Nat.blt u 256) && (M[0]? == some k && (M[M.length - 1]? == some k && Nat.ble M.length 20))
theorem shape3 : all4 (fun a b c d r => shape (M3 (mkL d) [48 + a] [48 + b] (f3L a c r)) (mkL d)) = true := by kernel_rfl
theorem shape4 : all4 (fun a b c d r => shape (M4 (mkL d) [48 + a] [48 + b] (f3L a c r) [52]) (mkL d)) = true := by kernel_rfl
theorem shape2 : all4 (fun a b c d r => shape (M2 (mkL d) [48 + b] (f3L a c r)) (mkL d)) = true := by kernel_rfl
theorem of_shape {M : List Nat} {k : Nat} (h : shape M k = true) : (∀ u ∈ M, u ≠ 41) ∧ (∀ u ∈ M, u < 256) ∧ M[0]? = some k ∧ M[M.length - 1]? = some k ∧ M ≠ [] ∧ M.length ≤ 20 ∧ k ∈ M := by
  unfold shape at h
  rw [Bool.and_eq_true, Bool.and_eq_true, Bool.and_eq_true, List.all_eq_true, beq_iff_eq, beq_iff_eq] at h
  obtain ⟨h1, h2, h3, h4⟩ := h
  refine ⟨fun u hu => ?_, fun u hu => ?_, h2, h3, fun e => ?_, Nat.le_of_ble_eq_true h4, List.mem_of_getElem? h2⟩
  · have := h1 u hu; rw [Bool.and_eq_true] at this; simpa using this.1
  · have := h1 u hu; rw [Bool.and_eq_true] at this; exact Nat.le_of_ble_eq_true this.2
  · rw [e] at h2; simp at h2
theorem dig_eq {x : Int} (h : 0 ≤ x ∧ x < 4) : PySem.Str.ofString (toString x) = sl [48 + x.toNat] := by
  have h' : x = 0 ∨ x = 1 ∨ x = 2 ∨ x = 3 := by omega
  rcases h' with rfl | rfl | rfl | rfl <;> decide +kernel
theorem pres_eq {n : Nat} (h : n < 4) : pres.getD n Str.empty = sl (preL n) := by
  have h' : n = 0 ∨ n = 1 ∨ n = 2 ∨ n = 3 := by omega
  rcases h' with rfl | rfl | rfl | rfl <;> decide +kernel
theorem posts_eq {n : Nat} (h : n < 2) : posts.getD n Str.empty = sl (pstL n) := by
  have h' : n = 0 ∨ n = 1 := by omega
  rcases h' with rfl | rfl <;> decide +kernel
theorem behs_eq {n : Nat} (h : n < 3) : behs.getD n Str.empty = sl (bhL n) := by
  have h' : n = 0 ∨ n = 1 ∨ n = 2 := by omega
  rcases h' with rfl | rfl | rfl <;> decide +kernel
theorem mk_eq {x : Int} (h : 0 ≤ x ∧ x < 4) : Txt.item (PySem.Str.ofString "|!;x") x = sl [mkL x.toNat] := by
  have h' : x = 0 ∨ x = 1 ∨ x = 2 ∨ x = 3 := by omega
  rcases h' with rfl | rfl | rfl | rfl <;> decide +kernel
noncomputable def aN (p : Int) : Nat := (p.fmod 4).toNat
noncomputable def bN (p : Int) : Nat := ((p.fdiv 4).fmod 4).toNat
noncomputable def cN (p : Int) : Nat := ((p.fdiv 4).fmod 2).toNat
noncomputable def dN (p : Int) : Nat := ((p.fdiv 3).fmod 4).toNat
noncomputable def eN (p : Int) : Nat := ((p.fdiv 5).fmod 3).toNat
theorem bnds (p : Int) : aN p < 4 ∧ bN p < 4 ∧ cN p < 2 ∧ dN p < 4 ∧ eN p < 3 := by
  have h1 := fmb p 4 (by decide)
  have h2 := fmb (p.fdiv 4) 4 (by decide)
  have h3 := fmb (p.fdiv 4) 2 (by decide)
  have h4 := fmb (p.fdiv 3) 4 (by decide)
  have h5 := fmb (p.fdiv 5) 3 (by decide)
  unfold aN bN cN dN eN
  omega
theorem f1_eq (p : Int) : f1W p = sl [48 + aN p] := dig_eq (fmb p 4 (by decide))
theorem f2_eq (p : Int) : f2W p = sl [48 + bN p] := dig_eq (fmb (p.fdiv 4) 4 (by decide))
theorem f3_eq (p : Int) {r : Int} (hr : 0 ≤ r ∧ r < 4) : f3W p r = sl (f3L (aN p) (cN p) r.toNat) := by
  show pres.getD (aN p) Str.empty ++ PySem.Str.ofString (toString r) ++ posts.getD (cN p) Str.empty = _
  rw [pres_eq (bnds p).1, posts_eq (bnds p).2.2.1, dig_eq hr, sl_app, sl_app]
  refine congrArg sl ?_
  unfold f3L
  simp
theorem mkW_eq (p : Int) : mkW p = sl [mkL (dN p)] := mk_eq (fmb (p.fdiv 3) 4 (by decide))
theorem bhW_eq (p : Int) : bhW p = sl (bhL (eN p)) := behs_eq (bnds p).2.2.2.2
theorem s229 : PySem.Str.ofString "229" = sl [50, 50, 57] := by decide +kernel
theorem s4 : PySem.Str.ofString "4" = sl [52] := by decide +kernel
theorem s0 : PySem.Str.ofString "" = sl [] := by decide +kernel
theorem bh_len {n : Nat} : (bhL n).length ≤ 8 := by unfold bhL; split <;> simp
theorem f3_len {a c r : Nat} : (f3L a c r).length ≤ 3 := by unfold f3L preL pstL; (repeat' split) <;> simp
theorem eq_false {x y : PySem.Str} (h : x = y) : (x != y) = false := by subst h; simp
noncomputable def int3 : Bool := (List.range 4).all fun a => (List.range 2).all fun c => (List.range 4).all fun r => PySem.intText? (sl (f3L a c r)) == some (r : Int)
theorem int3_ok : int3 = true := by kernel_rfl
/-- the reply that parse229 takes -/
theorem parse_all (w : World) (mean : ExcName → Option Value) (mg mb : PySem.Str → Option Value) (p r : Int) (hr : 0 ≤ r ∧ r < 4) (y : PySem.Str) (t u : Tok) (v2 : Value) (pa : Addr) :
    CVN w mean mg mb 131 [.str (replyS (PySem.Str.ofString "229") [f1W p, f2W p, f3W p r] (mkW p) (bhW p)) t, .ref pa] 1 120 (fun h => IsTup h pa #[.str y u, v2]) (fun o => ∃ tk, o = { cls := .type "tuple", data := .seq #[.str y u, .int r tk] 0 }) := by
  have hx : replyS (PySem.Str.ofString "229") [f1W p, f2W p, f3W p r] (mkW p) (bhW p) = sl (P9 ++ (M3 (mkL (dN p)) [48 + aN p] [48 + bN p] (f3L (aN p) (cN p) r.toNat) ++ 41 :: bhL (eN p))) := by
    rw [f1_eq, f2_eq, f3_eq p hr, mkW_eq, bhW_eq, s229, reply3]; rfl
  obtain ⟨b1, b2, b3, b4, b5⟩ := bnds p
  have hrn : r.toNat < 4 := by omega
  obtain ⟨g1, g2, g3, g4, g5, g6, g7⟩ := of_shape (all4_at shape3 b1 b2 b3 b4 hrn)
  have hb := bh_len (n := eN p)
  obtain ⟨k1, k2, k3, k4, k5, k6, k7, k8, k9⟩ := seen (T := bhL (eN p)) g1 g3 g4 g5 (by omega)
  have hsp := eq_of_beq (all4_at split3 b1 b2 b3 b4 hrn)
  have hi : PySem.intText? (f3W p r) = some r := by
    rw [f3_eq p hr]
    have h1 := int3_ok
    unfold int3 at h1
    have h2 := List.all_eq_true.mp h1 _ (List.mem_range.mpr b1)
    have h3 := List.all_eq_true.mp h2 _ (List.mem_range.mpr b3)
    have h4 := eq_of_beq (List.all_eq_true.mp h3 _ (List.mem_range.mpr hrn))
    rw [h4]
    congr 1; omega
  rw [hx]
  refine f_parse w mean mg mb _ y t u r v2 (sl []) (sl [48 + aN p]) (sl [48 + bN p]) (f3W p r) (sl []) pa k1 k2 k3 k5 k6 (eq_false (k7.trans k8.symm)) ?_ hi ?_
  · rw [k9, k7, split_g g2 g7, hsp, f3_eq p hr]
  · rw [f3_eq p hr, sl_len]; have := f3_len (a := aN p) (c := cN p) (r := r.toNat); omega
/-- the reply spoiled in the sixth way, its signs -/
noncomputable def t5L (d e : Nat) : List Nat := if d = 0 ∧ e = 2 then [32, 40, 124, 124, 124, 57, 124, 63, 41] else bhL e
noncomputable def noPat (k : Nat) : List Nat → Bool
  | u :: v :: r => !(u == k && v == 41) && noPat k (v :: r)
  | _ => true
theorem noPat_head {k : Nat} {l : List Nat} (h : noPat k l = true) : (l.take 2 == [k, 41]) = false := by
  match l with
  | [] => simp
  | [u] => simp
  | u :: v :: r =>
    rw [noPat, Bool.and_eq_true] at h
    have h1 := h.1
    simp at h1 ⊢
    exact fun a b => h1.elim (fun q => q a) (fun q => q b)
theorem noPat_tail {k : Nat} {u : Nat} {l : List Nat} (h : noPat k (u :: l) = true) : noPat k l = true := by
  match l with
  | [] => rfl
  | v :: r =>
    rw [noPat, Bool.and_eq_true] at h
    exact h.2
theorem occ2_none {k hi : Nat} : ∀ (n : Nat) (T : List Nat) (i free lim : Nat), noPat k T = true → occG [k, 41] 2 hi n T i free lim = []
  | 0, _, _, _, _, _ => rfl
  | n + 1, T, i, free, lim, h => by
    rw [occG, noPat_head h, Bool.and_false, Bool.and_false, Bool.and_false]
    refine occ2_none n T.tail (i + 1) free lim ?_
    match T, h with
    | [], _ => rfl
    | u :: l, h => exact noPat_tail h
theorem occ2_skip {k hi : Nat} (R : List Nat) (x : Nat) : ∀ (U : List Nat) (n i free lim : Nat), noPat k (U ++ [x]) = true → U.length ≤ n → occG [k, 41] 2 hi n (U ++ x :: R) i free lim = occG [k, 41] 2 hi (n - U.length) (x :: R) (i + U.length) free lim
  | [], n, i, free, lim, _, _ => by simp
  | u :: U, n, i, free, lim, h, hn => by
    obtain ⟨n, rfl⟩ : ∃ q, n = q + 1 := ⟨n - 1, by simp at hn; omega⟩
    have hh : ((u :: (U ++ x :: R)).take 2 == [k, 41]) = false := by
      have := noPat_head h
      cases U with
      | nil => simpa using this
      | cons v U => simpa using this
    rw [List.cons_append, occG, hh, Bool.and_false, Bool.and_false, Bool.and_false]
    show occG [k, 41] 2 hi n (U ++ x :: R) (i + 1) free lim = _
    rw [occ2_skip R x U n (i + 1) free lim (noPat_tail h) (by simp at hn; omega), List.length_cons]
    congr 1 <;> omega
theorem occ2_hit {k hi n i free lim : Nat} {T : List Nat} (hf : free ≤ i) (hh : i + 2 ≤ hi) : occG [k, 41] 2 hi (n + 2) (k :: 41 :: T) i free (lim + 1) = i :: occG [k, 41] 2 hi n T (i + 2) (i + 2) lim := by
  rw [occG]
  have e : (Nat.blt 0 (lim + 1) && (Nat.ble free i && (Nat.ble (i + 2) hi && ((k :: 41 :: T).take 2 == [k, 41])))) = true := by
    rw [Bool.and_eq_true, Bool.and_eq_true, Bool.and_eq_true]
    exact ⟨Nat.ble_eq_true_of_le (by omega), Nat.ble_eq_true_of_le hf, Nat.ble_eq_true_of_le hh, by simp⟩
  rw [e]
  show i :: occG [k, 41] 2 hi (n + 1) (41 :: T) (i + 1) (i + 2) (lim + 1 - 1) = _
  rw [occG]
  have e2 : (Nat.blt 0 (lim + 1 - 1) && (Nat.ble (i + 2) (i + 1) && (Nat.ble (i + 1 + 2) hi && ((41 :: T).take 2 == [k, 41])))) = false := by
    have : Nat.ble (i + 2) (i + 1) = false := by
      rw [Bool.eq_false_iff]; intro h; have := Nat.le_of_ble_eq_true h; omega
    rw [this, Bool.false_and, Bool.and_false]
  rw [e2]
  rfl
theorem sub_sl {l : List Nat} {i j : Nat} : strSub (sl l) i j = sl ((l.drop i).take (j - i)) := by
  unfold strSub
  show (⟨l.toArray.extract i j⟩ : PySem.Str) = ⟨((l.drop i).take (j - i)).toArray⟩
  congr 1
  apply Array.toList_inj.mp
  simp [List.extract_eq_take_drop]
theorem replace1 {k : Nat} {W T : List Nat} (hW : noPat k (W ++ [k]) = true) (hT : noPat k T = true) : Txt.replace (sl (W ++ k :: 41 :: T)) (sl [k, 41]) (sl [k, 63, 41]) = sl (W ++ k :: 63 :: 41 :: T) := by
  rw [replace_f]
  unfold replaceF
  have e1 : (sl (W ++ k :: 41 :: T)).cps.toList = W ++ k :: 41 :: T := by show (W ++ k :: 41 :: T).toArray.toList = _; simp
  have e2 : (sl [k, 41]).cps.toList = [k, 41] := rfl
  have e3 : (sl [k, 41]).length = 2 := rfl
  have hl : (W ++ k :: 41 :: T).length = W.length + 2 + T.length := by simp; omega
  rw [e1, e2, e3, sl_len, List.drop_zero, occ2_skip _ k W _ 0 0 _ hW (by omega)]
  have hn : (W ++ k :: 41 :: T).length + 1 - 0 - W.length = (T.length + 1) + 2 := by omega
  have hm : (W ++ k :: 41 :: T).length + 1 = (W.length + 2 + T.length) + 1 := by omega
  rw [hn, hm, occ2_hit (by omega) (by omega), occ2_none _ _ _ _ _ hT]
  show glued (sl [k, 63, 41]) (partsBetween (sl (W ++ k :: 41 :: T)) [0 + W.length] 2) = _
  unfold partsBetween
  simp only [List.map_cons, List.map_nil, List.cons_append, List.nil_append, List.zip_cons_cons, List.zip_nil_left, sub_sl, sl_len]
  have p1 : List.take (0 + W.length - 0) (List.drop 0 (W ++ k :: 41 :: T)) = W := by simp
  have p2 : List.take ((W ++ k :: 41 :: T).length - (0 + W.length + 2)) (List.drop (0 + W.length + 2) (W ++ k :: 41 :: T)) = T := by
    have : List.drop (0 + W.length + 2) (W ++ k :: 41 :: T) = T := by rw [Nat.zero_add, ← List.drop_drop, List.drop_left]; rfl
    rw [this, List.take_of_length_le (by omega)]
  rw [p1, p2]
  show (⟨(sl W).cps ++ (sl [k, 63, 41]).cps ++ (sl T).cps⟩ : PySem.Str) = _
  show (⟨W.toArray ++ [k, 63, 41].toArray ++ T.toArray⟩ : PySem.Str) = ⟨(W ++ k :: 63 :: 41 :: T).toArray⟩
  congr 1
  simp
theorem replace2 {k : Nat} {W T : List Nat} (hW : noPat k (W ++ [k]) = true) (hT : noPat k (T ++ [k]) = true) : Txt.replace (sl (W ++ k :: 41 :: (T ++ [k, 41]))) (sl [k, 41]) (sl [k, 63, 41]) = sl (W ++ k :: 63 :: 41 :: (T ++ [k, 63, 41])) := by
  rw [replace_f]
  unfold replaceF
  have e1 : (sl (W ++ k :: 41 :: (T ++ [k, 41]))).cps.toList = W ++ k :: 41 :: (T ++ [k, 41]) := by show (W ++ k :: 41 :: (T ++ [k, 41])).toArray.toList = _; simp
  have e2 : (sl [k, 41]).cps.toList = [k, 41] := rfl
  have e3 : (sl [k, 41]).length = 2 := rfl
  have hl : (W ++ k :: 41 :: (T ++ [k, 41])).length = W.length + 4 + T.length := by simp; omega
  rw [e1, e2, e3, sl_len, List.drop_zero, occ2_skip _ k W _ 0 0 _ hW (by omega)]
  have hn : (W ++ k :: 41 :: (T ++ [k, 41])).length + 1 - 0 - W.length = (T.length + 3) + 2 := by omega
  have hm : (W ++ k :: 41 :: (T ++ [k, 41])).length + 1 = ((W.length + 3 + T.length) + 1) + 1 := by omega
  rw [hn, hm, occ2_hit (by omega) (by omega), occ2_skip [41] k T _ _ _ _ hT (by omega), show T.length + 3 - T.length = 1 + 2 by omega, occ2_hit (by omega) (by omega), occ2_none _ _ _ _ _ rfl]
  show glued (sl [k, 63, 41]) (partsBetween (sl (W ++ k :: 41 :: (T ++ [k, 41]))) [0 + W.length, 0 + W.length + 2 + T.length] 2) = _
  unfold partsBetween
  simp only [List.map_cons, List.map_nil, List.cons_append, List.nil_append, List.zip_cons_cons, List.zip_nil_left, sub_sl, sl_len]
  have d2 : List.drop (0 + W.length + 2) (W ++ k :: 41 :: (T ++ [k, 41])) = T ++ [k, 41] := by rw [Nat.zero_add, ← List.drop_drop, List.drop_left]; rfl
  have p1 : List.take (0 + W.length - 0) (List.drop 0 (W ++ k :: 41 :: (T ++ [k, 41]))) = W := by simp
  have p2 : List.take (0 + W.length + 2 + T.length - (0 + W.length + 2)) (List.drop (0 + W.length + 2) (W ++ k :: 41 :: (T ++ [k, 41]))) = T := by
    rw [d2, show 0 + W.length + 2 + T.length - (0 + W.length + 2) = T.length by omega, List.take_left]
  have p3 : List.take ((W ++ k :: 41 :: (T ++ [k, 41])).length - (0 + W.length + 2 + T.length + 2)) (List.drop (0 + W.length + 2 + T.length + 2) (W ++ k :: 41 :: (T ++ [k, 41]))) = [] := by
    rw [show (W ++ k :: 41 :: (T ++ [k, 41])).length - (0 + W.length + 2 + T.length + 2) = 0 by omega, List.take_zero]
  rw [p1, p2, p3]
  show (⟨W.toArray ++ [k, 63, 41].toArray ++ T.toArray ++ [k, 63, 41].toArray ++ ([] : List Nat).toArray⟩ : PySem.Str) = ⟨(W ++ k :: 63 :: 41 :: (T ++ [k, 63, 41])).toArray⟩
  congr 1
  simp
noncomputable def M3' (k : Nat) (u v x : List Nat) : List Nat := k :: (u ++ k :: (v ++ k :: x))
theorem M3_eq {k : Nat} {u v x : List Nat} : M3 k u v x = M3' k u v x ++ [k] := by simp [M3, M3']
theorem pat3 : all4 (fun a b c d r => noPat (mkL d) ((P9 ++ M3' (mkL d) [48 + a] [48 + b] (f3L a c r)) ++ [mkL d])) = true := by kernel_rfl
theorem patT : ∀ d : _root_.Fin 4, ∀ e : _root_.Fin 3, ¬ (d.val = 0 ∧ e.val = 2) → noPat (mkL d.val) (bhL e.val) = true := by decide
theorem rep5 {a b c d r e : Nat} (ha : a < 4) (hb : b < 4) (hc : c < 2) (hd : d < 4) (hr : r < 4) (he : e < 3) :
    Txt.replace (sl (P9 ++ (M3 (mkL d) [48 + a] [48 + b] (f3L a c r) ++ 41 :: bhL e))) (sl [mkL d, 41]) (sl [mkL d, 63, 41]) = sl (P9 ++ ((M3 (mkL d) [48 + a] [48 + b] (f3L a c r) ++ [63]) ++ 41 :: t5L d e)) := by
  have hp := all4_at pat3 ha hb hc hd hr
  have ex : P9 ++ (M3 (mkL d) [48 + a] [48 + b] (f3L a c r) ++ 41 :: bhL e) = (P9 ++ M3' (mkL d) [48 + a] [48 + b] (f3L a c r)) ++ mkL d :: 41 :: bhL e := by rw [M3_eq]; simp
  have ey : ∀ T, P9 ++ ((M3 (mkL d) [48 + a] [48 + b] (f3L a c r) ++ [63]) ++ 41 :: T) = (P9 ++ M3' (mkL d) [48 + a] [48 + b] (f3L a c r)) ++ mkL d :: 63 :: 41 :: T := fun T => by rw [M3_eq]; simp
  rw [ex, ey]
  by_cases h : d = 0 ∧ e = 2
  · obtain ⟨rfl, rfl⟩ := h
    exact replace2 (T := [32, 40, 124, 124, 124, 57]) hp rfl
  · have ht : t5L d e = bhL e := by unfold t5L; rw [if_neg h]
    rw [ht]
    exact replace1 hp (patT ⟨d, hd⟩ ⟨e, he⟩ h)
theorem ref_all (w : World) (mean : ExcName → Option Value) (mg mb : PySem.Str → Option Value) (p r : Int) (hr : 0 ≤ r ∧ r < 4) (way : Int) (hw : 0 ≤ way ∧ way ≤ 5) (t : Tok) (pa : Addr) :
    CVT w mean mg mb 164 [.str (spoilS way (f1W p) (f2W p) (f3W p r) (mkW p) (bhW p)) t, .ref pa] 2 220 (fun h => True) (fun o => ∃ t1 t2, o = { cls := .type "list", data := .seq #[.str (if way = 0 then PySem.Str.ofString "reply" else PySem.Str.ofString "proto") t1, .str (spoilS way (f1W p) (f2W p) (f3W p r) (mkW p) (bhW p)) t2] 0 }) := by
  obtain ⟨b1, b2, b3, b4, b5⟩ := bnds p
  have hrn : r.toNat < 4 := by omega
  have hb := bh_len (n := eN p)
  have h3l := f3_len (a := aN p) (c := cN p) (r := r.toNat)
  have hways : way = 0 ∨ way = 1 ∨ way = 2 ∨ way = 3 ∨ way = 4 ∨ way = 5 := by omega
  rcases hways with rfl | rfl | rfl | rfl | rfl | rfl
  · -- another code
    rw [if_pos rfl]
    obtain ⟨cd, hcd, hne, hcl⟩ : ∃ cd : List Nat, (if ((bhW p).length : Int).fmod 3 = 0 then PySem.Str.ofString "129" else if ((bhW p).length : Int).fmod 3 = 1 then PySem.Str.ofString "239" else PySem.Str.ofString "220") = sl cd ∧ cd ≠ [50, 50, 57] ∧ cd.length = 3 := by
      have e1 : PySem.Str.ofString "129" = sl [49, 50, 57] := by decide +kernel
      have e2 : PySem.Str.ofString "239" = sl [50, 51, 57] := by decide +kernel
      have e3 : PySem.Str.ofString "220" = sl [50, 50, 48] := by decide +kernel
      rw [e1, e2, e3]
      split
      · exact ⟨_, rfl, by decide, rfl⟩
      · split
        · exact ⟨_, rfl, by decide, rfl⟩
        · exact ⟨_, rfl, by decide, rfl⟩
    have hx : spoilS 0 (f1W p) (f2W p) (f3W p r) (mkW p) (bhW p) = sl (cd ++ ([32, 111, 107, 41, 32, 40] ++ (M3 (mkL (dN p)) [48 + aN p] [48 + bN p] (f3L (aN p) (cN p) r.toNat) ++ 41 :: bhL (eN p)))) := by
      unfold spoilS
      rw [if_pos rfl, hcd, f1_eq, f2_eq, f3_eq p hr, mkW_eq, bhW_eq, reply3, List.append_assoc]
    obtain ⟨g1, g2, g3, g4, g5, g6, g7⟩ := of_shape (all4_at shape3 b1 b2 b3 b4 hrn)
    rw [hx]
    refine f_refR w mean mg mb _ t pa ?_ ?_
    · rw [sl_len]; simp; omega
    · have := slice_nj (l := cd ++ ([32, 111, 107, 41, 32, 40] ++ (M3 (mkL (dN p)) [48 + aN p] [48 + bN p] (f3L (aN p) (cN p) r.toNat) ++ 41 :: bhL (eN p)))) (j := 3) (by simp; omega)
      have h3 : ((3 : Nat) : Int) = 3 := rfl
      rw [h3] at this
      rw [this, s229, ← hcl, List.take_left]
      rw [bne_iff_ne]
      intro e
      apply hne
      have := congrArg (fun x : PySem.Str => x.cps.toList) e
      simpa using this
  · -- a field more
    rw [if_neg (by decide)]
    have hx : spoilS 1 (f1W p) (f2W p) (f3W p r) (mkW p) (bhW p) = sl (P9 ++ (M4 (mkL (dN p)) [48 + aN p] [48 + bN p] (f3L (aN p) (cN p) r.toNat) [52] ++ 41 :: bhL (eN p))) := by
      unfold spoilS
      rw [if_neg (by decide), if_pos rfl, f1_eq, f2_eq, f3_eq p hr, mkW_eq, bhW_eq, s229, s4, reply4]; rfl
    obtain ⟨g1, g2, g3, g4, g5, g6, g7⟩ := of_shape (all4_at shape4 b1 b2 b3 b4 hrn)
    obtain ⟨k1, k2, k3, k4, k5, k6, k7, k8, k9⟩ := seen (T := bhL (eN p)) g1 g3 g4 g5 (by omega)
    have hsp := eq_of_beq (all4_at split4 b1 b2 b3 b4 hrn)
    rw [hx]
    refine f_ref6 w mean mg mb _ t pa k1 k2 k3 k5 k6 (eq_false (k7.trans k8.symm)) (sl []) (sl [48 + aN p]) (sl [48 + bN p]) (sl (f3L (aN p) (cN p) r.toNat)) (sl [52]) (sl []) ?_
    rw [k9, k7, split_g g2 g7, hsp]
  · -- a field less
    rw [if_neg (by decide)]
    have hx : spoilS 2 (f1W p) (f2W p) (f3W p r) (mkW p) (bhW p) = sl (P9 ++ (M2 (mkL (dN p)) [48 + bN p] (f3L (aN p) (cN p) r.toNat) ++ 41 :: bhL (eN p))) := by
      unfold spoilS
      rw [if_neg (by decide), if_neg (by decide), if_pos rfl, f2_eq, f3_eq p hr, mkW_eq, bhW_eq, s229, reply2]; rfl
    obtain ⟨g1, g2, g3, g4, g5, g6, g7⟩ := of_shape (all4_at shape2 b1 b2 b3 b4 hrn)
    obtain ⟨k1, k2, k3, k4, k5, k6, k7, k8, k9⟩ := seen (T := bhL (eN p)) g1 g3 g4 g5 (by omega)
    have hsp := eq_of_beq (all4_at split2 b1 b2 b3 b4 hrn)
    rw [hx]
    refine f_ref4 w mean mg mb _ t pa k1 k2 k3 k5 k6 (eq_false (k7.trans k8.symm)) (sl []) (sl [48 + bN p]) (sl (f3L (aN p) (cN p) r.toNat)) (sl []) ?_
    rw [k9, k7, split_g g2 g7, hsp]
  · -- no opening bracket
    rw [if_neg (by decide)]
    have e1 : PySem.Str.ofString "229 2" = sl [50, 50, 57, 32, 50] := by decide +kernel
    have e2 : PySem.Str.ofString "2)" = sl [50, 41] := by decide +kernel
    have e4 : PySem.Str.ofString "(" = sl [40] := by decide +kernel
    have hx : spoilS 3 (f1W p) (f2W p) (f3W p r) (mkW p) (bhW p) = sl ([50, 50, 57, 32, 50] ++ (f3L (aN p) (cN p) r.toNat ++ [50, 41])) := by
      unfold spoilS
      rw [if_neg (by decide), if_neg (by decide), if_neg (by decide), if_pos rfl, f3_eq p hr, e1, e2, sl_app, sl_app, List.append_assoc]
    rw [hx]
    refine f_refL w mean mg mb _ t pa ?_ ?_ ?_
    · rw [sl_len]; simp; omega
    · have := slice_nj (l := [50, 50, 57, 32, 50] ++ (f3L (aN p) (cN p) r.toNat ++ [50, 41])) (j := 3) (by simp)
      have h3 : ((3 : Nat) : Int) = 3 := rfl
      rw [h3] at this
      rw [this, s229]; rfl
    · unfold fL
      rw [e4, find_none]
      · decide
      · intro u hu
        have hf : ∀ u ∈ f3L (aN p) (cN p) r.toNat, u ≠ 40 := by
          intro u hu
          unfold f3L preL pstL at hu
          (repeat' split at hu) <;> simp at hu <;> omega
        rcases List.mem_append.mp hu with hu | hu
        · exact (by decide : ∀ u ∈ [50, 50, 57, 32, 50], u ≠ 40) u hu
        · rcases List.mem_append.mp hu with hu | hu
          · exact hf u hu
          · exact (by decide : ∀ u ∈ [50, 41], u ≠ 40) u hu
  · -- no closing bracket
    rw [if_neg (by decide)]
    have e1 : PySem.Str.ofString "]" = sl [93] := by decide +kernel
    have e2 : PySem.Str.ofString ")" = sl [41] := by decide +kernel
    have e4 : PySem.Str.ofString "(" = sl [40] := by decide +kernel
    obtain ⟨g1, g2, g3, g4, g5, g6, g7⟩ := of_shape (all4_at shape3 b1 b2 b3 b4 hrn)
    have hx : spoilS 4 (f1W p) (f2W p) (f3W p r) (mkW p) (bhW p) = sl (P9 ++ (M3 (mkL (dN p)) [48 + aN p] [48 + bN p] (f3L (aN p) (cN p) r.toNat) ++ [93])) := by
      unfold spoilS
      rw [if_neg (by decide), if_neg (by decide), if_neg (by decide), if_neg (by decide), if_pos rfl, f1_eq, f2_eq, f3_eq p hr, mkW_eq, s229, s0, reply3, e1]
      have := slice_last (l := P9 ++ M3 (mkL (dN p)) [48 + aN p] [48 + bN p] (f3L (aN p) (cN p) r.toNat)) (c := 41)
      rw [List.append_assoc] at this
      have h2 : ([50, 50, 57] ++ [32, 111, 107, 41, 32, 40] : List Nat) = P9 := rfl
      rw [h2, this, sl_app, List.append_assoc]
    have hL : fL (sl (P9 ++ (M3 (mkL (dN p)) [48 + aN p] [48 + bN p] (f3L (aN p) (cN p) r.toNat) ++ [93]))) = 8 := by
      unfold fL
      rw [e4]
      exact find_at (A := [50, 50, 57, 32, 111, 107, 41, 32]) (T := M3 (mkL (dN p)) [48 + aN p] [48 + bN p] (f3L (aN p) (cN p) r.toNat) ++ [93]) (by decide)
    rw [hx]
    refine f_refP w mean mg mb _ t pa ?_ ?_ hL ?_
    · rw [sl_len]; simp [P9]; omega
    · have := slice_nj (l := P9 ++ (M3 (mkL (dN p)) [48 + aN p] [48 + bN p] (f3L (aN p) (cN p) r.toNat) ++ [93])) (j := 3) (by simp [P9])
      have h3 : ((3 : Nat) : Int) = 3 := rfl
      rw [h3] at this
      rw [this, s229]; rfl
    · have : fR (sl (P9 ++ (M3 (mkL (dN p)) [48 + aN p] [48 + bN p] (f3L (aN p) (cN p) r.toNat) ++ [93]))) = -1 := by
        show Txt.find3 _ _ (fL (sl (P9 ++ (M3 (mkL (dN p)) [48 + aN p] [48 + bN p] (f3L (aN p) (cN p) r.toNat) ++ [93]))) + 1) = _
        rw [hL, e2]
        refine find3_none (P := P9) fun u hu => ?_
        rcases List.mem_append.mp hu with hu | hu
        · exact g1 u hu
        · rw [List.mem_singleton] at hu; omega
      rw [this]; decide
  · -- another last mark
    rw [if_neg (by decide)]
    have e1 : PySem.Str.ofString "?)" = sl [63, 41] := by decide +kernel
    have e2 : PySem.Str.ofString ")" = sl [41] := by decide +kernel
    obtain ⟨g1, g2, g3, g4, g5, g6, g7⟩ := of_shape (all4_at shape3 b1 b2 b3 b4 hrn)
    have hx : spoilS 5 (f1W p) (f2W p) (f3W p r) (mkW p) (bhW p) = sl (P9 ++ ((M3 (mkL (dN p)) [48 + aN p] [48 + bN p] (f3L (aN p) (cN p) r.toNat) ++ [63]) ++ 41 :: t5L (dN p) (eN p))) := by
      unfold spoilS
      rw [if_neg (by decide), if_neg (by decide), if_neg (by decide), if_neg (by decide), if_neg (by decide), f1_eq, f2_eq, f3_eq p hr, mkW_eq, bhW_eq, s229, reply3, e1, e2, sl_app, sl_app]
      exact rep5 b1 b2 b3 b4 hrn b5
    have ht5 : (t5L (dN p) (eN p)).length ≤ 9 := by unfold t5L; split
                                                    · simp
                                                    · omega
    have hpos : 0 < (M3 (mkL (dN p)) [48 + aN p] [48 + bN p] (f3L (aN p) (cN p) r.toNat)).length := List.length_pos_iff.mpr g5
    obtain ⟨k1, k2, k3, k4, k5, k6, k7, k8, k9⟩ := seen (M := M3 (mkL (dN p)) [48 + aN p] [48 + bN p] (f3L (aN p) (cN p) r.toNat) ++ [63]) (T := t5L (dN p) (eN p)) (k := mkL (dN p)) (k' := 63) (fun u hu => by
        rcases List.mem_append.mp hu with hu | hu
        · exact g1 u hu
        · rw [List.mem_singleton] at hu; omega) (by rw [List.getElem?_append_left hpos]; exact g3) (by simp) (by simp) (by simp; omega)
    rw [hx]
    refine f_refM w mean mg mb _ t pa k1 k2 k3 k5 k6 ?_
    rw [k7, k8, bne_iff_ne]
    intro e
    have := congrArg (fun x : PySem.Str => x.cps.toList) e
    have h4 := b4
    simp at this
    unfold mkL at this
    split at this <;> omega
end
-- KLB
noncomputable section
open PySem PySem.W PyProof.Rows PySem.Calls PySem.Spec
set_option Elab.async false
set_option maxRecDepth 100000
set_option maxHeartbeats 8000000
set_option linter.unusedVariables false
open LCg LCt
section
noncomputable def roadsV (c : Int) : List Int := (List.range 8).map fun (i : Nat) => (c.fdiv (4 ^ ((0 : Int) + (i : Int)).toNat)).fmod 4
theorem law_B (w : World) (mean : ExcName → Option Value) (mg mb : PySem.Str → Option Value) {g h : Heap} {L f : Addr} {cdv : Value} {m : PySem.Str → Option Value} {gens : Array GenState} {drawn : Drawn} {toks : Nat} {os : OsState} {Q : Flow → Shared → Prop} {E : Value → Shared → Prop} {l : Addr} {cs : List Int} {cvs : List Value} {kv : Option Value} {o1 : Obj} {o2 : Obj} {o3 : Obj} {o4 : Obj} {o5 : Obj} {o6 : Obj} {o7 : Obj} {o8 : Obj} {o9 : Obj} {o10 : Obj}
   (B : Below callerA g [] g) (X : (KF w.params).In g) (T : Top vw LW mean mg mb g) (F : Fr g L h m) (N : News g L h [(l, W.listOf cvs.toArray 0), (L + 1 + 1 + 1 + 1 + 1 + 1 + 1 + 1 + 1 + 1, o10), (L + 1 + 1 + 1 + 1 + 1 + 1 + 1 + 1 + 1, o9), (L + 1 + 1 + 1 + 1 + 1 + 1 + 1 + 1, o8), (L + 1 + 1 + 1 + 1 + 1 + 1 + 1, o7), (L + 1 + 1 + 1 + 1 + 1 + 1, o6), (L + 1 + 1 + 1 + 1 + 1, o5), (L + 1 + 1 + 1 + 1, o4), (L + 1 + 1 + 1, o3), (L + 1 + 1, o2), (L + 1, o1)]) (d1 : o1.data = .cell (some (.ref l))) (d2 : o2.data = .cell kv) (d3 : o3.data = .cell none) (d4 : o4.data = .cell none) (d5 : o5.data = .cell none) (d6 : o6.data = .cell none) (d7 : o7.data = .cell none) (d8 : o8.data = .cell none) (d9 : o9.data = .cell none) (d10 : o10.data = .cell none) (hI : IntsAre cvs cs) (hlen : cs.length = 3) (hlt : @LT.lt Nat _ (L + 1 + 1 + 1 + 1 + 1 + 1 + 1 + 1 + 1 + 1) l)
   (hE : PassesOwn (model pwC w) (callerA.deeper (envOfC (PySem.Str.ofString "law") lawSc L f cdv)) (envOfC (PySem.Str.ofString "law") lawSc L f cdv) E)
   (use : ∀ (h' : Heap) (tk' : Nat) (o3' o4' : Obj) (rvs : List Value) (lr : Addr) (t : Tok), Fr g L h' m → News g L h' [(lr, lst rvs), (l, W.listOf cvs.toArray 0), (L + 1 + 1 + 1 + 1 + 1 + 1 + 1 + 1 + 1 + 1, o10), (L + 1 + 1 + 1 + 1 + 1 + 1 + 1 + 1 + 1, o9), (L + 1 + 1 + 1 + 1 + 1 + 1 + 1 + 1, o8), (L + 1 + 1 + 1 + 1 + 1 + 1 + 1, o7), (L + 1 + 1 + 1 + 1 + 1 + 1, o6), (L + 1 + 1 + 1 + 1 + 1, o5), (L + 1 + 1 + 1 + 1, o4'), (L + 1 + 1 + 1, o3'), (L + 1 + 1, o2), (L + 1, o1)] → o3'.data = .cell (some (.ref lr)) → o4'.data = .cell (some (.int (((cs.getD 0 0).fdiv 65536).fmod 16) t)) → IntsAre rvs (roadsV (cs.getD 0 0)) → Dst [lr, l, L + 1 + 1 + 1 + 1 + 1 + 1 + 1 + 1 + 1 + 1, L + 1 + 1 + 1 + 1 + 1 + 1 + 1 + 1 + 1, L + 1 + 1 + 1 + 1 + 1 + 1 + 1 + 1, L + 1 + 1 + 1 + 1 + 1 + 1 + 1, L + 1 + 1 + 1 + 1 + 1 + 1, L + 1 + 1 + 1 + 1 + 1, L + 1 + 1 + 1 + 1, L + 1 + 1 + 1, L + 1 + 1, L + 1] → Q .next ⟨h', gens, drawn, tk', os⟩) : wpAny (model pwC w) (callerA.deeper (envOfC (PySem.Str.ofString "law") lawSc L f cdv)) (execs lawB (envOfC (PySem.Str.ofString "law") lawSc L f cdv)) Q E ⟨h, gens, drawn, toks, os⟩ := by
  have hfill : (PySem.Challenge.rw_yh0002_01 = PySem.Challenge.rw_yh0002_01) ∧ KF = KF := by k_fill; exact ⟨rfl, rfl⟩
  clear hfill
  unfold lawB
  unfold lawSc at *
  dsimp only at hE ⊢
  have hlt9 := hlt
  have hD0 : Kept (Dst [l, L + 1 + 1 + 1 + 1 + 1 + 1 + 1 + 1 + 1 + 1, L + 1 + 1 + 1 + 1 + 1 + 1 + 1 + 1 + 1, L + 1 + 1 + 1 + 1 + 1 + 1 + 1 + 1, L + 1 + 1 + 1 + 1 + 1 + 1 + 1, L + 1 + 1 + 1 + 1 + 1 + 1, L + 1 + 1 + 1 + 1 + 1, L + 1 + 1 + 1 + 1, L + 1 + 1 + 1, L + 1 + 1, L + 1]) := ⟨dst_desc ⟨hlt9, lt_1 _, lt_1 _, lt_1 _, lt_1 _, lt_1 _, lt_1 _, lt_1 _, lt_1 _, lt_1 _, trivial⟩⟩
  clear hlt9 hlt
  have nk1 : NeK l (L + 1) := dstK hD0.out 0 (j := 10) rfl rfl (by decide)
  have nk2 : NeK l (L + 1 + 1) := dstK hD0.out 0 (j := 9) rfl rfl (by decide)
  have nk3 : NeK l (L + 1 + 1 + 1) := dstK hD0.out 0 (j := 8) rfl rfl (by decide)
  have nk4 : NeK l (L + 1 + 1 + 1 + 1) := dstK hD0.out 0 (j := 7) rfl rfl (by decide)
  (repeat' (first | (k_unfold; (try dsimp only)) | (k_end; wrow_close) | (with_reducible ((with_reducible show LCg.FinA _ _ _ _ _ _ _); (unfold LCg.FinA); intro D' h' tk' F' N' o1'; (refine nesSplit (off1K o1') ?_; dsimp only [NesArrow]; intros; (try (refine nesArrow_intro ?_; intro _))); clear o1'; (try simp only [List.nil_append, List.cons_append] at N'); (try dsimp only))) | (with_reducible ((with_reducible show LCg.FinE _ _ _ _ _ _ _); (unfold LCg.FinE); intro D' h' tk' F' N' o1'; (refine nesSplit (off1K o1') ?_; dsimp only [NesArrow]; intros; (try (refine nesArrow_intro ?_; intro _))); clear o1'; (try simp only [List.nil_append, List.cons_append] at N'); (try dsimp only))) | (with_reducible ((with_reducible show wpAny _ _ (eval (PySem.Expr.ListComp _ _ _ _) _) _ _ _); (with_reducible show wpAny _ _ (eval (PySem.Expr.ListComp _ [⟨_, _, [], _⟩] _ _) _) _ _ _); k_dflt (refine LCg.ListComp_U (F₀ := by k_asm) (by with_unfolding_all rfl) (by decide) (by rfl) (by decide) (by rfl) ?_); k_dflt lcg_toSrc)) | (with_reducible ((with_reducible show wpAny _ _ (eval (PySem.Expr.ListComp _ _ _ _) _) _ _ _); (with_reducible show wpAny _ _ (eval (PySem.Expr.ListComp _ [⟨_, _, [_], _⟩] _ _) _) _ _ _); k_dflt (refine LCt.ListComp_T (F₀ := by k_asm) (by with_unfolding_all rfl) (by decide) (by rfl) (by decide) (by rfl) ?_); k_dflt lct_toSrc)) | (with_reducible ((with_reducible show wpAny _ _ (exec (Stmt.For _ _ _ _ _) _) _ _ _); (rename Fr _ _ _ _ => lF'); (with_unfolding_all refine' For_turns lF' ?_ ?zhs99 ?zhE99; (case zhs99 => (intro _; rfl)); (case zhE99 => assumption); k_whole))) | (with_reducible ((with_reducible show wpAny _ _ (eval (PySem.Expr.Name _ _) _) _ _ _); k_dflt (refine' nameX_L ?zF9 ?zv9 ?_ ?za9 ?zb9; (case zF9 => k_asm); (case za9 => rfl); (case zb9 => rfl); (case zv9 => first | with_reducible assumption | ((try dsimp only); first | with_reducible assumption | (refine (if_neg (by decide)).trans ?_; with_reducible assumption) | (refine (if_neg (by decide)).trans ((if_neg (by decide)).trans ?_); with_reducible assumption) | (refine (if_neg (by decide)).trans ((if_neg (by decide)).trans ((if_neg (by decide)).trans ?_)); with_reducible assumption))); k_whole))) | walk1 | (dsimp only; walk1) | (leave1; walk_say "STEP leave1"; try dsimp only) | fail "no step"))
  refine Hold.mk ?_
  have say2 : Say 1 (fun (i : Nat) (y : Value) => ∃ t, y = Value.int ((((cs.getD 0 0).fdiv (4 ^ ((0 : Int) + (i : Int)).toNat)).fmod 4)) t) := ⟨⟩
  refine' LCg.CompSrc.range (n := 8) (by rfl) (by k_asm) (by k_asm) (by assumption) ?hsm ?hn ?hsz ?hrest
  case hsm => decide
  case hn => rfl
  case hsz => exact Nat.le_of_ble_eq_true rfl
  intro g'
  refine restU_say 1 (by assumption) trivial ?step ?fin
  case step =>
    refine Hold.mk ?_
    intro i' v' I' oI' C' oC' D' ys' m' h' tk' E' hi' hv' hC' hx' F' N' off' ne'
    obtain ⟨t', e'⟩ := hv'; subst e'
    have hpw : (0 : Int) < 4 ^ ((0 : Int) + (i' : Int)).toNat := Int.pow_pos (by decide)
    (repeat' (first | (k_unfold; (try dsimp only)) | (k_end; wrow_close) | (with_reducible ((with_reducible show LCg.FinA _ _ _ _ _ _ _); (unfold LCg.FinA); intro D' h' tk' F' N' o1'; (refine nesSplit (off1K o1') ?_; dsimp only [NesArrow]; intros; (try (refine nesArrow_intro ?_; intro _))); clear o1'; (try simp only [List.nil_append, List.cons_append] at N'); (try dsimp only))) | (with_reducible ((with_reducible show LCg.FinE _ _ _ _ _ _ _); (unfold LCg.FinE); intro D' h' tk' F' N' o1'; (refine nesSplit (off1K o1') ?_; dsimp only [NesArrow]; intros; (try (refine nesArrow_intro ?_; intro _))); clear o1'; (try simp only [List.nil_append, List.cons_append] at N'); (try dsimp only))) | (with_reducible ((with_reducible show wpAny _ _ (eval (PySem.Expr.ListComp _ _ _ _) _) _ _ _); (with_reducible show wpAny _ _ (eval (PySem.Expr.ListComp _ [⟨_, _, [], _⟩] _ _) _) _ _ _); k_dflt (refine LCg.ListComp_U (F₀ := by k_asm) (by with_unfolding_all rfl) (by decide) (by rfl) (by decide) (by rfl) ?_); k_dflt lcg_toSrc)) | (with_reducible ((with_reducible show wpAny _ _ (eval (PySem.Expr.ListComp _ _ _ _) _) _ _ _); (with_reducible show wpAny _ _ (eval (PySem.Expr.ListComp _ [⟨_, _, [_], _⟩] _ _) _) _ _ _); k_dflt (refine LCt.ListComp_T (F₀ := by k_asm) (by with_unfolding_all rfl) (by decide) (by rfl) (by decide) (by rfl) ?_); k_dflt lct_toSrc)) | (with_reducible ((with_reducible show wpAny _ _ (exec (Stmt.For _ _ _ _ _) _) _ _ _); (rename Fr _ _ _ _ => lF'); (with_unfolding_all refine' For_turns lF' ?_ ?zhs99 ?zhE99; (case zhs99 => (intro _; rfl)); (case zhE99 => assumption); k_whole))) | (with_reducible ((with_reducible show wpAny _ _ (eval (PySem.Expr.Name _ _) _) _ _ _); k_dflt (refine' nameX_L ?zF9 ?zv9 ?_ ?za9 ?zb9; (case zF9 => k_asm); (case za9 => rfl); (case zb9 => rfl); (case zv9 => first | with_reducible assumption | ((try dsimp only); first | with_reducible assumption | (refine (if_neg (by decide)).trans ?_; with_reducible assumption) | (refine (if_neg (by decide)).trans ((if_neg (by decide)).trans ?_); with_reducible assumption) | (refine (if_neg (by decide)).trans ((if_neg (by decide)).trans ((if_neg (by decide)).trans ?_)); with_reducible assumption))); k_whole))) | walk1 | (dsimp only; walk1) | (leave1; walk_say "STEP leave1"; try dsimp only) | fail "no step"))
    · exact absurd (by assumption) (Int.ne_of_gt hpw)
    all_goals exact ⟨_, _, rfl, by with_reducible assumption, by with_reducible assumption, ⟨_, rfl⟩⟩
  clear say2
  refine Hold.mk ?_
  intro ys' hT'; have hI' := intsTwo hT'; clear hT'
  replace hI' : IntsAre ys' (roadsV (cs.getD 0 0)) := hI'
  (repeat' (first | (k_unfold; (try dsimp only)) | (k_end; wrow_close) | (with_reducible ((with_reducible show LCg.FinA _ _ _ _ _ _ _); (unfold LCg.FinA); intro D' h' tk' F' N' o1'; (refine nesSplit (off1K o1') ?_; dsimp only [NesArrow]; intros; (try (refine nesArrow_intro ?_; intro _))); clear o1'; (try simp only [List.nil_append, List.cons_append] at N'); (try dsimp only))) | (with_reducible ((with_reducible show LCg.FinE _ _ _ _ _ _ _); (unfold LCg.FinE); intro D' h' tk' F' N' o1'; (refine nesSplit (off1K o1') ?_; dsimp only [NesArrow]; intros; (try (refine nesArrow_intro ?_; intro _))); clear o1'; (try simp only [List.nil_append, List.cons_append] at N'); (try dsimp only))) | (with_reducible ((with_reducible show wpAny _ _ (eval (PySem.Expr.ListComp _ _ _ _) _) _ _ _); (with_reducible show wpAny _ _ (eval (PySem.Expr.ListComp _ [⟨_, _, [], _⟩] _ _) _) _ _ _); k_dflt (refine LCg.ListComp_U (F₀ := by k_asm) (by with_unfolding_all rfl) (by decide) (by rfl) (by decide) (by rfl) ?_); k_dflt lcg_toSrc)) | (with_reducible ((with_reducible show wpAny _ _ (eval (PySem.Expr.ListComp _ _ _ _) _) _ _ _); (with_reducible show wpAny _ _ (eval (PySem.Expr.ListComp _ [⟨_, _, [_], _⟩] _ _) _) _ _ _); k_dflt (refine LCt.ListComp_T (F₀ := by k_asm) (by with_unfolding_all rfl) (by decide) (by rfl) (by decide) (by rfl) ?_); k_dflt lct_toSrc)) | (with_reducible ((with_reducible show wpAny _ _ (exec (Stmt.For _ _ _ _ _) _) _ _ _); (rename Fr _ _ _ _ => lF'); (with_unfolding_all refine' For_turns lF' ?_ ?zhs99 ?zhE99; (case zhs99 => (intro _; rfl)); (case zhE99 => assumption); k_whole))) | (with_reducible ((with_reducible show wpAny _ _ (eval (PySem.Expr.Name _ _) _) _ _ _); k_dflt (refine' nameX_L ?zF9 ?zv9 ?_ ?za9 ?zb9; (case zF9 => k_asm); (case za9 => rfl); (case zb9 => rfl); (case zv9 => first | with_reducible assumption | ((try dsimp only); first | with_reducible assumption | (refine (if_neg (by decide)).trans ?_; with_reducible assumption) | (refine (if_neg (by decide)).trans ((if_neg (by decide)).trans ?_); with_reducible assumption) | (refine (if_neg (by decide)).trans ((if_neg (by decide)).trans ((if_neg (by decide)).trans ?_)); with_reducible assumption))); k_whole))) | walk1 | (dsimp only; walk1) | (leave1; walk_say "STEP leave1"; try dsimp only) | fail "no step"))
  refine' use _ _ _ _ _ _ _ ?ua ?ub ?uc ?ud ?ue ?uf
  case ua => assumption
  case ub => assumption
  case uc => assumption
  case ud => assumption
  case ue => assumption
  case uf => (refine ⟨?_, hD0.out⟩; (repeat' (refine And.intro ?_ ?_)) <;> first | exact trivial | exact NeK.out (by with_reducible assumption) | exact Ne.symm (NeK.out (by with_reducible assumption)))
end
end
-- KLC
noncomputable section
open PySem PySem.W PyProof.Rows PySem.Calls PySem.Spec
set_option Elab.async false
set_option maxRecDepth 100000
set_option maxHeartbeats 8000000
set_option linter.unusedVariables false
open LCg LCt
section
theorem arrAt {items : Array Value} {ns : List Int} {i : Nat} {v : Value} (hv : items[i]? = some v) (hi : IntsAre items.toList ns) : ∃ nv t, v = .int nv t ∧ nv ∈ ns := by
  obtain ⟨nv, t, e1, e2⟩ := IntsAre.at hi i v (by rw [Array.getElem?_toList]; exact hv)
  exact ⟨nv, t, e1, List.mem_of_getElem? e2⟩
theorem law_C (w : World) (mean : ExcName → Option Value) (mg mb : PySem.Str → Option Value) {g h : Heap} {L f : Addr} {cdv : Value} {m : PySem.Str → Option Value} {gens : Array GenState} {drawn : Drawn} {toks : Nat} {os : OsState} {Q : Flow → Shared → Prop} {E : Value → Shared → Prop} {l lr : Addr} {cvs rvs : List Value} {o1 : Obj} {o2 : Obj} {o3 : Obj} {o4 : Obj} {o5 : Obj} {o6 : Obj} {o7 : Obj} {o8 : Obj} {o9 : Obj} {o10 : Obj}
   (B : Below callerA g [] g) (X : (KF w.params).In g) (T : Top vw LW mean mg mb g) (F : Fr g L h m) (N : News g L h [(lr, lst rvs), (l, W.listOf cvs.toArray 0), (L + 1 + 1 + 1 + 1 + 1 + 1 + 1 + 1 + 1 + 1, o10), (L + 1 + 1 + 1 + 1 + 1 + 1 + 1 + 1 + 1, o9), (L + 1 + 1 + 1 + 1 + 1 + 1 + 1 + 1, o8), (L + 1 + 1 + 1 + 1 + 1 + 1 + 1, o7), (L + 1 + 1 + 1 + 1 + 1 + 1, o6), (L + 1 + 1 + 1 + 1 + 1, o5), (L + 1 + 1 + 1 + 1, o4), (L + 1 + 1 + 1, o3), (L + 1 + 1, o2), (L + 1, o1)]) (hD : Dst [lr, l, L + 1 + 1 + 1 + 1 + 1 + 1 + 1 + 1 + 1 + 1, L + 1 + 1 + 1 + 1 + 1 + 1 + 1 + 1 + 1, L + 1 + 1 + 1 + 1 + 1 + 1 + 1 + 1, L + 1 + 1 + 1 + 1 + 1 + 1 + 1, L + 1 + 1 + 1 + 1 + 1 + 1, L + 1 + 1 + 1 + 1 + 1, L + 1 + 1 + 1 + 1, L + 1 + 1 + 1, L + 1 + 1, L + 1])
   (hE : PassesOwn (model pwC w) (callerA.deeper (envOfC (PySem.Str.ofString "law") lawSc L f cdv)) (envOfC (PySem.Str.ofString "law") lawSc L f cdv) E)
   (use : ∀ (h' : Heap) (tk' : Nat) (m' : PySem.Str → Option Value), Fr g L h' m' → m' (PySem.Str.ofString "right") = some (.bool true) → News g L h' [(lr, lst rvs), (l, W.listOf cvs.toArray 0), (L + 1 + 1 + 1 + 1 + 1 + 1 + 1 + 1 + 1 + 1, o10), (L + 1 + 1 + 1 + 1 + 1 + 1 + 1 + 1 + 1, o9), (L + 1 + 1 + 1 + 1 + 1 + 1 + 1 + 1, o8), (L + 1 + 1 + 1 + 1 + 1 + 1 + 1, o7), (L + 1 + 1 + 1 + 1 + 1 + 1, o6), (L + 1 + 1 + 1 + 1 + 1, o5), (L + 1 + 1 + 1 + 1, o4), (L + 1 + 1 + 1, o3), (L + 1 + 1, o2), (L + 1, o1)] → Q .next ⟨h', gens, drawn, tk', os⟩) : wpAny (model pwC w) (callerA.deeper (envOfC (PySem.Str.ofString "law") lawSc L f cdv)) (execs lawC (envOfC (PySem.Str.ofString "law") lawSc L f cdv)) Q E ⟨h, gens, drawn, toks, os⟩ := by
  have hfill : (PySem.Challenge.rw_yh0002_01 = PySem.Challenge.rw_yh0002_01) ∧ KF = KF := by k_fill; exact ⟨rfl, rfl⟩
  clear hfill
  unfold lawC
  unfold lawSc at *
  dsimp only at hE ⊢
  (repeat' (first | (k_unfold; (try dsimp only)) | (k_end; wrow_close) | (with_reducible ((with_reducible show wpAny _ _ (call (Value.builtin "chr") _ _) _ _ _); k_dflt (refine chr_of_range (by omega) (by omega) ?_))) | (with_reducible ((with_reducible show wpAny _ _ (inplaceOp Operator.Add (Value.ref _) (Value.ref _)) _ _ _); k_dflt (refine' kl_iadd ?zF9 ?zN9 ?zb9 ?ze9 ?zne9 ?zU9 ?zd9 ?zz9 ?zy9 ?_; (case zF9 => k_asm); (case zN9 => k_asm); (case zb9 => k_mem); (case zU9 => k_upd); (case ze9 => kl_lit); (case zne9 => kl_some); (case zd9 => kl_no); (case zz9 => kl_room); (case zy9 => kl_room)); kl_rest)) | (with_reducible ((with_reducible show wpAny _ _ (call (Value.ref _) _ _) _ _ _); (k_dflt (first | (refine' cvUse (f_table _ _ _ _ _ _) ?zB9 ?zF9 ?zX9 ?zN9 ?zT9 ?zhk9 ?zhy9 ?zhd9 ?zhu9 ?_; (case zF9 => k_asm); (case zT9 => k_asm); (case zB9 => k_asm); (case zX9 => k_asm); (case zN9 => k_asm); (case zhk9 => first | exact rfl | assumption); (case zhy9 => first | exact trivial | (dsimp only; (repeat' (refine And.intro ?_ ?_)) <;> first | is_list | l_ints | (with_reducible assumption) | omega | decide | kt_len)); (case zhd9 => ktr_room); (case zhu9 => ktr_units); intro v' h' tk' F' N' k' p'; (obtain ⟨tk9', p'⟩ := p'; subst p')))); (try dsimp only); (try k_fold))) | (with_reducible ((with_reducible show LCg.FinA _ _ _ _ _ _ _); (unfold LCg.FinA); intro D' h' tk' F' N' o1'; (refine nesSplit (off1K o1') ?_; dsimp only [NesArrow]; intros; (try (refine nesArrow_intro ?_; intro _))); clear o1'; (try simp only [List.nil_append, List.cons_append] at N'); (try dsimp only))) | (with_reducible ((with_reducible show LCg.FinE _ _ _ _ _ _ _); (unfold LCg.FinE); intro D' h' tk' F' N' o1'; (refine nesSplit (off1K o1') ?_; dsimp only [NesArrow]; intros; (try (refine nesArrow_intro ?_; intro _))); clear o1'; (try simp only [List.nil_append, List.cons_append] at N'); (try dsimp only))) | (with_reducible ((with_reducible show wpAny _ _ (eval (PySem.Expr.ListComp _ _ _ _) _) _ _ _); (with_reducible show wpAny _ _ (eval (PySem.Expr.ListComp _ [⟨_, _, [], _⟩] _ _) _) _ _ _); k_dflt (refine LCg.ListComp_U (F₀ := by k_asm) (by with_unfolding_all rfl) (by decide) (by rfl) (by decide) (by rfl) ?_); k_dflt lcg_toSrc)) | (with_reducible ((with_reducible show wpAny _ _ (eval (PySem.Expr.ListComp _ _ _ _) _) _ _ _); (with_reducible show wpAny _ _ (eval (PySem.Expr.ListComp _ [⟨_, _, [_], _⟩] _ _) _) _ _ _); k_dflt (refine LCt.ListComp_T (F₀ := by k_asm) (by with_unfolding_all rfl) (by decide) (by rfl) (by decide) (by rfl) ?_); k_dflt lct_toSrc)) | (with_reducible ((with_reducible show wpAny _ _ (exec (Stmt.For _ _ _ _ _) _) _ _ _); (rename Fr _ _ _ _ => lF'); (with_unfolding_all refine' For_turns lF' ?_ ?zhs99 ?zhE99; (case zhs99 => (intro _; rfl)); (case zhE99 => assumption); k_whole))) | (with_reducible ((with_reducible show wpAny _ _ (eval (PySem.Expr.Name _ _) _) _ _ _); k_dflt (refine' nameX_L ?zF9 ?zv9 ?_ ?za9 ?zb9; (case zF9 => k_asm); (case za9 => rfl); (case zb9 => rfl); (case zv9 => first | with_reducible assumption | ((try dsimp only); first | with_reducible assumption | (refine (if_neg (by decide)).trans ?_; with_reducible assumption) | (refine (if_neg (by decide)).trans ((if_neg (by decide)).trans ?_); with_reducible assumption) | (refine (if_neg (by decide)).trans ((if_neg (by decide)).trans ((if_neg (by decide)).trans ?_)); with_reducible assumption))); k_whole))) | walk1 | (dsimp only; walk1) | (leave1; walk_say "STEP leave1"; try dsimp only) | fail "no step"))
  refine Hold.mk ?_
  have say1 : Say 1 (fun (_ : Nat) => false) := ⟨⟩
  have say2 : Say 1 (fun (i : Nat) (y : Value) => True) := ⟨⟩
  refine' LCt.CompSrcT.ledger (by rfl) (by k_asm) (by k_asm) (by k_mem) ?hsz2 ?hrest2
  case hsz2 => first | size_fits | exact Nat.le_of_ble_eq_true rfl
  intro g'
  refine restT_say 1 (by assumption) (by assumption) (Or.inr ⟨_, by k_mem, rfl, _, rfl⟩) ?step ?fin
  case step =>
    refine Hold.mk ?_
    intro i' v' I' oI' C' oC' D' ys' m' h' tk' E' hi' hv' hC' hx' F' N' off' ne'
    obtain ⟨nv, tv, e', hnv⟩ := arrAt (ns := besV) hv' (by repeat (first | exact IntsAre.nil | refine IntsAre.cons _ _ ?_))
    subst e'
    have hb := (bes_tbl nv hnv).1
    have ht := (bes_tbl nv hnv).2
    rw [← heldOf_eq w] at ht
    replace ht := Kept.mk ht
    clear hnv hv'
    (repeat' (first | (k_unfold; (try dsimp only)) | (k_end; wrow_close) | (with_reducible ((with_reducible show wpAny _ _ (call (Value.builtin "chr") _ _) _ _ _); k_dflt (refine chr_of_range (by omega) (by omega) ?_))) | (with_reducible ((with_reducible show wpAny _ _ (inplaceOp Operator.Add (Value.ref _) (Value.ref _)) _ _ _); k_dflt (refine' kl_iadd ?zF9 ?zN9 ?zb9 ?ze9 ?zne9 ?zU9 ?zd9 ?zz9 ?zy9 ?_; (case zF9 => k_asm); (case zN9 => k_asm); (case zb9 => k_mem); (case zU9 => k_upd); (case ze9 => kl_lit); (case zne9 => kl_some); (case zd9 => kl_no); (case zz9 => kl_room); (case zy9 => kl_room)); kl_rest)) | (with_reducible ((with_reducible show wpAny _ _ (call (Value.ref _) _ _) _ _ _); (k_dflt (first | (refine' cvUse (f_table _ _ _ _ _ _) ?zB9 ?zF9 ?zX9 ?zN9 ?zT9 ?zhk9 ?zhy9 ?zhd9 ?zhu9 ?_; (case zF9 => k_asm); (case zT9 => k_asm); (case zB9 => k_asm); (case zX9 => k_asm); (case zN9 => k_asm); (case zhk9 => first | exact rfl | assumption); (case zhy9 => first | exact trivial | (dsimp only; (repeat' (refine And.intro ?_ ?_)) <;> first | is_list | l_ints | (with_reducible assumption) | omega | decide | kt_len)); (case zhd9 => ktr_room); (case zhu9 => ktr_units); intro v' h' tk' F' N' k' p'; (obtain ⟨tk9', p'⟩ := p'; subst p')))); (try dsimp only); (try k_fold))) | (with_reducible ((with_reducible show LCg.FinA _ _ _ _ _ _ _); (unfold LCg.FinA); intro D' h' tk' F' N' o1'; (refine nesSplit (off1K o1') ?_; dsimp only [NesArrow]; intros; (try (refine nesArrow_intro ?_; intro _))); clear o1'; (try simp only [List.nil_append, List.cons_append] at N'); (try dsimp only))) | (with_reducible ((with_reducible show LCg.FinE _ _ _ _ _ _ _); (unfold LCg.FinE); intro D' h' tk' F' N' o1'; (refine nesSplit (off1K o1') ?_; dsimp only [NesArrow]; intros; (try (refine nesArrow_intro ?_; intro _))); clear o1'; (try simp only [List.nil_append, List.cons_append] at N'); (try dsimp only))) | (with_reducible ((with_reducible show wpAny _ _ (eval (PySem.Expr.ListComp _ _ _ _) _) _ _ _); (with_reducible show wpAny _ _ (eval (PySem.Expr.ListComp _ [⟨_, _, [], _⟩] _ _) _) _ _ _); k_dflt (refine LCg.ListComp_U (F₀ := by k_asm) (by with_unfolding_all rfl) (by decide) (by rfl) (by decide) (by rfl) ?_); k_dflt lcg_toSrc)) | (with_reducible ((with_reducible show wpAny _ _ (eval (PySem.Expr.ListComp _ _ _ _) _) _ _ _); (with_reducible show wpAny _ _ (eval (PySem.Expr.ListComp _ [⟨_, _, [_], _⟩] _ _) _) _ _ _); k_dflt (refine LCt.ListComp_T (F₀ := by k_asm) (by with_unfolding_all rfl) (by decide) (by rfl) (by decide) (by rfl) ?_); k_dflt lct_toSrc)) | (with_reducible ((with_reducible show wpAny _ _ (exec (Stmt.For _ _ _ _ _) _) _ _ _); (rename Fr _ _ _ _ => lF'); (with_unfolding_all refine' For_turns lF' ?_ ?zhs99 ?zhE99; (case zhs99 => (intro _; rfl)); (case zhE99 => assumption); k_whole))) | (with_reducible ((with_reducible show wpAny _ _ (eval (PySem.Expr.Name _ _) _) _ _ _); k_dflt (refine' nameX_L ?zF9 ?zv9 ?_ ?za9 ?zb9; (case zF9 => k_asm); (case za9 => rfl); (case zb9 => rfl); (case zv9 => first | with_reducible assumption | ((try dsimp only); first | with_reducible assumption | (refine (if_neg (by decide)).trans ?_; with_reducible assumption) | (refine (if_neg (by decide)).trans ((if_neg (by decide)).trans ?_); with_reducible assumption) | (refine (if_neg (by decide)).trans ((if_neg (by decide)).trans ((if_neg (by decide)).trans ?_)); with_reducible assumption))); k_whole))) | walk1 | (dsimp only; walk1) | (leave1; walk_say "STEP leave1"; try dsimp only) | fail "no step"))
    all_goals exact ⟨_, _, rfl, by with_reducible assumption, by with_reducible assumption, by rw [ht.out]; rfl, fun hq => by cases hq⟩
  clear say1 say2
  refine Hold.mk ?_
  intro ys' hT'
  have hT2 := hT'.length
  rw [List.filter_eq_nil_iff.mpr (fun _ _ hq => Bool.false_ne_true hq), List.length_nil] at hT2
  have hys := List.eq_nil_of_length_eq_zero hT2.symm
  clear hT2 hT'
  subst hys
  (repeat' (first | (k_unfold; (try dsimp only)) | (k_end; wrow_close) | (with_reducible ((with_reducible show wpAny _ _ (call (Value.builtin "chr") _ _) _ _ _); k_dflt (refine chr_of_range (by omega) (by omega) ?_))) | (with_reducible ((with_reducible show wpAny _ _ (inplaceOp Operator.Add (Value.ref _) (Value.ref _)) _ _ _); k_dflt (refine' kl_iadd ?zF9 ?zN9 ?zb9 ?ze9 ?zne9 ?zU9 ?zd9 ?zz9 ?zy9 ?_; (case zF9 => k_asm); (case zN9 => k_asm); (case zb9 => k_mem); (case zU9 => k_upd); (case ze9 => kl_lit); (case zne9 => kl_some); (case zd9 => kl_no); (case zz9 => kl_room); (case zy9 => kl_room)); kl_rest)) | (with_reducible ((with_reducible show wpAny _ _ (call (Value.ref _) _ _) _ _ _); (k_dflt (first | (refine' cvUse (f_table _ _ _ _ _ _) ?zB9 ?zF9 ?zX9 ?zN9 ?zT9 ?zhk9 ?zhy9 ?zhd9 ?zhu9 ?_; (case zF9 => k_asm); (case zT9 => k_asm); (case zB9 => k_asm); (case zX9 => k_asm); (case zN9 => k_asm); (case zhk9 => first | exact rfl | assumption); (case zhy9 => first | exact trivial | (dsimp only; (repeat' (refine And.intro ?_ ?_)) <;> first | is_list | l_ints | (with_reducible assumption) | omega | decide | kt_len)); (case zhd9 => ktr_room); (case zhu9 => ktr_units); intro v' h' tk' F' N' k' p'; (obtain ⟨tk9', p'⟩ := p'; subst p')))); (try dsimp only); (try k_fold))) | (with_reducible ((with_reducible show LCg.FinA _ _ _ _ _ _ _); (unfold LCg.FinA); intro D' h' tk' F' N' o1'; (refine nesSplit (off1K o1') ?_; dsimp only [NesArrow]; intros; (try (refine nesArrow_intro ?_; intro _))); clear o1'; (try simp only [List.nil_append, List.cons_append] at N'); (try dsimp only))) | (with_reducible ((with_reducible show LCg.FinE _ _ _ _ _ _ _); (unfold LCg.FinE); intro D' h' tk' F' N' o1'; (refine nesSplit (off1K o1') ?_; dsimp only [NesArrow]; intros; (try (refine nesArrow_intro ?_; intro _))); clear o1'; (try simp only [List.nil_append, List.cons_append] at N'); (try dsimp only))) | (with_reducible ((with_reducible show wpAny _ _ (eval (PySem.Expr.ListComp _ _ _ _) _) _ _ _); (with_reducible show wpAny _ _ (eval (PySem.Expr.ListComp _ [⟨_, _, [], _⟩] _ _) _) _ _ _); k_dflt (refine LCg.ListComp_U (F₀ := by k_asm) (by with_unfolding_all rfl) (by decide) (by rfl) (by decide) (by rfl) ?_); k_dflt lcg_toSrc)) | (with_reducible ((with_reducible show wpAny _ _ (eval (PySem.Expr.ListComp _ _ _ _) _) _ _ _); (with_reducible show wpAny _ _ (eval (PySem.Expr.ListComp _ [⟨_, _, [_], _⟩] _ _) _) _ _ _); k_dflt (refine LCt.ListComp_T (F₀ := by k_asm) (by with_unfolding_all rfl) (by decide) (by rfl) (by decide) (by rfl) ?_); k_dflt lct_toSrc)) | (with_reducible ((with_reducible show wpAny _ _ (exec (Stmt.For _ _ _ _ _) _) _ _ _); (rename Fr _ _ _ _ => lF'); (with_unfolding_all refine' For_turns lF' ?_ ?zhs99 ?zhE99; (case zhs99 => (intro _; rfl)); (case zhE99 => assumption); k_whole))) | (with_reducible ((with_reducible show wpAny _ _ (eval (PySem.Expr.Name _ _) _) _ _ _); k_dflt (refine' nameX_L ?zF9 ?zv9 ?_ ?za9 ?zb9; (case zF9 => k_asm); (case za9 => rfl); (case zb9 => rfl); (case zv9 => first | with_reducible assumption | ((try dsimp only); first | with_reducible assumption | (refine (if_neg (by decide)).trans ?_; with_reducible assumption) | (refine (if_neg (by decide)).trans ((if_neg (by decide)).trans ?_); with_reducible assumption) | (refine (if_neg (by decide)).trans ((if_neg (by decide)).trans ((if_neg (by decide)).trans ?_)); with_reducible assumption))); k_whole))) | walk1 | (dsimp only; walk1) | (leave1; walk_say "STEP leave1"; try dsimp only) | fail "no step"))
  refine' use _ _ _ ?ua ?uc ?ub
  case ua => assumption
  case uc => exact rfl
  case ub => ((repeat (refine newsCons (by with_reducible assumption) (by (repeat (first | exact List.Mem.head _ | apply List.Mem.tail))) ?_)); exact News.nil)
end
end
end
-- KLEc
noncomputable section
open PySem PySem.W PyProof.Rows PySem.Calls PySem.Spec
set_option Elab.async false
set_option maxRecDepth 100000
set_option maxHeartbeats 8000000
set_option linter.unusedVariables false
open LCg LCt
noncomputable def codesOf (x : PySem.Str) : List Int := x.cps.toList.map fun (c : Nat) => (c : Int)
theorem newsDrop4 {h₀ h : Heap} {L : Addr} {a b c d : Addr × Obj} {l : List (Addr × Obj)} (N : News h₀ L h (a :: b :: c :: d :: l)) : News h₀ L h l := fun p hp => N p (.tail _ (.tail _ (.tail _ (.tail _ hp))))
theorem in_four {prog : Program} {w : World} {A : Around} {E : Value → Shared → Prop} {s : Shared} {h₀ : Heap} {L : Addr} {news : List (Addr × Obj)} {l : Addr} {n : Nat} {r : Int} {tr t0 t1 t2 t3 : Tok} {Q : Value → Shared → Prop} (N : News h₀ L s.heap news) (hm : (l, ({ cls := .type "tuple", data := .seq #[.int 0 t0, .int 1 t1, .int 2 t2, .int 3 t3] n } : Obj)) ∈ news) (hr : 0 ≤ r ∧ r < 4) (h : Q (.bool true) s) :
    wpAny (model prog w) A (compareOp .In (.int r tr) (.ref l)) Q E s := by
  refine PySem.SeqRoads2.in_tuple (isInt r) (fun y hy => eq_isInt r tr (vs := [.int 0 t0, .int 1 t1, .int 2 t2, .int 3 t3]) (ns := [0, 1, 2, 3]) (.cons _ _ (.cons _ _ (.cons _ _ (.cons _ _ .nil)))) y (by simpa using hy)) (N _ hm).1 ?_
  have e : (#[Value.int 0 t0, .int 1 t1, .int 2 t2, .int 3 t3] : Array Value).any (isInt r) = true := by
    have h' : r = 0 ∨ r = 1 ∨ r = 2 ∨ r = 3 := by omega
    rcases h' with rfl | rfl | rfl | rfl <;> simp [isInt]
  rw [e]; exact h
section
local macro_rules | `(tactic| k_mem) => `(tactic| first | with_reducible assumption | (refine memOf ?_; with_reducible assumption))
theorem law_Ec (w : World) (mean : ExcName → Option Value) (mg mb : PySem.Str → Option Value) {g h : Heap} {L f : Addr} {cdv : Value} {m : PySem.Str → Option Value} {gens : Array GenState} {drawn : Drawn} {toks : Nat} {os : OsState} {Q : Flow → Shared → Prop} {E : Value → Shared → Prop} {lf I ltb lle lla lco : Addr} {oI o5 o6 o7 : Obj} {tabA ledA labA codA : Array Value} {n1 n2 n3 n4 : Nat} {nx : List (Addr × Obj)} {p r : Int} {lab : PySem.Str} {sg : Nat} {t1 t2 t3 t4 t5 t6 : Tok}
   (B : Below callerA g [] g) (X : (KF w.params).In g) (T : Top vw LW mean mg mb g) (F : Fr g L h m) (N : News g L h ((lf, W.listOf #[.str (f1W p) t1, .str (f2W p) t2, .str (f3W p r) t3] 0) :: (I, oI) :: (ltb, W.listOf tabA n1) :: (lle, W.listOf ledA n2) :: (lla, W.listOf labA n3) :: (lco, W.listOf codA n4) :: nx)) (hm5 : (L + 1 + 1 + 1 + 1 + 1, o5) ∈ nx) (hm6 : (L + 1 + 1 + 1 + 1 + 1 + 1, o6) ∈ nx) (hm7 : (L + 1 + 1 + 1 + 1 + 1 + 1 + 1, o7) ∈ nx) (d5 : o5.data = .cell (some (.ref lco))) (d6 : o6.data = .cell (some (.ref lle))) (d7 : o7.data = .cell (some (.ref ltb)))
   (hf : m (PySem.Str.ofString "fields") = some (.ref lf)) (hmk : m (PySem.Str.ofString "mark") = some (.str (mkW p) t4)) (hbh : m (PySem.Str.ofString "behind") = some (.str (bhW p) t5)) (hlb : m (PySem.Str.ofString "label") = some (.str lab t6)) (hls : m (PySem.Str.ofString "labels") = some (.ref lla)) (hr : 0 ≤ r ∧ r < 4) (hsg : Txt.item lab (-1) = ⟨#[sg]⟩) (hln : 1 ≤ lab.length ∧ lab.length ≤ 3)
   (hs1 : tabA.size ≤ 8) (hs2 : ledA.size ≤ 8) (hs3 : labA.size ≤ 8) (hs4 : codA.size ≤ 8) (hx1 : ∀ p ∈ nx, p.1 ≠ ltb) (hx2 : ∀ p ∈ nx, p.1 ≠ lle) (hx3 : ∀ p ∈ nx, p.1 ≠ lla) (hx4 : ∀ p ∈ nx, p.1 ≠ lco) (hq1 : @LT.lt Nat _ lco lla) (hq2 : @LT.lt Nat _ lla lle) (hq3 : @LT.lt Nat _ lle ltb) (hq4 : @LT.lt Nat _ ltb lf) (hq5 : @LT.lt Nat _ I lf) (hi1 : NeK ltb I) (hi2 : NeK lle I) (hi3 : NeK lla I) (hi4 : NeK lco I)
   (hE : PassesOwn (model pwC w) (callerA.deeper (envOfC (PySem.Str.ofString "law") lawSc L f cdv)) (envOfC (PySem.Str.ofString "law") lawSc L f cdv) E)
   (use : ∀ (h' : Heap) (tk' : Nat) (m' : PySem.Str → Option Value) (D lc : Addr) (ys : List Value) (ta tb tc : Tok), Fr g L h' m' → m' (PySem.Str.ofString "told") = some (.ref D) → (∀ y, y ≠ (PySem.Str.ofString "told") → m' y = m y) → News g L h' ((D, { cls := .type "tuple", data := .seq #[.str lab t6, .int r ta] }) :: (lc, lst ys) :: (lf, W.listOf #[.str (f1W p) t1, .str (f2W p) t2, .str (f3W p r) t3] 0) :: (I, oI) :: (ltb, W.listOf (tabA.push (.int (tbl (heldOf w sg)) tb)) (n1 + 1)) :: (lle, W.listOf (ledA.push (.int r tc)) (n2 + 1)) :: (lla, W.listOf (labA.push (.str lab t6)) (n3 + 1)) :: (lco, W.listOf (codA.push (.ref lc)) (n4 + 1)) :: nx) → IntsAre ys (codesOf lab) → NeK I lc → NeK ltb lc → NeK lle lc → NeK lla lc → NeK lco lc → NesK lc nx → Q .next ⟨h', gens, drawn, tk', os⟩) : wpAny (model pwC w) (callerA.deeper (envOfC (PySem.Str.ofString "law") lawSc L f cdv)) (execs lawEc (envOfC (PySem.Str.ofString "law") lawSc L f cdv)) Q E ⟨h, gens, drawn, toks, os⟩ := by
  have hfill : (PySem.Challenge.rw_yh0002_01 = PySem.Challenge.rw_yh0002_01) ∧ KF = KF := by k_fill; exact ⟨rfl, rfl⟩
  clear hfill
  unfold lawEc
  unfold lawSc at *
  dsimp only at hE ⊢
  obtain rfl : sg = (Txt.charAt lab (-1)).getD 0 := by
    have := hsg; unfold Txt.item at this; simpa using this.symm
  have q1 : (f1W p).length = 1 := by rw [f1_eq, sl_len]; rfl
  have q2 : (f2W p).length = 1 := by rw [f2_eq, sl_len]; rfl
  have q3 : (f3W p r).length ≤ 3 := by rw [f3_eq p hr, sl_len]; exact f3_len
  have q4 : (mkW p).length = 1 := by rw [mkW_eq, sl_len]; rfl
  have q5 : (bhW p).length ≤ 8 := by rw [bhW_eq, sl_len]; exact bh_len
  have q6 : (PySem.Str.ofString "229").length = 3 := by decide +kernel
  (repeat' (first | (k_unfold; (try dsimp only)) | (k_end; wrow_close) | (with_reducible ((with_reducible show wpAny _ _ (compareOp CmpOp.In (Value.int _ _) (Value.ref _)) _ _ _); k_dflt (refine' in_four ?zk19 ?zk29 ?zk39 ?_; (case zk19 => k_asm); (case zk29 => (repeat (first | exact List.Mem.head _ | apply List.Mem.tail))); (case zk39 => with_reducible assumption)))) | (with_reducible ((with_reducible show wpAny _ _ (call (Value.builtin "list.append") _ _) _ _ _); (with_reducible show wpAny _ _ (call (Value.builtin _) [Value.ref _, _]) _ _ _); k_dflt (refine' append_K ?zk19 ?zk29 ?zk39 ?_ ?zz9; (case zk19 => k_asm); (case zk29 => k_asm); (case zk39 => k_upd); (case zz9 => (rw [sizeLine_eq]; omega)); k_whole); intro h' F' N'; (try k_sweep))) | (with_reducible ((with_reducible show wpAny _ _ (eval (PySem.Expr.ListComp _ _ _ _) _) _ _ _); k_dflt (refine ListComp_S (F₀ := by k_asm) (by with_unfolding_all rfl) (by decide) (by rfl) (by decide) (by rfl) ?_))) | (with_reducible ((with_reducible show LCg.FinA _ _ _ _ _ _ _); (unfold LCg.FinA); intro D' h' tk' F' N' o1'; (refine nesSplit (off1K o1') ?_; dsimp only [NesArrow]; intros; (try (refine nesArrow_intro ?_; intro _))); clear o1'; (try simp only [List.nil_append, List.cons_append] at N'); (try dsimp only))) | (with_reducible ((with_reducible show LCg.FinE _ _ _ _ _ _ _); (unfold LCg.FinE); intro D' h' tk' F' N' o1'; (refine nesSplit (off1K o1') ?_; dsimp only [NesArrow]; intros; (try (refine nesArrow_intro ?_; intro _))); clear o1'; (try simp only [List.nil_append, List.cons_append] at N'); (try dsimp only))) | (with_reducible ((with_reducible show wpAny _ _ (call (Value.ref _) _ _) _ _ _); k_dflt (refine' cvnUse (parse_all _ _ _ _ _ _ (by assumption) _ _ _ _ _) ?zB9 ?zF9 ?zX9 ?zN9 ?zT9 ?zhk9 ?zhy9 ?zhd9 ?zhu9 ?_; (case zF9 => k_asm); (case zT9 => k_asm); (case zB9 => k_asm); (case zX9 => k_asm); (case zN9 => k_asm); (case zhk9 => first | exact rfl | assumption); (case zhy9 => exact News.isTup (by k_asm) (by k_mem)); (case zhd9 => ktr_room); (case zhu9 => ktr_units); intro D' o' h' tk' F' N' l1' k' p'; (refine nesSplit (nesK l1') ?_; dsimp only [NesArrow]; intros; (try (refine nesArrow_intro ?_; intro _))); clear l1'; (obtain ⟨tk9', p'⟩ := p'; subst p')); (try dsimp only); (try k_fold))) | (with_reducible ((with_reducible show wpAny _ _ (call (Value.ref _) _ _) _ _ _); (k_dflt (first | (refine' cvUse (f_reply3 _ _ _ _ _ _ _ _ _ _ _ _ _ _ _ _ _) ?zB9 ?zF9 ?zX9 ?zN9 ?zT9 ?zhk9 ?zhy9 ?zhd9 ?zhu9 ?_; (case zF9 => k_asm); (case zT9 => k_asm); (case zB9 => k_asm); (case zX9 => k_asm); (case zN9 => k_asm); (case zhk9 => first | exact rfl | assumption); (case zhy9 => first | exact trivial | (dsimp only; (repeat' (refine And.intro ?_ ?_)) <;> first | is_list | l_ints | (with_reducible assumption) | omega | decide | kt_len)); (case zhd9 => ktr_room); (case zhu9 => ktr_units); intro v' h' tk' F' N' k' p'; first | (obtain ⟨hl', tk9', p'⟩ := p'; subst p') | (obtain ⟨tk9', p'⟩ := p'; subst p')) | (refine' cvUse (f_table _ _ _ _ _ _) ?zB9 ?zF9 ?zX9 ?zN9 ?zT9 ?zhk9 ?zhy9 ?zhd9 ?zhu9 ?_; (case zF9 => k_asm); (case zT9 => k_asm); (case zB9 => k_asm); (case zX9 => k_asm); (case zN9 => k_asm); (case zhk9 => first | exact rfl | assumption); (case zhy9 => first | exact trivial | (dsimp only; (repeat' (refine And.intro ?_ ?_)) <;> first | is_list | l_ints | (with_reducible assumption) | omega | decide | kt_len)); (case zhd9 => ktr_room); (case zhu9 => ktr_units); intro v' h' tk' F' N' k' p'; first | (obtain ⟨hl', tk9', p'⟩ := p'; subst p') | (obtain ⟨tk9', p'⟩ := p'; subst p')))); (try dsimp only); (try k_fold))) | (with_reducible ((with_reducible show wpAny _ _ (exec (Stmt.For _ _ _ _ _) _) _ _ _); (rename Fr _ _ _ _ => lF'); (with_unfolding_all refine' For_turns lF' ?_ ?zhs99 ?zhE99; (case zhs99 => (intro _; rfl)); (case zhE99 => assumption); k_whole))) | (with_reducible ((with_reducible show wpAny _ _ (eval (PySem.Expr.Name _ _) _) _ _ _); k_dflt (refine' nameX_L ?zF9 ?zv9 ?_ ?za9 ?zb9; (case zF9 => k_asm); (case za9 => rfl); (case zb9 => rfl); (case zv9 => first | with_reducible assumption | ((try dsimp only); first | with_reducible assumption | (refine (if_neg (by decide)).trans ?_; with_reducible assumption) | (refine (if_neg (by decide)).trans ((if_neg (by decide)).trans ?_); with_reducible assumption) | (refine (if_neg (by decide)).trans ((if_neg (by decide)).trans ((if_neg (by decide)).trans ?_)); with_reducible assumption))); k_whole))) | (with_reducible ((with_reducible show wpAny _ _ (subscriptTail _ _ _ _) _ _ _); (with_reducible show wpAny _ _ (subscriptTail _ _ (Value.ref _) (Value.int _ _)) _ _ _); (fail_if_success (with_reducible show wpAny _ _ (subscriptTail (PySem.Expr.Name _ _) _ _ _) _ _ _)); k_dflt (refine kba_turn (value' := PySem.Expr.Name (PySem.Str.ofString "_") ⟨0, 0, 0, 0⟩) (fun _ => rfl) ?_))) | walk1 | (dsimp only; walk1) | (leave1; walk_say "STEP leave1"; try dsimp only) | fail "no step"))
  have say2 : Say 1 (fun (i : Nat) (y : Value) => ∃ t, y = Value.int ((codesOf lab).getD i 0) t) := ⟨⟩
  refine SrcS.intro (by rfl) (by k_asm) (by k_asm) ?hsz ?hrest
  case hsz => (rw [sizeLine_eq]; show lab.length ≤ _; omega)
  intro g'
  refine restU_say 1 (by assumption) trivial ?step ?fin
  case step =>
    refine Hold.mk ?_
    intro i' v' I' oI' C' oC' D' ys' m' h' tk' E' hi' hv' hC' hx' F' N' off' ne'
    obtain ⟨c', u', hc', e'⟩ := hv'; subst e'
    have hcc : (codesOf lab).getD i' 0 = (c' : Int) := by
      have hc2 : lab.cps.toList[i']? = some c' := by rw [Array.getElem?_toList]; exact hc'
      unfold codesOf
      rw [List.getD_eq_getElem?_getD, List.getElem?_map, hc2]; rfl
    replace hcc := Kept.mk hcc
    (repeat' (first | (k_unfold; (try dsimp only)) | (k_end; wrow_close) | (with_reducible ((with_reducible show wpAny _ _ (compareOp CmpOp.In (Value.int _ _) (Value.ref _)) _ _ _); k_dflt (refine' in_four ?zk19 ?zk29 ?zk39 ?_; (case zk19 => k_asm); (case zk29 => (repeat (first | exact List.Mem.head _ | apply List.Mem.tail))); (case zk39 => with_reducible assumption)))) | (with_reducible ((with_reducible show wpAny _ _ (call (Value.builtin "list.append") _ _) _ _ _); (with_reducible show wpAny _ _ (call (Value.builtin _) [Value.ref _, _]) _ _ _); k_dflt (refine' append_K ?zk19 ?zk29 ?zk39 ?_ ?zz9; (case zk19 => k_asm); (case zk29 => k_asm); (case zk39 => k_upd); (case zz9 => (rw [sizeLine_eq]; omega)); k_whole); intro h' F' N'; (try k_sweep))) | (with_reducible ((with_reducible show wpAny _ _ (eval (PySem.Expr.ListComp _ _ _ _) _) _ _ _); k_dflt (refine ListComp_S (F₀ := by k_asm) (by with_unfolding_all rfl) (by decide) (by rfl) (by decide) (by rfl) ?_))) | (with_reducible ((with_reducible show LCg.FinA _ _ _ _ _ _ _); (unfold LCg.FinA); intro D' h' tk' F' N' o1'; (refine nesSplit (off1K o1') ?_; dsimp only [NesArrow]; intros; (try (refine nesArrow_intro ?_; intro _))); clear o1'; (try simp only [List.nil_append, List.cons_append] at N'); (try dsimp only))) | (with_reducible ((with_reducible show LCg.FinE _ _ _ _ _ _ _); (unfold LCg.FinE); intro D' h' tk' F' N' o1'; (refine nesSplit (off1K o1') ?_; dsimp only [NesArrow]; intros; (try (refine nesArrow_intro ?_; intro _))); clear o1'; (try simp only [List.nil_append, List.cons_append] at N'); (try dsimp only))) | (with_reducible ((with_reducible show wpAny _ _ (call (Value.ref _) _ _) _ _ _); k_dflt (refine' cvnUse (parse_all _ _ _ _ _ _ (by assumption) _ _ _ _ _) ?zB9 ?zF9 ?zX9 ?zN9 ?zT9 ?zhk9 ?zhy9 ?zhd9 ?zhu9 ?_; (case zF9 => k_asm); (case zT9 => k_asm); (case zB9 => k_asm); (case zX9 => k_asm); (case zN9 => k_asm); (case zhk9 => first | exact rfl | assumption); (case zhy9 => exact News.isTup (by k_asm) (by k_mem)); (case zhd9 => ktr_room); (case zhu9 => ktr_units); intro D' o' h' tk' F' N' l1' k' p'; (refine nesSplit (nesK l1') ?_; dsimp only [NesArrow]; intros; (try (refine nesArrow_intro ?_; intro _))); clear l1'; (obtain ⟨tk9', p'⟩ := p'; subst p')); (try dsimp only); (try k_fold))) | (with_reducible ((with_reducible show wpAny _ _ (call (Value.ref _) _ _) _ _ _); (k_dflt (first | (refine' cvUse (f_reply3 _ _ _ _ _ _ _ _ _ _ _ _ _ _ _ _ _) ?zB9 ?zF9 ?zX9 ?zN9 ?zT9 ?zhk9 ?zhy9 ?zhd9 ?zhu9 ?_; (case zF9 => k_asm); (case zT9 => k_asm); (case zB9 => k_asm); (case zX9 => k_asm); (case zN9 => k_asm); (case zhk9 => first | exact rfl | assumption); (case zhy9 => first | exact trivial | (dsimp only; (repeat' (refine And.intro ?_ ?_)) <;> first | is_list | l_ints | (with_reducible assumption) | omega | decide | kt_len)); (case zhd9 => ktr_room); (case zhu9 => ktr_units); intro v' h' tk' F' N' k' p'; first | (obtain ⟨hl', tk9', p'⟩ := p'; subst p') | (obtain ⟨tk9', p'⟩ := p'; subst p')) | (refine' cvUse (f_table _ _ _ _ _ _) ?zB9 ?zF9 ?zX9 ?zN9 ?zT9 ?zhk9 ?zhy9 ?zhd9 ?zhu9 ?_; (case zF9 => k_asm); (case zT9 => k_asm); (case zB9 => k_asm); (case zX9 => k_asm); (case zN9 => k_asm); (case zhk9 => first | exact rfl | assumption); (case zhy9 => first | exact trivial | (dsimp only; (repeat' (refine And.intro ?_ ?_)) <;> first | is_list | l_ints | (with_reducible assumption) | omega | decide | kt_len)); (case zhd9 => ktr_room); (case zhu9 => ktr_units); intro v' h' tk' F' N' k' p'; first | (obtain ⟨hl', tk9', p'⟩ := p'; subst p') | (obtain ⟨tk9', p'⟩ := p'; subst p')))); (try dsimp only); (try k_fold))) | (with_reducible ((with_reducible show wpAny _ _ (exec (Stmt.For _ _ _ _ _) _) _ _ _); (rename Fr _ _ _ _ => lF'); (with_unfolding_all refine' For_turns lF' ?_ ?zhs99 ?zhE99; (case zhs99 => (intro _; rfl)); (case zhE99 => assumption); k_whole))) | (with_reducible ((with_reducible show wpAny _ _ (eval (PySem.Expr.Name _ _) _) _ _ _); k_dflt (refine' nameX_L ?zF9 ?zv9 ?_ ?za9 ?zb9; (case zF9 => k_asm); (case za9 => rfl); (case zb9 => rfl); (case zv9 => first | with_reducible assumption | ((try dsimp only); first | with_reducible assumption | (refine (if_neg (by decide)).trans ?_; with_reducible assumption) | (refine (if_neg (by decide)).trans ((if_neg (by decide)).trans ?_); with_reducible assumption) | (refine (if_neg (by decide)).trans ((if_neg (by decide)).trans ((if_neg (by decide)).trans ?_)); with_reducible assumption))); k_whole))) | (with_reducible ((with_reducible show wpAny _ _ (subscriptTail _ _ _ _) _ _ _); (with_reducible show wpAny _ _ (subscriptTail _ _ (Value.ref _) (Value.int _ _)) _ _ _); (fail_if_success (with_reducible show wpAny _ _ (subscriptTail (PySem.Expr.Name _ _) _ _ _) _ _ _)); k_dflt (refine kba_turn (value' := PySem.Expr.Name (PySem.Str.ofString "_") ⟨0, 0, 0, 0⟩) (fun _ => rfl) ?_))) | walk1 | (dsimp only; walk1) | (leave1; walk_say "STEP leave1"; try dsimp only) | fail "no step"))
    all_goals exact ⟨_, _, rfl, by with_reducible assumption, by with_reducible assumption, ⟨_, by rw [hcc.out]⟩⟩
  clear say2
  refine Hold.mk ?_
  intro ys' hT'; have hI' := intsTwo hT'; clear hT'
  have hcs : (List.range lab.cps.size).map (fun i => (codesOf lab).getD i 0) = codesOf lab := by
    have := map_range_getD (fun x => x) (codesOf lab) (n := lab.cps.size) (by unfold codesOf; simp)
    simpa using this
  rw [hcs] at hI'
  clear hcs
  (repeat' (first | (k_unfold; (try dsimp only)) | (k_end; wrow_close) | (with_reducible ((with_reducible show wpAny _ _ (compareOp CmpOp.In (Value.int _ _) (Value.ref _)) _ _ _); k_dflt (refine' in_four ?zk19 ?zk29 ?zk39 ?_; (case zk19 => k_asm); (case zk29 => (repeat (first | exact List.Mem.head _ | apply List.Mem.tail))); (case zk39 => with_reducible assumption)))) | (with_reducible ((with_reducible show wpAny _ _ (call (Value.builtin "list.append") _ _) _ _ _); (with_reducible show wpAny _ _ (call (Value.builtin _) [Value.ref _, _]) _ _ _); k_dflt (refine' append_K ?zk19 ?zk29 ?zk39 ?_ ?zz9; (case zk19 => k_asm); (case zk29 => k_asm); (case zk39 => k_upd); (case zz9 => (rw [sizeLine_eq]; omega)); k_whole); intro h' F' N'; (try k_sweep))) | (with_reducible ((with_reducible show wpAny _ _ (eval (PySem.Expr.ListComp _ _ _ _) _) _ _ _); k_dflt (refine ListComp_S (F₀ := by k_asm) (by with_unfolding_all rfl) (by decide) (by rfl) (by decide) (by rfl) ?_))) | (with_reducible ((with_reducible show LCg.FinA _ _ _ _ _ _ _); (unfold LCg.FinA); intro D' h' tk' F' N' o1'; (refine nesSplit (off1K o1') ?_; dsimp only [NesArrow]; intros; (try (refine nesArrow_intro ?_; intro _))); clear o1'; (try simp only [List.nil_append, List.cons_append] at N'); (try dsimp only))) | (with_reducible ((with_reducible show LCg.FinE _ _ _ _ _ _ _); (unfold LCg.FinE); intro D' h' tk' F' N' o1'; (refine nesSplit (off1K o1') ?_; dsimp only [NesArrow]; intros; (try (refine nesArrow_intro ?_; intro _))); clear o1'; (try simp only [List.nil_append, List.cons_append] at N'); (try dsimp only))) | (with_reducible ((with_reducible show wpAny _ _ (call (Value.ref _) _ _) _ _ _); k_dflt (refine' cvnUse (parse_all _ _ _ _ _ _ (by assumption) _ _ _ _ _) ?zB9 ?zF9 ?zX9 ?zN9 ?zT9 ?zhk9 ?zhy9 ?zhd9 ?zhu9 ?_; (case zF9 => k_asm); (case zT9 => k_asm); (case zB9 => k_asm); (case zX9 => k_asm); (case zN9 => k_asm); (case zhk9 => first | exact rfl | assumption); (case zhy9 => exact News.isTup (by k_asm) (by k_mem)); (case zhd9 => ktr_room); (case zhu9 => ktr_units); intro D' o' h' tk' F' N' l1' k' p'; (refine nesSplit (nesK l1') ?_; dsimp only [NesArrow]; intros; (try (refine nesArrow_intro ?_; intro _))); clear l1'; (obtain ⟨tk9', p'⟩ := p'; subst p')); (try dsimp only); (try k_fold))) | (with_reducible ((with_reducible show wpAny _ _ (call (Value.ref _) _ _) _ _ _); (k_dflt (first | (refine' cvUse (f_reply3 _ _ _ _ _ _ _ _ _ _ _ _ _ _ _ _ _) ?zB9 ?zF9 ?zX9 ?zN9 ?zT9 ?zhk9 ?zhy9 ?zhd9 ?zhu9 ?_; (case zF9 => k_asm); (case zT9 => k_asm); (case zB9 => k_asm); (case zX9 => k_asm); (case zN9 => k_asm); (case zhk9 => first | exact rfl | assumption); (case zhy9 => first | exact trivial | (dsimp only; (repeat' (refine And.intro ?_ ?_)) <;> first | is_list | l_ints | (with_reducible assumption) | omega | decide | kt_len)); (case zhd9 => ktr_room); (case zhu9 => ktr_units); intro v' h' tk' F' N' k' p'; first | (obtain ⟨hl', tk9', p'⟩ := p'; subst p') | (obtain ⟨tk9', p'⟩ := p'; subst p')) | (refine' cvUse (f_table _ _ _ _ _ _) ?zB9 ?zF9 ?zX9 ?zN9 ?zT9 ?zhk9 ?zhy9 ?zhd9 ?zhu9 ?_; (case zF9 => k_asm); (case zT9 => k_asm); (case zB9 => k_asm); (case zX9 => k_asm); (case zN9 => k_asm); (case zhk9 => first | exact rfl | assumption); (case zhy9 => first | exact trivial | (dsimp only; (repeat' (refine And.intro ?_ ?_)) <;> first | is_list | l_ints | (with_reducible assumption) | omega | decide | kt_len)); (case zhd9 => ktr_room); (case zhu9 => ktr_units); intro v' h' tk' F' N' k' p'; first | (obtain ⟨hl', tk9', p'⟩ := p'; subst p') | (obtain ⟨tk9', p'⟩ := p'; subst p')))); (try dsimp only); (try k_fold))) | (with_reducible ((with_reducible show wpAny _ _ (exec (Stmt.For _ _ _ _ _) _) _ _ _); (rename Fr _ _ _ _ => lF'); (with_unfolding_all refine' For_turns lF' ?_ ?zhs99 ?zhE99; (case zhs99 => (intro _; rfl)); (case zhE99 => assumption); k_whole))) | (with_reducible ((with_reducible show wpAny _ _ (eval (PySem.Expr.Name _ _) _) _ _ _); k_dflt (refine' nameX_L ?zF9 ?zv9 ?_ ?za9 ?zb9; (case zF9 => k_asm); (case za9 => rfl); (case zb9 => rfl); (case zv9 => first | with_reducible assumption | ((try dsimp only); first | with_reducible assumption | (refine (if_neg (by decide)).trans ?_; with_reducible assumption) | (refine (if_neg (by decide)).trans ((if_neg (by decide)).trans ?_); with_reducible assumption) | (refine (if_neg (by decide)).trans ((if_neg (by decide)).trans ((if_neg (by decide)).trans ?_)); with_reducible assumption))); k_whole))) | (with_reducible ((with_reducible show wpAny _ _ (subscriptTail _ _ _ _) _ _ _); (with_reducible show wpAny _ _ (subscriptTail _ _ (Value.ref _) (Value.int _ _)) _ _ _); (fail_if_success (with_reducible show wpAny _ _ (subscriptTail (PySem.Expr.Name _ _) _ _ _) _ _ _)); k_dflt (refine kba_turn (value' := PySem.Expr.Name (PySem.Str.ofString "_") ⟨0, 0, 0, 0⟩) (fun _ => rfl) ?_))) | walk1 | (dsimp only; walk1) | (leave1; walk_say "STEP leave1"; try dsimp only) | fail "no step"))
  refine' use _ _ _ _ _ _ _ _ _ ?ua ?ub ?uc ?ud ?ue ?uf1 ?uf2 ?uf3 ?uf4 ?uf5 ?ug
  case ua => assumption
  case ub => exact rfl
  case uc => (intro y hy; (try dsimp only); exact if_neg hy)
  case ud =>
    refine newsCons (by with_reducible assumption) (.tail _ (.tail _ (.head _))) ?_
    refine newsCons (by with_reducible assumption) (.tail _ (.head _)) ?_
    refine' newsDrop4 ?nd
    case nd => with_reducible assumption
  case ue => assumption
  all_goals with_reducible assumption
end
end
-- KLEd
noncomputable section
open PySem PySem.W PyProof.Rows PySem.Calls PySem.Spec
set_option Elab.async false
set_option maxRecDepth 100000
set_option maxHeartbeats 8000000
set_option linter.unusedVariables false
open LCg LCt
theorem newsDropD {h₀ h : Heap} {L : Addr} {a : Addr × Obj} {l : List (Addr × Obj)} (N : News h₀ L h (a :: l)) : News h₀ L h l := fun p hp => N p (.tail _ hp)
theorem ne_told {prog : Program} {w : World} {A : Around} {E : Value → Shared → Prop} {s : Shared} {h₀ : Heap} {L : Addr} {news : List (Addr × Obj)} {D D' : Addr} {n n' : Nat} {lab : PySem.Str} {r r' : Int} {t t' ta ta' : Tok} {Q : Value → Shared → Prop} (N : News h₀ L s.heap news) (hm : (D, ({ cls := .type "tuple", data := .seq #[.str lab t, .int r ta] n } : Obj)) ∈ news) (hm' : (D', ({ cls := .type "tuple", data := .seq #[.str lab t', .int r' ta'] n' } : Obj)) ∈ news) (hr : Kept (r' = r)) (hu : A.units < cLine) (h : Q (.bool false) s) :
    wpAny (model prog w) A (compareOp .NotEq (.ref D) (.ref D')) Q E s := by
  have hl : s.heap.IsTuple D #[.str lab t, .int r ta] := ⟨_, (N _ hm).1, rfl, _, rfl⟩
  have hl' : s.heap.IsTuple D' #[.str lab t', .int r' ta'] := ⟨_, (N _ hm').1, rfl, _, rfl⟩
  refine PySem.SeqAt.RcNeAt.tuples (e := fun j => if j = 0 then (lab == lab) else (r == r')) hl hl' hu (fun j h1 h2 => ?_) prog w E Q ?_
  · have h1' : j < 2 := h1
    rcases j with _ | _ | j
    · exact PySem.SeqAt.EqAt.str_str _ _ _ _
    · exact PySem.SeqAt.EqAt.int_int _ _ _ _
    · omega
  · rw [hr.out]
    have e : (!((List.range (min (#[Value.str lab t, .int r ta] : Array Value).size (#[Value.str lab t', .int r ta'] : Array Value).size)).all (fun j => if j = 0 then (lab == lab) else (r == r)) && (#[Value.str lab t, .int r ta] : Array Value).size == (#[Value.str lab t', .int r ta'] : Array Value).size)) = false := by
      show (!((List.range 2).all (fun j => if j = 0 then (lab == lab) else (r == r)) && (2 : Nat) == 2)) = false
      simp [List.range_succ]
    rw [e]; exact h
section
local macro_rules | `(tactic| k_mem) => `(tactic| first | with_reducible assumption | (refine memOf ?_; with_reducible assumption))
theorem law_Ed (w : World) (mean : ExcName → Option Value) (mg mb : PySem.Str → Option Value) {g h : Heap} {L f : Addr} {cdv : Value} {m : PySem.Str → Option Value} {gens : Array GenState} {drawn : Drawn} {toks : Nat} {os : OsState} {Q : Flow → Shared → Prop} {E : Value → Shared → Prop} {D lr ltb : Addr} {rvs tvs : List Value} {rd tabs : List Int} {nx : List (Addr × Obj)} {o2 o3 o7 : Obj} {i n1 : Nat} {ti t2 t6 ta : Tok} {fg r : Int} {lab : PySem.Str}
   (B : Below callerA g [] g) (X : (KF w.params).In g) (T : Top vw LW mean mg mb g) (F : Fr g L h m) (N : News g L h nx) (hm2 : (L + 1 + 1, o2) ∈ nx) (hm3 : (L + 1 + 1 + 1, o3) ∈ nx) (hm7 : (L + 1 + 1 + 1 + 1 + 1 + 1 + 1, o7) ∈ nx) (hmD : (D, ({ cls := .type "tuple", data := .seq #[.str lab t6, .int r ta] } : Obj)) ∈ nx) (hmr : (lr, lst rvs) ∈ nx) (hmt : (ltb, W.listOf tvs.toArray n1) ∈ nx)
   (d2 : o2.data = .cell (some (.int (i : Int) ti))) (d3 : o3.data = .cell (some (.ref lr))) (d7 : o7.data = .cell (some (.ref ltb))) (hI : IntsAre rvs rd) (hlen : rd.length = 8) (hr : rd.getD ((i : Int)).toNat 0 = r) (hi : i < 8) (hT : IntsAre tvs tabs) (hTl : tabs.length = i + 1) (hTv : tabs.getD ((i : Int)).toNat 0 = fg.fdiv 7)
   (hto : m (PySem.Str.ofString "told") = some (.ref D)) (hlb : m (PySem.Str.ofString "label") = some (.str lab t6)) (hfg : m (PySem.Str.ofString "figure") = some (.int fg t2)) (hln : 1 ≤ lab.length ∧ lab.length ≤ 3)
   (hE : PassesOwn (model pwC w) (callerA.deeper (envOfC (PySem.Str.ofString "law") lawSc L f cdv)) (envOfC (PySem.Str.ofString "law") lawSc L f cdv) E)
   (use : ∀ (h' : Heap) (tk' : Nat), Fr g L h' m → News g L h' nx → Q .next ⟨h', gens, drawn, tk', os⟩) : wpAny (model pwC w) (callerA.deeper (envOfC (PySem.Str.ofString "law") lawSc L f cdv)) (execs lawEd (envOfC (PySem.Str.ofString "law") lawSc L f cdv)) Q E ⟨h, gens, drawn, toks, os⟩ := by
  have hfill : (PySem.Challenge.rw_yh0002_01 = PySem.Challenge.rw_yh0002_01) ∧ KF = KF := by k_fill; exact ⟨rfl, rfl⟩
  clear hfill
  unfold lawEd
  unfold lawSc at *
  dsimp only at hE ⊢
  have hi2 : (0 : Int) ≤ (i : Int) ∧ (i : Int) < (rd.length : Int) := ⟨by omega, by omega⟩
  have hi3 : (i : Int) < (tabs.length : Int) := by omega
  replace hr := Kept.mk hr
  replace hTv := Kept.mk hTv
  (repeat' (first | (k_unfold; (try dsimp only)) | (k_end; wrow_close) | (with_reducible ((with_reducible show wpAny _ _ (compareOp CmpOp.NotEq (Value.ref _) (Value.ref _)) _ _ _); k_dflt (refine' ne_told ?zk19 ?zk29 ?zk39 ?zk59 ?zk49 ?_; (case zk19 => k_asm); (case zk29 => k_mem); (case zk39 => k_mem); (case zk59 => with_reducible assumption); (case zk49 => ktr_units)))) | (with_reducible ((with_reducible show LCg.FinA _ _ _ _ _ _ _); (unfold LCg.FinA); intro D' h' tk' F' N' o1'; (refine nesSplit (off1K o1') ?_; dsimp only [NesArrow]; intros; (try (refine nesArrow_intro ?_; intro _))); clear o1'; (try simp only [List.nil_append, List.cons_append] at N'); (try dsimp only))) | (with_reducible ((with_reducible show LCg.FinE _ _ _ _ _ _ _); (unfold LCg.FinE); intro D' h' tk' F' N' o1'; (refine nesSplit (off1K o1') ?_; dsimp only [NesArrow]; intros; (try (refine nesArrow_intro ?_; intro _))); clear o1'; (try simp only [List.nil_append, List.cons_append] at N'); (try dsimp only))) | (with_reducible ((with_reducible show wpAny _ _ (exec (Stmt.For _ _ _ _ _) _) _ _ _); (rename Fr _ _ _ _ => lF'); (with_unfolding_all refine' For_turns lF' ?_ ?zhs99 ?zhE99; (case zhs99 => (intro _; rfl)); (case zhE99 => assumption); k_whole))) | (with_reducible ((with_reducible show wpAny _ _ (eval (PySem.Expr.Name _ _) _) _ _ _); k_dflt (refine' nameX_L ?zF9 ?zv9 ?_ ?za9 ?zb9; (case zF9 => k_asm); (case za9 => rfl); (case zb9 => rfl); (case zv9 => first | with_reducible assumption | ((try dsimp only); first | with_reducible assumption | (refine (if_neg (by decide)).trans ?_; with_reducible assumption) | (refine (if_neg (by decide)).trans ((if_neg (by decide)).trans ?_); with_reducible assumption) | (refine (if_neg (by decide)).trans ((if_neg (by decide)).trans ((if_neg (by decide)).trans ?_)); with_reducible assumption))); k_whole))) | walk1 | (dsimp only; walk1) | (leave1; walk_say "STEP leave1"; try dsimp only) | fail "no step"))
  all_goals dsimp only
  all_goals first | exact absurd hTv.out (by assumption) | (refine' use _ _ ?ua (newsDropD ?ub); (case ua => assumption); (case ub => assumption))
end
end
-- KLEe
noncomputable section
open PySem PySem.W PyProof.Rows PySem.Calls PySem.Spec
set_option Elab.async false
set_option maxRecDepth 100000
set_option maxHeartbeats 8000000
set_option linter.unusedVariables false
open LCg LCt
noncomputable def wayV (cs : List Int) (i : Nat) : Int := ((cs.getD 2 0) + (i : Int)).fmod 6
theorem fm6 (x : Int) : 0 ≤ x.fmod 6 ∧ x.fmod 6 ≤ 5 := ⟨Int.fmod_nonneg_of_pos _ (by decide), Int.le_of_lt_add_one (Int.fmod_lt_of_pos x (b := 6) (by decide))⟩
theorem isListOf {h₀ h : Heap} {L lf : Addr} {nx : List (Addr × Obj)} {vs : Array Value} {n : Nat} (N : News h₀ L h nx) (hm : (lf, W.listOf vs n) ∈ nx) : h.IsList lf vs := ⟨_, (N _ hm).1, rfl, _, rfl⟩
theorem newsDrop3 {h₀ h : Heap} {L : Addr} {a b c : Addr × Obj} {l : List (Addr × Obj)} (N : News h₀ L h (a :: b :: c :: l)) : News h₀ L h l := fun p hp => N p (.tail _ (.tail _ (.tail _ hp)))
theorem ne_strs2 {prog : Program} {w : World} {A : Around} {E : Value → Shared → Prop} {s : Shared} {h₀ : Heap} {L : Addr} {news : List (Addr × Obj)} {D D' : Addr} {n n' : Nat} {x x' y y' : PySem.Str} {t t' ta ta' : Tok} {Q : Value → Shared → Prop} (N : News h₀ L s.heap news) (hm : (D, ({ cls := .type "list", data := .seq #[.str x t, .str y ta] n } : Obj)) ∈ news) (hm' : (D', ({ cls := .type "list", data := .seq #[.str x' t', .str y' ta'] n' } : Obj)) ∈ news) (hr : Kept (x' = x)) (hy : Kept (y' = y)) (hu : A.units < cLine) (h : Q (.bool false) s) :
    wpAny (model prog w) A (compareOp .NotEq (.ref D) (.ref D')) Q E s := by
  have hl : s.heap.IsList D #[.str x t, .str y ta] := ⟨_, (N _ hm).1, rfl, _, rfl⟩
  have hl' : s.heap.IsList D' #[.str x' t', .str y' ta'] := ⟨_, (N _ hm').1, rfl, _, rfl⟩
  refine PySem.SeqAt.RcNeAt.lists (e := fun j => if j = 0 then (x == x') else (y == y')) hl hl' rfl hu (fun j h1 h2 => ?_) prog w E Q ?_
  · have h1' : j < 2 := h1
    rcases j with _ | _ | j
    · exact PySem.SeqAt.EqAt.str_str _ _ _ _
    · exact PySem.SeqAt.EqAt.str_str _ _ _ _
    · omega
  · rw [hr.out, hy.out]
    have e : (!((List.range (#[Value.str x t, .str y ta] : Array Value).size).all (fun j => if j = 0 then (x == x) else (y == y)))) = false := by
      show (!((List.range 2).all (fun j => if j = 0 then (x == x) else (y == y)))) = false
      simp [List.range_succ]
    rw [e]; exact h
section
local macro_rules | `(tactic| k_mem) => `(tactic| first | with_reducible assumption | (refine memOf ?_; with_reducible assumption))
theorem law_Ee (w : World) (mean : ExcName → Option Value) (mg mb : PySem.Str → Option Value) {g h : Heap} {L f : Addr} {cdv : Value} {m : PySem.Str → Option Value} {gens : Array GenState} {drawn : Drawn} {toks : Nat} {os : OsState} {Q : Flow → Shared → Prop} {E : Value → Shared → Prop} {l lf : Addr} {cvs : List Value} {cs : List Int} {nx : List (Addr × Obj)} {o1 o2 : Obj} {i : Nat} {p r : Int} {ti t1 t2 t3 t4 t5 t6 : Tok} {lab : PySem.Str}
   (B : Below callerA g [] g) (X : (KF w.params).In g) (T : Top vw LW mean mg mb g) (F : Fr g L h m) (N : News g L h nx) (hm1 : (L + 1, o1) ∈ nx) (hm2 : (L + 1 + 1, o2) ∈ nx) (hml : (l, W.listOf cvs.toArray 0) ∈ nx) (hmf : (lf, W.listOf #[.str (f1W p) t1, .str (f2W p) t2, .str (f3W p r) t3] 0) ∈ nx)
   (d1 : o1.data = .cell (some (.ref l))) (d2 : o2.data = .cell (some (.int (i : Int) ti))) (hI : IntsAre cvs cs) (hlen : cs.length = 3) (hi : i < 8)
   (hf : m (PySem.Str.ofString "fields") = some (.ref lf)) (hmk : m (PySem.Str.ofString "mark") = some (.str (mkW p) t4)) (hbh : m (PySem.Str.ofString "behind") = some (.str (bhW p) t5)) (hlb : m (PySem.Str.ofString "label") = some (.str lab t6)) (hr : 0 ≤ r ∧ r < 4)
   (hE : PassesOwn (model pwC w) (callerA.deeper (envOfC (PySem.Str.ofString "law") lawSc L f cdv)) (envOfC (PySem.Str.ofString "law") lawSc L f cdv) E)
   (use : ∀ (h' : Heap) (tk' : Nat) (m' : PySem.Str → Option Value), Fr g L h' m' → (∀ y, y ≠ (PySem.Str.ofString "way") → y ≠ (PySem.Str.ofString "reply") → m' y = m y) → News g L h' nx → Q .next ⟨h', gens, drawn, tk', os⟩) : wpAny (model pwC w) (callerA.deeper (envOfC (PySem.Str.ofString "law") lawSc L f cdv)) (execs lawEe (envOfC (PySem.Str.ofString "law") lawSc L f cdv)) Q E ⟨h, gens, drawn, toks, os⟩ := by
  have hfill : (PySem.Challenge.rw_yh0002_01 = PySem.Challenge.rw_yh0002_01) ∧ KF = KF := by k_fill; exact ⟨rfl, rfl⟩
  clear hfill
  unfold lawEe
  unfold lawSc at *
  dsimp only at hE ⊢
  have q1 : (f1W p).length ≤ 10 := by rw [f1_eq, sl_len]; show (1:Nat) ≤ 10; decide
  have q2 : (f2W p).length ≤ 10 := by rw [f2_eq, sl_len]; show (1:Nat) ≤ 10; decide
  have q3 : (f3W p r).length ≤ 10 := by rw [f3_eq p hr, sl_len]; exact Nat.le_trans f3_len (by decide)
  have q4 : (mkW p).length ≤ 1 := by rw [mkW_eq, sl_len]; exact Nat.le_refl 1
  have q4' : 1 ≤ (mkW p).length := by rw [mkW_eq, sl_len]; exact Nat.le_refl 1
  have q5 : (bhW p).length ≤ 50 := by rw [bhW_eq, sl_len]; exact Nat.le_trans bh_len (by decide)
  (repeat' (first | (k_unfold; (try dsimp only)) | (k_end; wrow_close) | (with_reducible ((with_reducible show wpAny _ _ (compareOp CmpOp.NotEq (Value.ref _) (Value.ref _)) _ _ _); k_dflt (refine' ne_strs2 ?zk19 ?zk29 ?zk39 ?zk59 ?zk69 ?zk49 ?_; (case zk19 => k_asm); (case zk29 => k_mem); (case zk39 => k_mem); (case zk59 => first | exact Kept.mk (if_pos (by assumption)).symm | exact Kept.mk (if_neg (by assumption)).symm); (case zk69 => exact Kept.mk rfl); (case zk49 => ktr_units)))) | (with_reducible ((with_reducible show wpAny _ _ (call (Value.ref _) _ _) _ _ _); refine Hold.out ?_)) | (with_reducible ((with_reducible show LCg.FinA _ _ _ _ _ _ _); (unfold LCg.FinA); intro D' h' tk' F' N' o1'; (refine nesSplit (off1K o1') ?_; dsimp only [NesArrow]; intros; (try (refine nesArrow_intro ?_; intro _))); clear o1'; (try simp only [List.nil_append, List.cons_append] at N'); (try dsimp only))) | (with_reducible ((with_reducible show LCg.FinE _ _ _ _ _ _ _); (unfold LCg.FinE); intro D' h' tk' F' N' o1'; (refine nesSplit (off1K o1') ?_; dsimp only [NesArrow]; intros; (try (refine nesArrow_intro ?_; intro _))); clear o1'; (try simp only [List.nil_append, List.cons_append] at N'); (try dsimp only))) | (with_reducible ((with_reducible show wpAny _ _ (exec (Stmt.For _ _ _ _ _) _) _ _ _); (rename Fr _ _ _ _ => lF'); (with_unfolding_all refine' For_turns lF' ?_ ?zhs99 ?zhE99; (case zhs99 => (intro _; rfl)); (case zhE99 => assumption); k_whole))) | (with_reducible ((with_reducible show wpAny _ _ (eval (PySem.Expr.Name _ _) _) _ _ _); k_dflt (refine' nameX_L ?zF9 ?zv9 ?_ ?za9 ?zb9; (case zF9 => k_asm); (case za9 => rfl); (case zb9 => rfl); (case zv9 => first | with_reducible assumption | ((try dsimp only); first | with_reducible assumption | (refine (if_neg (by decide)).trans ?_; with_reducible assumption) | (refine (if_neg (by decide)).trans ((if_neg (by decide)).trans ?_); with_reducible assumption) | (refine (if_neg (by decide)).trans ((if_neg (by decide)).trans ((if_neg (by decide)).trans ?_)); with_reducible assumption))); k_whole))) | walk1 | (dsimp only; walk1) | (leave1; walk_say "STEP leave1"; try dsimp only) | fail "no step"))
  refine Hold.mk ?_
  refine' cvUse (f_spoil w mean mg mb _ (mkW p) (bhW p) (f1W p) (f2W p) (f3W p r) _ t4 t5 t1 t2 t3 lf (fm6 _) q4 q4' q5 q1 q2 q3) ?B ?F ?X ?N ?T ?hk ?hy ?hd ?hu ?_
  case F => k_asm
  case T => k_asm
  case B => k_asm
  case X => k_asm
  case N => k_asm
  case hk => first | exact rfl | assumption
  case hd => ktr_room
  case hu => ktr_units
  case hy => (with_reducible rename News _ _ _ _ => kN'; exact isListOf kN' hmf)
  intro v' h' tk' F' N' k' p'; obtain ⟨tk9', p'⟩ := p'; subst p'
  (try dsimp only)
  (try k_fold)
  (repeat' (first | (k_unfold; (try dsimp only)) | (k_end; wrow_close) | (with_reducible ((with_reducible show wpAny _ _ (compareOp CmpOp.NotEq (Value.ref _) (Value.ref _)) _ _ _); k_dflt (refine' ne_strs2 ?zk19 ?zk29 ?zk39 ?zk59 ?zk69 ?zk49 ?_; (case zk19 => k_asm); (case zk29 => k_mem); (case zk39 => k_mem); (case zk59 => first | exact Kept.mk (if_pos (by assumption)).symm | exact Kept.mk (if_neg (by assumption)).symm); (case zk69 => exact Kept.mk rfl); (case zk49 => ktr_units)))) | (with_reducible ((with_reducible show wpAny _ _ (call (Value.ref _) _ _) _ _ _); refine Hold.out ?_)) | (with_reducible ((with_reducible show LCg.FinA _ _ _ _ _ _ _); (unfold LCg.FinA); intro D' h' tk' F' N' o1'; (refine nesSplit (off1K o1') ?_; dsimp only [NesArrow]; intros; (try (refine nesArrow_intro ?_; intro _))); clear o1'; (try simp only [List.nil_append, List.cons_append] at N'); (try dsimp only))) | (with_reducible ((with_reducible show LCg.FinE _ _ _ _ _ _ _); (unfold LCg.FinE); intro D' h' tk' F' N' o1'; (refine nesSplit (off1K o1') ?_; dsimp only [NesArrow]; intros; (try (refine nesArrow_intro ?_; intro _))); clear o1'; (try simp only [List.nil_append, List.cons_append] at N'); (try dsimp only))) | (with_reducible ((with_reducible show wpAny _ _ (exec (Stmt.For _ _ _ _ _) _) _ _ _); (rename Fr _ _ _ _ => lF'); (with_unfolding_all refine' For_turns lF' ?_ ?zhs99 ?zhE99; (case zhs99 => (intro _; rfl)); (case zhE99 => assumption); k_whole))) | (with_reducible ((with_reducible show wpAny _ _ (eval (PySem.Expr.Name _ _) _) _ _ _); k_dflt (refine' nameX_L ?zF9 ?zv9 ?_ ?za9 ?zb9; (case zF9 => k_asm); (case za9 => rfl); (case zb9 => rfl); (case zv9 => first | with_reducible assumption | ((try dsimp only); first | with_reducible assumption | (refine (if_neg (by decide)).trans ?_; with_reducible assumption) | (refine (if_neg (by decide)).trans ((if_neg (by decide)).trans ?_); with_reducible assumption) | (refine (if_neg (by decide)).trans ((if_neg (by decide)).trans ((if_neg (by decide)).trans ?_)); with_reducible assumption))); k_whole))) | walk1 | (dsimp only; walk1) | (leave1; walk_say "STEP leave1"; try dsimp only) | fail "no step"))
  refine Hold.mk ?_
  refine' cvtUse (ref_all w mean mg mb p r hr _ (fm6 _) _ _) ?B ?F ?X ?N ?T ?hk ?hy ?hd ?hu ?_
  case F => k_asm
  case T => k_asm
  case B => k_asm
  case X => k_asm
  case N => k_asm
  case hk => first | exact rfl | assumption
  case hy => trivial
  case hd => ktr_room
  case hu => ktr_units
  intro D' o' h' tk' F' N' p'; obtain ⟨t7', t8', p'⟩ := p'; subst p'
  (try dsimp only)
  (try k_fold)
  (repeat' (first | (k_unfold; (try dsimp only)) | (k_end; wrow_close) | (with_reducible ((with_reducible show wpAny _ _ (compareOp CmpOp.NotEq (Value.ref _) (Value.ref _)) _ _ _); k_dflt (refine' ne_strs2 ?zk19 ?zk29 ?zk39 ?zk59 ?zk69 ?zk49 ?_; (case zk19 => k_asm); (case zk29 => k_mem); (case zk39 => k_mem); (case zk59 => first | exact Kept.mk (if_pos (by assumption)).symm | exact Kept.mk (if_neg (by assumption)).symm); (case zk69 => exact Kept.mk rfl); (case zk49 => ktr_units)))) | (with_reducible ((with_reducible show wpAny _ _ (call (Value.ref _) _ _) _ _ _); refine Hold.out ?_)) | (with_reducible ((with_reducible show LCg.FinA _ _ _ _ _ _ _); (unfold LCg.FinA); intro D' h' tk' F' N' o1'; (refine nesSplit (off1K o1') ?_; dsimp only [NesArrow]; intros; (try (refine nesArrow_intro ?_; intro _))); clear o1'; (try simp only [List.nil_append, List.cons_append] at N'); (try dsimp only))) | (with_reducible ((with_reducible show LCg.FinE _ _ _ _ _ _ _); (unfold LCg.FinE); intro D' h' tk' F' N' o1'; (refine nesSplit (off1K o1') ?_; dsimp only [NesArrow]; intros; (try (refine nesArrow_intro ?_; intro _))); clear o1'; (try simp only [List.nil_append, List.cons_append] at N'); (try dsimp only))) | (with_reducible ((with_reducible show wpAny _ _ (exec (Stmt.For _ _ _ _ _) _) _ _ _); (rename Fr _ _ _ _ => lF'); (with_unfolding_all refine' For_turns lF' ?_ ?zhs99 ?zhE99; (case zhs99 => (intro _; rfl)); (case zhE99 => assumption); k_whole))) | (with_reducible ((with_reducible show wpAny _ _ (eval (PySem.Expr.Name _ _) _) _ _ _); k_dflt (refine' nameX_L ?zF9 ?zv9 ?_ ?za9 ?zb9; (case zF9 => k_asm); (case za9 => rfl); (case zb9 => rfl); (case zv9 => first | with_reducible assumption | ((try dsimp only); first | with_reducible assumption | (refine (if_neg (by decide)).trans ?_; with_reducible assumption) | (refine (if_neg (by decide)).trans ((if_neg (by decide)).trans ?_); with_reducible assumption) | (refine (if_neg (by decide)).trans ((if_neg (by decide)).trans ((if_neg (by decide)).trans ?_)); with_reducible assumption))); k_whole))) | walk1 | (dsimp only; walk1) | (leave1; walk_say "STEP leave1"; try dsimp only) | fail "no step"))
  all_goals dsimp only
  all_goals (refine' use _ _ _ ?ua ?ub (newsDrop3 ?uc); (case ua => assumption); (case ub => (intro y h1 h2; (try dsimp only); exact (if_neg h2).trans (if_neg h1))); (case uc => assumption))
end
end
-- KLE0
noncomputable section
open PySem PySem.W PyProof.Rows PySem.Calls PySem.Spec
set_option Elab.async false
set_option maxRecDepth 100000
set_option maxHeartbeats 8000000
set_option linter.unusedVariables false
theorem ex_app_sem (xs ys : List Stmt) (env : Env) : execs (xs ++ ys) env = (execs xs env).bind (fun f => match f with | .next => execs ys env | f => Sem.pure f) := by
  induction xs with
  | nil => rfl
  | cons a xs ih =>
    rw [List.cons_append, execs_cons, execs_cons]
    show (exec a env).bind _ = ((exec a env).bind _).bind _
    rw [Sem.bind_assoc]
    congr 1
    funext f
    cases f with
    | next => exact ih
    | _ => rfl
section
variable {M : Model} {A : Around} {E : Value → Shared → Prop} {s : Shared} {env : Env}
theorem ex_app {xs ys : List Stmt} {Q : Flow → Shared → Prop} (h : wpAny M A (execs xs env) (fun f s' => match f with | .next => wpAny M A (execs ys env) Q E s' | f => Q f s') E s) : wpAny M A (execs (xs ++ ys) env) Q E s := fun Γ p hΓ => by
  rw [ex_app_sem]
  show Sem.wp M Γ ((execs xs env) >>= fun f => match f with | .next => execs ys env | f => Sem.pure f) _ _ p s
  rw [Sem.wp_bind']
  refine Sem.wp_mono M Γ _ (fun f p' s' h' => ?_) (fun _ _ _ h' => h') _ _ (h Γ p hΓ)
  cases f <;> first | exact h' Γ p' hΓ | exact h'
end
theorem fm_nat (p : Int) (n : Nat) (hn : 0 < n) : ∃ k : Nat, k < n ∧ p.fmod (n : Int) = (k : Int) := by
  have h1 : 0 ≤ p.fmod (n : Int) := Int.fmod_nonneg_of_pos _ (by omega)
  have h2 : p.fmod (n : Int) < (n : Int) := Int.fmod_lt_of_pos _ (by omega)
  exact ⟨(p.fmod (n : Int)).toNat, by omega, by omega⟩
noncomputable def sgOk (x t : Int) : Bool := decide (0 ≤ x) && decide (x ≤ 1114111) && tbl (heldN x.toNat) == t
theorem sgOk_of {x t : Int} (h : sgOk x t = true) : (0 ≤ x ∧ x ≤ 1114111) ∧ tbl (heldN x.toNat) = t := by
  unfold sgOk at h
  simp only [Bool.and_eq_true, decide_eq_true_eq, beq_iff_eq] at h
  exact h
theorem sg0a : ∀ k < 32, sgOk (64976 + ((k : Nat) : Int)) 0 = true := by decide +kernel
theorem sg0b : ∀ q < 17, ∀ r < 3, r ≠ 0 → sgOk (65536 * ((q : Nat) : Int) + 65533 + ((r : Nat) : Int)) 0 = true := by decide +kernel
theorem sg1 : ∀ k < 5, sgOk (65529 + ((k : Nat) : Int)) 1 = true := by decide +kernel
theorem sg2 : ∀ k < 12, sgOk (12272 + ((k : Nat) : Int)) 2 = true := by decide +kernel
theorem sg3 : ∀ k < 15, sgOk (c8l.getD k 0) 3 = true := by decide +kernel
theorem sg4 : ∀ k < 97, sgOk (if ((k : Nat) : Int) = 96 then 917505 else 917536 + ((k : Nat) : Int)) 4 = true := by decide +kernel
theorem tbl_sgn (t p : Int) (h0 : 0 ≤ t) (h4 : t ≤ 4) : (0 ≤ sgn t p ∧ sgn t p ≤ 1114111) ∧ tbl (heldN (sgn t p).toNat) = t := by
  apply sgOk_of
  have ht : t = 0 ∨ t = 1 ∨ t = 2 ∨ t = 3 ∨ t = 4 := by omega
  rcases ht with rfl | rfl | rfl | rfl | rfl
  · obtain ⟨r, hr, er⟩ := fm_nat p 3 (by decide)
    obtain ⟨q, hq, eq⟩ := fm_nat (p.fdiv 3) 17 (by decide)
    obtain ⟨k, hk, ek⟩ := fm_nat (p.fdiv 3) 32 (by decide)
    have er' : p.fmod 3 = (r : Int) := er
    have eq' : (p.fdiv 3).fmod 17 = (q : Int) := eq
    have ek' : (p.fdiv 3).fmod 32 = (k : Int) := ek
    unfold sgn
    by_cases h : r = 0
    · rw [if_pos ⟨rfl, by rw [er', h]; rfl⟩, ek']; exact sg0a k hk
    · rw [if_neg (fun hh => h (by have := hh.2; rw [er'] at this; omega)), if_pos rfl, er', eq']; exact sg0b q hq r hr h
  · obtain ⟨k, hk, ek⟩ := fm_nat p 5 (by decide)
    have ek' : p.fmod 5 = (k : Int) := ek
    unfold sgn
    rw [if_neg (fun hh => absurd hh.1 (by decide)), if_neg (by decide), if_pos rfl, ek']; exact sg1 k hk
  · obtain ⟨k, hk, ek⟩ := fm_nat p 12 (by decide)
    have ek' : p.fmod 12 = (k : Int) := ek
    unfold sgn
    rw [if_neg (fun hh => absurd hh.1 (by decide)), if_neg (by decide), if_neg (by decide), if_pos rfl, ek']; exact sg2 k hk
  · obtain ⟨k, hk, ek⟩ := fm_nat p 15 (by decide)
    have ek' : p.fmod 15 = (k : Int) := ek
    unfold sgn
    rw [if_neg (fun hh => absurd hh.1 (by decide)), if_neg (by decide), if_neg (by decide), if_neg (by decide), if_pos rfl, ek']; exact sg3 k hk
  · obtain ⟨k, hk, ek⟩ := fm_nat p 97 (by decide)
    have ek' : p.fmod 97 = (k : Int) := ek
    unfold sgn
    rw [if_neg (fun hh => absurd hh.1 (by decide)), if_neg (by decide), if_neg (by decide), if_neg (by decide), if_neg (by decide), ek']
    have := sg4 k hk
    by_cases h : (k : Int) = 96
    · rw [if_pos h] at this ⊢; exact this
    · rw [if_neg h] at this ⊢; exact this
/-! the labels -/
noncomputable def labF (cs : List Int) (k : Nat) : PySem.Str := labW (figV cs k) (prtV cs k)
noncomputable def tabF (cs : List Int) (k : Nat) : Int := (figV cs k).fdiv 7
theorem figV_bd (cs : List Int) (k : Nat) : 0 ≤ figV cs k ∧ figV cs k < 35 := ⟨Int.fmod_nonneg_of_pos _ (by decide), Int.fmod_lt_of_pos _ (by decide)⟩
theorem labF_len (cs : List Int) (k : Nat) : 1 ≤ (labF cs k).length ∧ (labF cs k).length ≤ 3 := by
  unfold labF labW
  have h := stems_len ((figV cs k).fmod 7).toNat
  have e : ∀ (a : PySem.Str) (n : Nat), (a ++ (⟨#[n]⟩ : PySem.Str)).length = a.length + 1 := fun a n => by
    show (a.cps ++ #[n]).size = a.cps.size + 1
    simp
  rw [e]; omega
theorem labF_last (cs : List Int) (k : Nat) : Txt.item (labF cs k) (-1) = ⟨#[(sgn (tabF cs k) (prtV cs k)).toNat]⟩ := by
  unfold labF labW tabF
  generalize stems.getD ((figV cs k).fmod 7).toNat Str.empty = a
  generalize (sgn ((figV cs k).fdiv 7) (prtV cs k)).toNat = n
  unfold Txt.item
  have h : Txt.charAt (a ++ (⟨#[n]⟩ : PySem.Str)) (-1) = some n := by
    unfold Txt.charAt
    have e : (a ++ (⟨#[n]⟩ : PySem.Str)).cps = a.cps ++ #[n] := rfl
    have e2 : (a ++ (⟨#[n]⟩ : PySem.Str)).length = a.cps.size + 1 := by show (a.cps ++ #[n]).size = _; simp
    have e3 : seqIndex? (-1) (a.cps.size + 1) = some a.cps.size := by
      unfold seqIndex?; simp; omega
    rw [e2, e3, e]; simp
  rw [h]; rfl
end
-- KLE1
noncomputable section
open PySem PySem.W PyProof.Rows PySem.Calls PySem.Spec
set_option Elab.async false
set_option maxRecDepth 100000
set_option maxHeartbeats 8000000
set_option linter.unusedVariables false
open LCg LCt
theorem law_E1 (w : World) (mean : ExcName → Option Value) (mg mb : PySem.Str → Option Value) {g h : Heap} {L f : Addr} {cdv : Value} {m : PySem.Str → Option Value} {gens : Array GenState} {drawn : Drawn} {toks : Nat} {os : OsState} {Q : Flow → Shared → Prop} {E : Value → Shared → Prop} {I ltb lle lla lco lr l : Addr} {oI : Obj} {o1 : Obj} {o2 : Obj} {o3 : Obj} {o4 : Obj} {o5 : Obj} {o6 : Obj} {o7 : Obj} {o8 : Obj} {o9 : Obj} {o10 : Obj} {cvs rvs : List Value} {cs rd : List Int} {tabA ledA labA codA : Array Value} {n1 n2 n3 n4 : Nat} {inn : List (Addr × Obj)} {i : Nat} {ti : Tok}
   (B : Below callerA g [] g) (X : (KF w.params).In g) (T : Top vw LW mean mg mb g) (F : Fr g L h m) (N : News g L h ((I, oI) :: (ltb, W.listOf tabA n1) :: (lle, W.listOf ledA n2) :: (lla, W.listOf labA n3) :: (lco, W.listOf codA n4) :: (lr, lst rvs) :: (l, W.listOf cvs.toArray 0) :: (L + 1 + 1 + 1 + 1 + 1 + 1 + 1 + 1 + 1 + 1, o10) :: (L + 1 + 1 + 1 + 1 + 1 + 1 + 1 + 1 + 1, o9) :: (L + 1 + 1 + 1 + 1 + 1 + 1 + 1 + 1, o8) :: (L + 1 + 1 + 1 + 1 + 1 + 1 + 1, o7) :: (L + 1 + 1 + 1 + 1 + 1 + 1, o6) :: (L + 1 + 1 + 1 + 1 + 1, o5) :: (L + 1 + 1 + 1 + 1, o4) :: (L + 1 + 1 + 1, o3) :: (L + 1 + 1, o2) :: (L + 1, o1) :: inn))
   (d1 : o1.data = .cell (some (.ref l))) (d2 : o2.data = .cell (some (.int (i : Int) ti))) (d3 : o3.data = .cell (some (.ref lr))) (d5 : o5.data = .cell (some (.ref lco))) (d6 : o6.data = .cell (some (.ref lle))) (d7 : o7.data = .cell (some (.ref ltb)))
   (hI : IntsAre cvs cs) (hlen : cs.length = 3) (hR : IntsAre rvs rd) (hRl : rd.length = 8) (hRb : ∀ v ∈ rd, 0 ≤ v ∧ v < 4) (hi : i < 8) (hls : m (PySem.Str.ofString "labels") = some (.ref lla))
   (hs1 : tabA.size = i) (hs2 : ledA.size = i) (hs3 : labA.size = i) (hs4 : codA.size = i) (hT : IntsAre tabA.toList ((List.range i).map (tabF cs)))
   (hx1 : ∀ p ∈ (lr, lst rvs) :: (l, W.listOf cvs.toArray 0) :: (L + 1 + 1 + 1 + 1 + 1 + 1 + 1 + 1 + 1 + 1, o10) :: (L + 1 + 1 + 1 + 1 + 1 + 1 + 1 + 1 + 1, o9) :: (L + 1 + 1 + 1 + 1 + 1 + 1 + 1 + 1, o8) :: (L + 1 + 1 + 1 + 1 + 1 + 1 + 1, o7) :: (L + 1 + 1 + 1 + 1 + 1 + 1, o6) :: (L + 1 + 1 + 1 + 1 + 1, o5) :: (L + 1 + 1 + 1 + 1, o4) :: (L + 1 + 1 + 1, o3) :: (L + 1 + 1, o2) :: (L + 1, o1) :: inn, p.1 ≠ ltb) (hx2 : ∀ p ∈ (lr, lst rvs) :: (l, W.listOf cvs.toArray 0) :: (L + 1 + 1 + 1 + 1 + 1 + 1 + 1 + 1 + 1 + 1, o10) :: (L + 1 + 1 + 1 + 1 + 1 + 1 + 1 + 1 + 1, o9) :: (L + 1 + 1 + 1 + 1 + 1 + 1 + 1 + 1, o8) :: (L + 1 + 1 + 1 + 1 + 1 + 1 + 1, o7) :: (L + 1 + 1 + 1 + 1 + 1 + 1, o6) :: (L + 1 + 1 + 1 + 1 + 1, o5) :: (L + 1 + 1 + 1 + 1, o4) :: (L + 1 + 1 + 1, o3) :: (L + 1 + 1, o2) :: (L + 1, o1) :: inn, p.1 ≠ lle) (hx3 : ∀ p ∈ (lr, lst rvs) :: (l, W.listOf cvs.toArray 0) :: (L + 1 + 1 + 1 + 1 + 1 + 1 + 1 + 1 + 1 + 1, o10) :: (L + 1 + 1 + 1 + 1 + 1 + 1 + 1 + 1 + 1, o9) :: (L + 1 + 1 + 1 + 1 + 1 + 1 + 1 + 1, o8) :: (L + 1 + 1 + 1 + 1 + 1 + 1 + 1, o7) :: (L + 1 + 1 + 1 + 1 + 1 + 1, o6) :: (L + 1 + 1 + 1 + 1 + 1, o5) :: (L + 1 + 1 + 1 + 1, o4) :: (L + 1 + 1 + 1, o3) :: (L + 1 + 1, o2) :: (L + 1, o1) :: inn, p.1 ≠ lla) (hx4 : ∀ p ∈ (lr, lst rvs) :: (l, W.listOf cvs.toArray 0) :: (L + 1 + 1 + 1 + 1 + 1 + 1 + 1 + 1 + 1 + 1, o10) :: (L + 1 + 1 + 1 + 1 + 1 + 1 + 1 + 1 + 1, o9) :: (L + 1 + 1 + 1 + 1 + 1 + 1 + 1 + 1, o8) :: (L + 1 + 1 + 1 + 1 + 1 + 1 + 1, o7) :: (L + 1 + 1 + 1 + 1 + 1 + 1, o6) :: (L + 1 + 1 + 1 + 1 + 1, o5) :: (L + 1 + 1 + 1 + 1, o4) :: (L + 1 + 1 + 1, o3) :: (L + 1 + 1, o2) :: (L + 1, o1) :: inn, p.1 ≠ lco) (hq1 : @LT.lt Nat _ lco lla) (hq2 : @LT.lt Nat _ lla lle) (hq3 : @LT.lt Nat _ lle ltb) (hi1 : NeK ltb I) (hi2 : NeK lle I) (hi3 : NeK lla I) (hi4 : NeK lco I)
   (hE : PassesOwn (model pwC w) (callerA.deeper (envOfC (PySem.Str.ofString "law") lawSc L f cdv)) (envOfC (PySem.Str.ofString "law") lawSc L f cdv) E)
   (use : ∀ (h' : Heap) (tk' : Nat) (m' : PySem.Str → Option Value) (lc : Addr) (ys : List Value) (tb tc t6 : Tok), Fr g L h' m' → m' (PySem.Str.ofString "right") = m (PySem.Str.ofString "right") → m' (PySem.Str.ofString "labels") = m (PySem.Str.ofString "labels") → News g L h' ((I, oI) :: (ltb, W.listOf (tabA.push (.int (tabF cs i) tb)) (n1 + 1)) :: (lle, W.listOf (ledA.push (.int (rd.getD i 0) tc)) (n2 + 1)) :: (lla, W.listOf (labA.push (.str (labF cs i) t6)) (n3 + 1)) :: (lco, W.listOf (codA.push (.ref lc)) (n4 + 1)) :: (lr, lst rvs) :: (l, W.listOf cvs.toArray 0) :: (L + 1 + 1 + 1 + 1 + 1 + 1 + 1 + 1 + 1 + 1, o10) :: (L + 1 + 1 + 1 + 1 + 1 + 1 + 1 + 1 + 1, o9) :: (L + 1 + 1 + 1 + 1 + 1 + 1 + 1 + 1, o8) :: (L + 1 + 1 + 1 + 1 + 1 + 1 + 1, o7) :: (L + 1 + 1 + 1 + 1 + 1 + 1, o6) :: (L + 1 + 1 + 1 + 1 + 1, o5) :: (L + 1 + 1 + 1 + 1, o4) :: (L + 1 + 1 + 1, o3) :: (L + 1 + 1, o2) :: (L + 1, o1) :: inn) → News g L h' [(lc, lst ys)] → IntsAre ys (codesOf (labF cs i)) → NeK I lc → NeK ltb lc → NeK lle lc → NeK lla lc → NeK lco lc → NesK lc ((lr, lst rvs) :: (l, W.listOf cvs.toArray 0) :: (L + 1 + 1 + 1 + 1 + 1 + 1 + 1 + 1 + 1 + 1, o10) :: (L + 1 + 1 + 1 + 1 + 1 + 1 + 1 + 1 + 1, o9) :: (L + 1 + 1 + 1 + 1 + 1 + 1 + 1 + 1, o8) :: (L + 1 + 1 + 1 + 1 + 1 + 1 + 1, o7) :: (L + 1 + 1 + 1 + 1 + 1 + 1, o6) :: (L + 1 + 1 + 1 + 1 + 1, o5) :: (L + 1 + 1 + 1 + 1, o4) :: (L + 1 + 1 + 1, o3) :: (L + 1 + 1, o2) :: (L + 1, o1) :: inn) → Q .next ⟨h', gens, drawn, tk', os⟩) : wpAny (model pwC w) (callerA.deeper (envOfC (PySem.Str.ofString "law") lawSc L f cdv)) (execs (forB lawE) (envOfC (PySem.Str.ofString "law") lawSc L f cdv)) Q E ⟨h, gens, drawn, toks, os⟩ := by
  have hrr : 0 ≤ rd.getD ((i : Int)).toNat 0 ∧ rd.getD ((i : Int)).toNat 0 < 4 := by
    have hlt : i < rd.length := by omega
    have e : rd.getD ((i : Int)).toNat 0 = rd[i] := by simp [List.getD_eq_getElem?_getD, hlt]
    rw [e]; exact hRb _ (List.getElem_mem hlt)
  rw [lawE_parts]
  refine ex_app ?_
  refine law_Ea w mean mg mb B X T F N (by repeat (first | exact List.Mem.head _ | apply List.Mem.tail)) (by repeat (first | exact List.Mem.head _ | apply List.Mem.tail)) (by repeat (first | exact List.Mem.head _ | apply List.Mem.tail)) d1 d2 hI hlen hi hE ?_
  intro h₁ tk₁ m₁ t1 t2 t3 F₁ e1 e2 e3 em₁ N₁
  dsimp only
  refine ex_app ?_
  refine law_Eb w mean mg mb B X T F₁ N₁ (by repeat (first | exact List.Mem.head _ | apply List.Mem.tail)) (by repeat (first | exact List.Mem.head _ | apply List.Mem.tail)) (by repeat (first | exact List.Mem.head _ | apply List.Mem.tail)) d2 d3 hR hRl hRb hi e1 hE ?_
  intro h₂ tk₂ m₂ lf u1 u2 u3 u4 u5 F₂ f1 f2 f3 em₂ N₂ A₂
  dsimp only
  have hq4 : @LT.lt Nat _ ltb lf := A₂.2.1
  have hq5 : @LT.lt Nat _ I lf := A₂.1
  refine ex_app ?_
  have hlb₂ : m₂ (PySem.Str.ofString "label") = some (.str (labF cs i) t3) := (em₂ _ (by decide) (by decide) (by decide) (by decide)).trans e3
  have hls₂ : m₂ (PySem.Str.ofString "labels") = some (.ref lla) := ((em₂ _ (by decide) (by decide) (by decide) (by decide)).trans (em₁ _ (by decide) (by decide) (by decide))).trans hls
  refine law_Ec w mean mg mb B X T F₂ N₂ (by repeat (first | exact List.Mem.head _ | apply List.Mem.tail)) (by repeat (first | exact List.Mem.head _ | apply List.Mem.tail)) (by repeat (first | exact List.Mem.head _ | apply List.Mem.tail)) d5 d6 d7 f1 f2 f3 hlb₂ hls₂ hrr (labF_last cs i) (labF_len cs i) (by omega) (by omega) (by omega) (by omega) hx1 hx2 hx3 hx4 hq1 hq2 hq3 hq4 hq5 hi1 hi2 hi3 hi4 hE ?_
  intro h₃ tk₃ m₃ D lc ys ta tb tc F₃ g1 em₃ N₃ hys k1 k2 k3 k4 k5 k6
  dsimp only
  have htb : tbl (heldOf w (sgn (tabF cs i) (prtV cs i)).toNat) = tabF cs i := by
    rw [heldOf_eq]; exact (tbl_sgn _ _ (fd7 _).1 (fd7 _).2).2
  rw [htb] at N₃
  refine ex_app ?_
  have eA : ∀ v, tabA.push v = (tabA.toList ++ [v]).toArray := fun v => by apply Array.ext'; rw [Array.toList_push]
  have hTl : tabA.toList.length = i := by rw [Array.length_toList]; exact hs1
  have N₃' := N₃
  rw [eA] at N₃'
  have hfg₃ : m₃ (PySem.Str.ofString "figure") = some (.int (figV cs i) t2) := ((em₃ _ (by decide)).trans (em₂ _ (by decide) (by decide) (by decide) (by decide))).trans e2
  have hlb₃ : m₃ (PySem.Str.ofString "label") = some (.str (labF cs i) t3) := (em₃ _ (by decide)).trans hlb₂
  refine law_Ed w mean mg mb (nx := _) (D := D) (lr := lr) (ltb := ltb) (r := rd.getD ((i : Int)).toNat 0) (tabs := (List.range i).map (tabF cs) ++ [tabF cs i]) B X T F₃ N₃' (by repeat (first | exact List.Mem.head _ | apply List.Mem.tail)) (by repeat (first | exact List.Mem.head _ | apply List.Mem.tail)) (by repeat (first | exact List.Mem.head _ | apply List.Mem.tail)) (by repeat (first | exact List.Mem.head _ | apply List.Mem.tail)) (by repeat (first | exact List.Mem.head _ | apply List.Mem.tail)) (by repeat (first | exact List.Mem.head _ | apply List.Mem.tail)) d2 d3 d7 hR hRl rfl hi (IntsAre.append hT (.cons _ _ .nil)) (by simp) (by simp [List.getD_eq_getElem?_getD]; rfl) g1 hlb₃ hfg₃ (labF_len cs i) hE ?_
  intro h₄ tk₄ F₄ N₄
  dsimp only
  refine law_Ee w mean mg mb B X T F₄ N₄ (by repeat (first | exact List.Mem.head _ | apply List.Mem.tail)) (by repeat (first | exact List.Mem.head _ | apply List.Mem.tail)) (by repeat (first | exact List.Mem.head _ | apply List.Mem.tail)) (by repeat (first | exact List.Mem.head _ | apply List.Mem.tail)) d1 d2 hI hlen hi ((em₃ _ (by decide)).trans f1) ((em₃ _ (by decide)).trans f2) ((em₃ _ (by decide)).trans f3) hlb₃ hrr hE ?_
  intro h₅ tk₅ m₅ F₅ em₅ N₅
  have hgd : rd.getD ((i : Int)).toNat 0 = rd.getD i 0 := rfl
  refine use _ _ _ lc ys tb tc t3 F₅ ?_ ?_ ?_ ?_ hys k1 k2 k3 k4 k5 k6
  · exact (em₅ _ (by decide) (by decide)).trans ((em₃ _ (by decide)).trans ((em₂ _ (by decide) (by decide) (by decide) (by decide)).trans (em₁ _ (by decide) (by decide) (by decide))))
  · exact (em₅ _ (by decide) (by decide)).trans ((em₃ _ (by decide)).trans ((em₂ _ (by decide) (by decide) (by decide) (by decide)).trans (em₁ _ (by decide) (by decide) (by decide))))
  · rw [eA]
    exact newsSub N₅ (fun p hp => .tail _ (.tail _ (.tail _ hp)))
  · exact newsSub N₅ (fun p hp => by
      rw [List.mem_singleton.mp hp]; exact .tail _ (.head _))
end
-- KLE
noncomputable section
open PySem PySem.W PyProof.Rows PySem.Calls PySem.Spec
set_option Elab.async false
set_option maxRecDepth 100000
set_option maxHeartbeats 8000000
set_option linter.unusedVariables false
open LCg LCt
structure CodesAt (inn : List (Addr × Obj)) (vs : List Value) (ns : List (List Int)) : Prop where
  len : vs.length = ns.length
  items : ∀ j, j < vs.length → ∃ a ys, vs[j]? = some (.ref a) ∧ (a, lst ys) ∈ inn ∧ IntsAre ys (ns.getD j [])
theorem CodesAt.nil {inn : List (Addr × Obj)} : CodesAt inn [] [] := ⟨rfl, fun j h => absurd h (Nat.not_lt_zero _)⟩
theorem CodesAt.snoc {inn : List (Addr × Obj)} {vs : List Value} {ns : List (List Int)} {a : Addr} {ys : List Value} {zs : List Int} (h : CodesAt inn vs ns) (hy : IntsAre ys zs) : CodesAt ((a, lst ys) :: inn) (vs ++ [.ref a]) (ns ++ [zs]) := by
  refine ⟨by simp [h.len], fun j hj => ?_⟩
  rw [List.length_append, List.length_singleton] at hj
  rcases Nat.lt_or_ge j vs.length with h1 | h1
  · obtain ⟨b, ws, e1, e2, e3⟩ := h.items j h1
    refine ⟨b, ws, ?_, List.mem_cons_of_mem _ e2, ?_⟩
    · rw [List.getElem?_append_left h1]; exact e1
    · rw [List.getD_eq_getElem?_getD, List.getElem?_append_left (h.len ▸ h1), ← List.getD_eq_getElem?_getD]; exact e3
  · have h2 : j = vs.length := by omega
    subst h2
    refine ⟨a, ys, ?_, List.mem_cons_self .., ?_⟩
    · rw [List.getElem?_append_right (Nat.le_refl _)]; simp
    · rw [List.getD_eq_getElem?_getD, List.getElem?_append_right (Nat.le_of_eq h.len.symm), h.len, Nat.sub_self]; exact hy
theorem ints_snoc {vs : Array Value} {i : Nat} {f : Nat → Int} {t : Tok} (h : IntsAre vs.toList ((List.range i).map f)) : IntsAre (vs.push (.int (f i) t)).toList ((List.range (i + 1)).map f) := by
  rw [Array.toList_push, List.range_succ, List.map_append]
  exact IntsAre.append h (.cons _ _ .nil)
theorem strs_snoc {vs : Array Value} {i : Nat} {f : Nat → PySem.Str} {t : Tok} (h : StrsAre vs.toList ((List.range i).map f)) : StrsAre (vs.push (.str (f i) t)).toList ((List.range (i + 1)).map f) := by
  rw [Array.toList_push, List.range_succ, List.map_append]
  exact StrsAre.append' h (.cons _ _ .nil)
noncomputable def codF (cs : List Int) (k : Nat) : List Int := codesOf (labF cs k)
theorem codes_snoc {inn : List (Addr × Obj)} {vs : Array Value} {i : Nat} {f : Nat → List Int} {a : Addr} {ys : List Value} (h : CodesAt inn vs.toList ((List.range i).map f)) (hy : IntsAre ys (f i)) : CodesAt ((a, lst ys) :: inn) (vs.push (.ref a)).toList ((List.range (i + 1)).map f) := by
  rw [Array.toList_push, List.range_succ, List.map_append]
  exact h.snoc hy
theorem dstAt : ∀ {l : List Nat}, Dst l → ∀ {i j : Nat} {a b : Nat}, l[i]? = some a → l[j]? = some b → i < j → @Ne Nat a b
  | [], _, i, _, _, _, h, _, _ => by simp at h
  | x :: r, hD, i, j, a, b, h1, h2, hij => by
    rcases j with _ | j
    · omega
    · have h2' : r[j]? = some b := by simpa using h2
      rcases i with _ | i
      · have h1' : x = a := by simpa using h1
        subst h1'
        have key : ∀ {r : List Nat} {j : Nat}, NeAll x r → r[j]? = some b → @Ne Nat x b := by
          intro r
          induction r with
          | nil => intro j _ h; simp at h
          | cons y r ih =>
            intro j hn h
            rcases j with _ | j
            · have : y = b := by simpa using h
              exact this ▸ hn.1
            · exact ih hn.2 (by simpa using h)
        exact key hD.1 h2'
      · exact dstAt hD.2 (by simpa using h1) h2' (by omega)
theorem offOf {l inn : List (Addr × Obj)} {a : Nat} (h : NeAll a (l.map (·.1))) (hi : ∀ p ∈ inn, @Ne Nat p.1 a) : ∀ p ∈ l ++ inn, p.1 ≠ a := fun p hp => by
  rcases List.mem_append.mp hp with hp | hp
  · clear hi
    induction l with
    | nil => simp at hp
    | cons q l ih =>
      rcases List.mem_cons.mp hp with rfl | hp
      · exact Ne.symm h.1
      · exact ih h.2 (List.mem_append_left _ hp) hp
  · exact hi p hp
theorem newsIns {h₀ h : Heap} {L : Addr} {l inn : List (Addr × Obj)} {x : Addr × Obj} (N : News h₀ L h (l ++ inn)) (N' : News h₀ L h [x]) : News h₀ L h (l ++ x :: inn) := fun p hp => by
  rcases List.mem_append.mp hp with hp | hp
  · exact N p (List.mem_append_left _ hp)
  · rcases List.mem_cons.mp hp with rfl | hp
    · exact N' _ (List.mem_singleton.mpr rfl)
    · exact N p (List.mem_append_right _ hp)
theorem neIns {l l' inn : List (Addr × Obj)} {x : Addr × Obj} {I : Addr} (h : ∀ p ∈ l ++ inn, p.1 ≠ I) (e : l'.map (·.1) = l.map (·.1)) (hx : x.1 ≠ I) : ∀ p ∈ l' ++ x :: inn, p.1 ≠ I := fun p hp => by
  rcases List.mem_append.mp hp with hp | hp
  · have h1 : p.1 ∈ l.map (·.1) := e ▸ List.mem_map_of_mem hp
    obtain ⟨q, hq, eq⟩ := List.mem_map.mp h1
    exact eq ▸ h q (List.mem_append_left _ hq)
  · rcases List.mem_cons.mp hp with rfl | hp
    · exact hx
    · exact h p (List.mem_append_right _ hp)
section
theorem law_E (w : World) (mean : ExcName → Option Value) (mg mb : PySem.Str → Option Value) {g h : Heap} {L f : Addr} {cdv : Value} {m : PySem.Str → Option Value} {gens : Array GenState} {drawn : Drawn} {toks : Nat} {os : OsState} {Q : Flow → Shared → Prop} {E : Value → Shared → Prop} {ltb lle lla lco lr l : Addr} {o1 : Obj} {o2 : Obj} {o3 : Obj} {o4 : Obj} {o5 : Obj} {o6 : Obj} {o7 : Obj} {o8 : Obj} {o9 : Obj} {o10 : Obj} {cvs rvs : List Value} {cs rd : List Int} {kv : Option Value}
   (B : Below callerA g [] g) (X : (KF w.params).In g) (T : Top vw LW mean mg mb g) (F : Fr g L h m) (N : News g L h ((ltb, W.listOf #[] 0) :: (lle, W.listOf #[] 0) :: (lla, W.listOf #[] 0) :: (lco, W.listOf #[] 0) :: (lr, lst rvs) :: (l, W.listOf cvs.toArray 0) :: (L + 1 + 1 + 1 + 1 + 1 + 1 + 1 + 1 + 1 + 1, o10) :: (L + 1 + 1 + 1 + 1 + 1 + 1 + 1 + 1 + 1, o9) :: (L + 1 + 1 + 1 + 1 + 1 + 1 + 1 + 1, o8) :: (L + 1 + 1 + 1 + 1 + 1 + 1 + 1, o7) :: (L + 1 + 1 + 1 + 1 + 1 + 1, o6) :: (L + 1 + 1 + 1 + 1 + 1, o5) :: (L + 1 + 1 + 1 + 1, o4) :: (L + 1 + 1 + 1, o3) :: (L + 1 + 1, o2) :: (L + 1, o1) :: [])) (d1 : o1.data = .cell (some (.ref l))) (d2 : o2.data = .cell kv) (d3 : o3.data = .cell (some (.ref lr))) (d5 : o5.data = .cell (some (.ref lco))) (d6 : o6.data = .cell (some (.ref lle))) (d7 : o7.data = .cell (some (.ref ltb)))
   (hI : IntsAre cvs cs) (hlen : cs.length = 3) (hR : IntsAre rvs rd) (hRl : rd.length = 8) (hRb : ∀ v ∈ rd, 0 ≤ v ∧ v < 4) (hrt : m (PySem.Str.ofString "right") = some (.bool true)) (hls : m (PySem.Str.ofString "labels") = some (.ref lla)) (hD : Dst [ltb, lle, lla, lco, lr, l, L + 1 + 1 + 1 + 1 + 1 + 1 + 1 + 1 + 1 + 1, L + 1 + 1 + 1 + 1 + 1 + 1 + 1 + 1 + 1, L + 1 + 1 + 1 + 1 + 1 + 1 + 1 + 1, L + 1 + 1 + 1 + 1 + 1 + 1 + 1, L + 1 + 1 + 1 + 1 + 1 + 1, L + 1 + 1 + 1 + 1 + 1, L + 1 + 1 + 1 + 1, L + 1 + 1 + 1, L + 1 + 1, L + 1]) (hq1 : @LT.lt Nat _ lco lla) (hq2 : @LT.lt Nat _ lla lle) (hq3 : @LT.lt Nat _ lle ltb)
   (hE : PassesOwn (model pwC w) (callerA.deeper (envOfC (PySem.Str.ofString "law") lawSc L f cdv)) (envOfC (PySem.Str.ofString "law") lawSc L f cdv) E)
   (use : ∀ (h' : Heap) (tk' : Nat) (m' : PySem.Str → Option Value) (o2' : Obj) (kv : Option Value) (tabA ledA labA codA : Array Value) (n1 n2 n3 n4 : Nat) (inn : List (Addr × Obj)), Fr g L h' m' → News g L h' ((ltb, W.listOf tabA n1) :: (lle, W.listOf ledA n2) :: (lla, W.listOf labA n3) :: (lco, W.listOf codA n4) :: (lr, lst rvs) :: (l, W.listOf cvs.toArray 0) :: (L + 1 + 1 + 1 + 1 + 1 + 1 + 1 + 1 + 1 + 1, o10) :: (L + 1 + 1 + 1 + 1 + 1 + 1 + 1 + 1 + 1, o9) :: (L + 1 + 1 + 1 + 1 + 1 + 1 + 1 + 1, o8) :: (L + 1 + 1 + 1 + 1 + 1 + 1 + 1, o7) :: (L + 1 + 1 + 1 + 1 + 1 + 1, o6) :: (L + 1 + 1 + 1 + 1 + 1, o5) :: (L + 1 + 1 + 1 + 1, o4) :: (L + 1 + 1 + 1, o3) :: (L + 1 + 1, o2') :: (L + 1, o1) :: inn) → o2'.data = .cell kv → m' (PySem.Str.ofString "right") = some (.bool true) → m' (PySem.Str.ofString "labels") = some (.ref lla) → tabA.size = 8 → ledA.size = 8 → labA.size = 8 → codA.size = 8 → IntsAre tabA.toList ((List.range 8).map (tabF cs)) → IntsAre ledA.toList ((List.range 8).map fun k => rd.getD k 0) → StrsAre labA.toList ((List.range 8).map (labF cs)) → CodesAt inn codA.toList ((List.range 8).map (codF cs)) → (∀ p ∈ inn, NeAll p.1 [ltb, lle, lla, lco, lr, l, L + 1 + 1 + 1 + 1 + 1 + 1 + 1 + 1 + 1 + 1, L + 1 + 1 + 1 + 1 + 1 + 1 + 1 + 1 + 1, L + 1 + 1 + 1 + 1 + 1 + 1 + 1 + 1, L + 1 + 1 + 1 + 1 + 1 + 1 + 1, L + 1 + 1 + 1 + 1 + 1 + 1, L + 1 + 1 + 1 + 1 + 1, L + 1 + 1 + 1 + 1, L + 1 + 1 + 1, L + 1 + 1, L + 1]) → Q .next ⟨h', gens, drawn, tk', os⟩) : wpAny (model pwC w) (callerA.deeper (envOfC (PySem.Str.ofString "law") lawSc L f cdv)) (execs lawE (envOfC (PySem.Str.ofString "law") lawSc L f cdv)) Q E ⟨h, gens, drawn, toks, os⟩ := by
  have hfill : (PySem.Challenge.rw_yh0002_01 = PySem.Challenge.rw_yh0002_01) ∧ KF = KF := by k_fill; exact ⟨rfl, rfl⟩
  clear hfill
  unfold lawE
  unfold lawSc at *
  dsimp only at hE ⊢
  (repeat' (first | (k_unfold; (try dsimp only)) | (k_end; wrow_close) | (with_reducible ((with_reducible show LCg.FinA _ _ _ _ _ _ _); (unfold LCg.FinA); intro D' h' tk' F' N' o1'; (refine nesSplit (off1K o1') ?_; dsimp only [NesArrow]; intros; (try (refine nesArrow_intro ?_; intro _))); clear o1'; (try simp only [List.nil_append, List.cons_append] at N'); (try dsimp only))) | (with_reducible ((with_reducible show LCg.FinE _ _ _ _ _ _ _); (unfold LCg.FinE); intro D' h' tk' F' N' o1'; (refine nesSplit (off1K o1') ?_; dsimp only [NesArrow]; intros; (try (refine nesArrow_intro ?_; intro _))); clear o1'; (try simp only [List.nil_append, List.cons_append] at N'); (try dsimp only))) | (with_reducible ((with_reducible show wpAny _ _ (exec (Stmt.For _ _ _ _ _) _) _ _ _); (rename Fr _ _ _ _ => lF'); (with_unfolding_all refine' For_turns lF' ?_ ?zhs99 ?zhE99; (case zhs99 => (intro _; rfl)); (case zhE99 => assumption); k_whole))) | (with_reducible ((with_reducible show wpAny _ _ (eval (PySem.Expr.Name _ _) _) _ _ _); k_dflt (refine' nameX_L ?zF9 ?zv9 ?_ ?za9 ?zb9; (case zF9 => k_asm); (case za9 => rfl); (case zb9 => rfl); (case zv9 => first | with_reducible assumption | ((try dsimp only); first | with_reducible assumption | (refine (if_neg (by decide)).trans ?_; with_reducible assumption) | (refine (if_neg (by decide)).trans ((if_neg (by decide)).trans ?_); with_reducible assumption) | (refine (if_neg (by decide)).trans ((if_neg (by decide)).trans ((if_neg (by decide)).trans ?_)); with_reducible assumption))); k_whole))) | walk1 | (dsimp only; walk1) | (leave1; walk_say "STEP leave1"; try dsimp only) | fail "no step"))
  refine Hold.mk ?_
  refine turns_rangeQ (L := L) (n := 8) (body := lawEa ++ (lawEb ++ (lawEc ++ (lawEd ++ lawEe)))) (fun i m₁ nx => ∀ G9 : Prop, (∀ (o2' : Obj) (kv : Option Value) (tabA ledA labA codA : Array Value) (n1 n2 n3 n4 : Nat) (inn : List (Addr × Obj)), nx = (ltb, W.listOf tabA n1) :: (lle, W.listOf ledA n2) :: (lla, W.listOf labA n3) :: (lco, W.listOf codA n4) :: (lr, lst rvs) :: (l, W.listOf cvs.toArray 0) :: (L + 1 + 1 + 1 + 1 + 1 + 1 + 1 + 1 + 1 + 1, o10) :: (L + 1 + 1 + 1 + 1 + 1 + 1 + 1 + 1 + 1, o9) :: (L + 1 + 1 + 1 + 1 + 1 + 1 + 1 + 1, o8) :: (L + 1 + 1 + 1 + 1 + 1 + 1 + 1, o7) :: (L + 1 + 1 + 1 + 1 + 1 + 1, o6) :: (L + 1 + 1 + 1 + 1 + 1, o5) :: (L + 1 + 1 + 1 + 1, o4) :: (L + 1 + 1 + 1, o3) :: (L + 1 + 1, o2') :: (L + 1, o1) :: inn → o2'.data = .cell kv → m₁ (PySem.Str.ofString "right") = some (.bool true) → m₁ (PySem.Str.ofString "labels") = some (.ref lla) → tabA.size = i → ledA.size = i → labA.size = i → codA.size = i → IntsAre tabA.toList ((List.range i).map (tabF cs)) → IntsAre ledA.toList ((List.range i).map fun k => rd.getD k 0) → StrsAre labA.toList ((List.range i).map (labF cs)) → CodesAt inn codA.toList ((List.range i).map (codF cs)) → (∀ p ∈ inn, NeAll p.1 [ltb, lle, lla, lco, lr, l, L + 1 + 1 + 1 + 1 + 1 + 1 + 1 + 1 + 1 + 1, L + 1 + 1 + 1 + 1 + 1 + 1 + 1 + 1 + 1, L + 1 + 1 + 1 + 1 + 1 + 1 + 1 + 1, L + 1 + 1 + 1 + 1 + 1 + 1 + 1, L + 1 + 1 + 1 + 1 + 1 + 1, L + 1 + 1 + 1 + 1 + 1, L + 1 + 1 + 1 + 1, L + 1 + 1 + 1, L + 1 + 1, L + 1]) → G9) → G9) rfl (by rfl) (by k_asm) ?hsm ?hn (by k_asm) (by k_asm) ?h0 ?turn ?done
  case hsm => decide
  case hn => rfl
  case h0 => (intro G9 k9; exact k9 o2 kv #[] #[] #[] #[] 0 0 0 0 [] rfl d2 hrt hls rfl rfl rfl rfl .nil .nil .nil CodesAt.nil (fun p hp => absurd hp List.not_mem_nil))
  case turn =>
    intro i t m₁ nx h tk I oI Qz hi' hJ hne F' N' hQz
    refine hJ _ ?_
    intro o2' kv' tabA ledA labA codA n1 n2 n3 n4 inn e911 d2' hr₁ hl₁ z1 z2 z3 z4 hT hLd hLb hCo hin
    subst e911
    have hk0 : (0 : Int) + (i : Int) = (i : Int) := by omega
    rw [hk0]
    clear hk0 d2
    have nk0 : NeK ltb (L + 1 + 1) := ⟨dstAt hD (i := 0) (j := 14) rfl rfl (by decide)⟩
    have nk1 : NeK lle (L + 1 + 1) := ⟨dstAt hD (i := 1) (j := 14) rfl rfl (by decide)⟩
    have nk2 : NeK lla (L + 1 + 1) := ⟨dstAt hD (i := 2) (j := 14) rfl rfl (by decide)⟩
    have nk3 : NeK lco (L + 1 + 1) := ⟨dstAt hD (i := 3) (j := 14) rfl rfl (by decide)⟩
    have nk4 : NeK lr (L + 1 + 1) := ⟨dstAt hD (i := 4) (j := 14) rfl rfl (by decide)⟩
    have nk5 : NeK l (L + 1 + 1) := ⟨dstAt hD (i := 5) (j := 14) rfl rfl (by decide)⟩
    have nkI : NeK (L + 1 + 1) I := ⟨hne (L + 1 + 1, o2') (by repeat (first | exact List.Mem.head _ | apply List.Mem.tail))⟩
    have hin2 : ∀ p ∈ inn, p.1 ≠ (L + 1 + 1) := fun p hp => (hin p hp).2.2.2.2.2.2.2.2.2.2.2.2.2.2.1
    have hne' := Kept.mk hne
    clear hne
    generalize hbody : lawEa ++ (lawEb ++ (lawEc ++ (lawEd ++ lawEe))) = body
    (repeat' (first | (k_unfold; (try dsimp only)) | (k_end; wrow_close) | (with_reducible ((with_reducible show LCg.FinA _ _ _ _ _ _ _); (unfold LCg.FinA); intro D' h' tk' F' N' o1'; (refine nesSplit (off1K o1') ?_; dsimp only [NesArrow]; intros; (try (refine nesArrow_intro ?_; intro _))); clear o1'; (try simp only [List.nil_append, List.cons_append] at N'); (try dsimp only))) | (with_reducible ((with_reducible show LCg.FinE _ _ _ _ _ _ _); (unfold LCg.FinE); intro D' h' tk' F' N' o1'; (refine nesSplit (off1K o1') ?_; dsimp only [NesArrow]; intros; (try (refine nesArrow_intro ?_; intro _))); clear o1'; (try simp only [List.nil_append, List.cons_append] at N'); (try dsimp only))) | (with_reducible ((with_reducible show wpAny _ _ (exec (Stmt.For _ _ _ _ _) _) _ _ _); (rename Fr _ _ _ _ => lF'); (with_unfolding_all refine' For_turns lF' ?_ ?zhs99 ?zhE99; (case zhs99 => (intro _; rfl)); (case zhE99 => assumption); k_whole))) | (with_reducible ((with_reducible show wpAny _ _ (eval (PySem.Expr.Name _ _) _) _ _ _); k_dflt (refine' nameX_L ?zF9 ?zv9 ?_ ?za9 ?zb9; (case zF9 => k_asm); (case za9 => rfl); (case zb9 => rfl); (case zv9 => first | with_reducible assumption | ((try dsimp only); first | with_reducible assumption | (refine (if_neg (by decide)).trans ?_; with_reducible assumption) | (refine (if_neg (by decide)).trans ((if_neg (by decide)).trans ?_); with_reducible assumption) | (refine (if_neg (by decide)).trans ((if_neg (by decide)).trans ((if_neg (by decide)).trans ?_)); with_reducible assumption))); k_whole))) | walk1 | (dsimp only; walk1) | (leave1; walk_say "STEP leave1"; try dsimp only) | fail "no step"))
    rename_i h₅ o2n F₅ N₅ d₅
    subst hbody
    rw [← lawE_parts]
    replace hne := hne'.out
    clear hne'
    have hx1 : ∀ p ∈ (lr, lst rvs) :: (l, W.listOf cvs.toArray 0) :: (L + 1 + 1 + 1 + 1 + 1 + 1 + 1 + 1 + 1 + 1, o10) :: (L + 1 + 1 + 1 + 1 + 1 + 1 + 1 + 1 + 1, o9) :: (L + 1 + 1 + 1 + 1 + 1 + 1 + 1 + 1, o8) :: (L + 1 + 1 + 1 + 1 + 1 + 1 + 1, o7) :: (L + 1 + 1 + 1 + 1 + 1 + 1, o6) :: (L + 1 + 1 + 1 + 1 + 1, o5) :: (L + 1 + 1 + 1 + 1, o4) :: (L + 1 + 1 + 1, o3) :: (L + 1 + 1, o2n) :: (L + 1, o1) :: inn, p.1 ≠ ltb := offOf (l := [(lr, lst rvs), (l, W.listOf cvs.toArray 0), (L + 1 + 1 + 1 + 1 + 1 + 1 + 1 + 1 + 1 + 1, o10), (L + 1 + 1 + 1 + 1 + 1 + 1 + 1 + 1 + 1, o9), (L + 1 + 1 + 1 + 1 + 1 + 1 + 1 + 1, o8), (L + 1 + 1 + 1 + 1 + 1 + 1 + 1, o7), (L + 1 + 1 + 1 + 1 + 1 + 1, o6), (L + 1 + 1 + 1 + 1 + 1, o5), (L + 1 + 1 + 1 + 1, o4), (L + 1 + 1 + 1, o3), (L + 1 + 1, o2n), (L + 1, o1)]) hD.1.2.2.2 (fun p hp => (hin p hp).1)
    have hx2 : ∀ p ∈ (lr, lst rvs) :: (l, W.listOf cvs.toArray 0) :: (L + 1 + 1 + 1 + 1 + 1 + 1 + 1 + 1 + 1 + 1, o10) :: (L + 1 + 1 + 1 + 1 + 1 + 1 + 1 + 1 + 1, o9) :: (L + 1 + 1 + 1 + 1 + 1 + 1 + 1 + 1, o8) :: (L + 1 + 1 + 1 + 1 + 1 + 1 + 1, o7) :: (L + 1 + 1 + 1 + 1 + 1 + 1, o6) :: (L + 1 + 1 + 1 + 1 + 1, o5) :: (L + 1 + 1 + 1 + 1, o4) :: (L + 1 + 1 + 1, o3) :: (L + 1 + 1, o2n) :: (L + 1, o1) :: inn, p.1 ≠ lle := offOf (l := [(lr, lst rvs), (l, W.listOf cvs.toArray 0), (L + 1 + 1 + 1 + 1 + 1 + 1 + 1 + 1 + 1 + 1, o10), (L + 1 + 1 + 1 + 1 + 1 + 1 + 1 + 1 + 1, o9), (L + 1 + 1 + 1 + 1 + 1 + 1 + 1 + 1, o8), (L + 1 + 1 + 1 + 1 + 1 + 1 + 1, o7), (L + 1 + 1 + 1 + 1 + 1 + 1, o6), (L + 1 + 1 + 1 + 1 + 1, o5), (L + 1 + 1 + 1 + 1, o4), (L + 1 + 1 + 1, o3), (L + 1 + 1, o2n), (L + 1, o1)]) hD.2.1.2.2 (fun p hp => (hin p hp).2.1)
    have hx3 : ∀ p ∈ (lr, lst rvs) :: (l, W.listOf cvs.toArray 0) :: (L + 1 + 1 + 1 + 1 + 1 + 1 + 1 + 1 + 1 + 1, o10) :: (L + 1 + 1 + 1 + 1 + 1 + 1 + 1 + 1 + 1, o9) :: (L + 1 + 1 + 1 + 1 + 1 + 1 + 1 + 1, o8) :: (L + 1 + 1 + 1 + 1 + 1 + 1 + 1, o7) :: (L + 1 + 1 + 1 + 1 + 1 + 1, o6) :: (L + 1 + 1 + 1 + 1 + 1, o5) :: (L + 1 + 1 + 1 + 1, o4) :: (L + 1 + 1 + 1, o3) :: (L + 1 + 1, o2n) :: (L + 1, o1) :: inn, p.1 ≠ lla := offOf (l := [(lr, lst rvs), (l, W.listOf cvs.toArray 0), (L + 1 + 1 + 1 + 1 + 1 + 1 + 1 + 1 + 1 + 1, o10), (L + 1 + 1 + 1 + 1 + 1 + 1 + 1 + 1 + 1, o9), (L + 1 + 1 + 1 + 1 + 1 + 1 + 1 + 1, o8), (L + 1 + 1 + 1 + 1 + 1 + 1 + 1, o7), (L + 1 + 1 + 1 + 1 + 1 + 1, o6), (L + 1 + 1 + 1 + 1 + 1, o5), (L + 1 + 1 + 1 + 1, o4), (L + 1 + 1 + 1, o3), (L + 1 + 1, o2n), (L + 1, o1)]) hD.2.2.1.2 (fun p hp => (hin p hp).2.2.1)
    have hx4 : ∀ p ∈ (lr, lst rvs) :: (l, W.listOf cvs.toArray 0) :: (L + 1 + 1 + 1 + 1 + 1 + 1 + 1 + 1 + 1 + 1, o10) :: (L + 1 + 1 + 1 + 1 + 1 + 1 + 1 + 1 + 1, o9) :: (L + 1 + 1 + 1 + 1 + 1 + 1 + 1 + 1, o8) :: (L + 1 + 1 + 1 + 1 + 1 + 1 + 1, o7) :: (L + 1 + 1 + 1 + 1 + 1 + 1, o6) :: (L + 1 + 1 + 1 + 1 + 1, o5) :: (L + 1 + 1 + 1 + 1, o4) :: (L + 1 + 1 + 1, o3) :: (L + 1 + 1, o2n) :: (L + 1, o1) :: inn, p.1 ≠ lco := offOf (l := [(lr, lst rvs), (l, W.listOf cvs.toArray 0), (L + 1 + 1 + 1 + 1 + 1 + 1 + 1 + 1 + 1 + 1, o10), (L + 1 + 1 + 1 + 1 + 1 + 1 + 1 + 1 + 1, o9), (L + 1 + 1 + 1 + 1 + 1 + 1 + 1 + 1, o8), (L + 1 + 1 + 1 + 1 + 1 + 1 + 1, o7), (L + 1 + 1 + 1 + 1 + 1 + 1, o6), (L + 1 + 1 + 1 + 1 + 1, o5), (L + 1 + 1 + 1 + 1, o4), (L + 1 + 1 + 1, o3), (L + 1 + 1, o2n), (L + 1, o1)]) hD.2.2.2.1 (fun p hp => (hin p hp).2.2.2.1)
    refine law_E1 w mean mg mb B X T F₅ N₅ d1 d₅ d3 d5 d6 d7 hI hlen hR hRl hRb hi' hl₁ z1 z2 z3 z4 hT hx1 hx2 hx3 hx4 hq1 hq2 hq3 ⟨hne _ (.head _)⟩ ⟨hne _ (.tail _ (.head _))⟩ ⟨hne _ (.tail _ (.tail _ (.head _)))⟩ ⟨hne _ (.tail _ (.tail _ (.tail _ (.head _))))⟩ hE ?_
    intro h₆ tk₆ m₆ lc ys tb tc t6 F₆ er el N₆ N₇ hys k1 k2 k3 k4 k5 k6
    refine hQz h₆ tk₆ m₆ _ F₆ (newsIns (l := (I, oI) :: [(ltb, W.listOf (tabA.push (.int (tabF cs i) tb)) (n1 + 1)), (lle, W.listOf (ledA.push (.int (rd.getD i 0) tc)) (n2 + 1)), (lla, W.listOf (labA.push (.str (labF cs i) t6)) (n3 + 1)), (lco, W.listOf (codA.push (.ref lc)) (n4 + 1)), (lr, lst rvs), (l, W.listOf cvs.toArray 0), (L + 1 + 1 + 1 + 1 + 1 + 1 + 1 + 1 + 1 + 1, o10), (L + 1 + 1 + 1 + 1 + 1 + 1 + 1 + 1 + 1, o9), (L + 1 + 1 + 1 + 1 + 1 + 1 + 1 + 1, o8), (L + 1 + 1 + 1 + 1 + 1 + 1 + 1, o7), (L + 1 + 1 + 1 + 1 + 1 + 1, o6), (L + 1 + 1 + 1 + 1 + 1, o5), (L + 1 + 1 + 1 + 1, o4), (L + 1 + 1 + 1, o3), (L + 1 + 1, o2n), (L + 1, o1)]) N₆ N₇)
      (neIns (l' := [(ltb, W.listOf (tabA.push (.int (tabF cs i) tb)) (n1 + 1)), (lle, W.listOf (ledA.push (.int (rd.getD i 0) tc)) (n2 + 1)), (lla, W.listOf (labA.push (.str (labF cs i) t6)) (n3 + 1)), (lco, W.listOf (codA.push (.ref lc)) (n4 + 1)), (lr, lst rvs), (l, W.listOf cvs.toArray 0), (L + 1 + 1 + 1 + 1 + 1 + 1 + 1 + 1 + 1 + 1, o10), (L + 1 + 1 + 1 + 1 + 1 + 1 + 1 + 1 + 1, o9), (L + 1 + 1 + 1 + 1 + 1 + 1 + 1 + 1, o8), (L + 1 + 1 + 1 + 1 + 1 + 1 + 1, o7), (L + 1 + 1 + 1 + 1 + 1 + 1, o6), (L + 1 + 1 + 1 + 1 + 1, o5), (L + 1 + 1 + 1 + 1, o4), (L + 1 + 1 + 1, o3), (L + 1 + 1, o2n), (L + 1, o1)]) (l := [(ltb, W.listOf tabA n1), (lle, W.listOf ledA n2), (lla, W.listOf labA n3), (lco, W.listOf codA n4), (lr, lst rvs), (l, W.listOf cvs.toArray 0), (L + 1 + 1 + 1 + 1 + 1 + 1 + 1 + 1 + 1 + 1, o10), (L + 1 + 1 + 1 + 1 + 1 + 1 + 1 + 1 + 1, o9), (L + 1 + 1 + 1 + 1 + 1 + 1 + 1 + 1, o8), (L + 1 + 1 + 1 + 1 + 1 + 1 + 1, o7), (L + 1 + 1 + 1 + 1 + 1 + 1, o6), (L + 1 + 1 + 1 + 1 + 1, o5), (L + 1 + 1 + 1 + 1, o4), (L + 1 + 1 + 1, o3), (L + 1 + 1, o2'), (L + 1, o1)]) hne rfl (Ne.symm k1.out))
      ?_
    intro G9 k9
    refine k9 o2n (some (.int (i : Int) t)) _ _ _ _ (n1 + 1) (n2 + 1) (n3 + 1) (n4 + 1) ((lc, lst ys) :: inn) rfl d₅ (er.trans hr₁) (el.trans hl₁) (by rw [Array.size_push, z1]) (by rw [Array.size_push, z2]) (by rw [Array.size_push, z3]) (by rw [Array.size_push, z4]) (ints_snoc hT) (ints_snoc (f := fun k => rd.getD k 0) hLd) (strs_snoc hLb) (codes_snoc hCo hys) ?_
    intro p hp
    rcases List.mem_cons.mp hp with rfl | hp
    · exact ⟨Ne.symm k2.out, Ne.symm k3.out, Ne.symm k4.out, Ne.symm k5.out, Ne.symm k6.1.out, Ne.symm k6.2.1.out, Ne.symm k6.2.2.1.out, Ne.symm k6.2.2.2.1.out, Ne.symm k6.2.2.2.2.1.out, Ne.symm k6.2.2.2.2.2.1.out, Ne.symm k6.2.2.2.2.2.2.1.out, Ne.symm k6.2.2.2.2.2.2.2.1.out, Ne.symm k6.2.2.2.2.2.2.2.2.1.out, Ne.symm k6.2.2.2.2.2.2.2.2.2.1.out, Ne.symm k6.2.2.2.2.2.2.2.2.2.2.1.out, Ne.symm k6.2.2.2.2.2.2.2.2.2.2.2.1.out, trivial⟩
    · exact hin p hp
  case done =>
    intro m₁ nx h tk hJ F' N'
    refine hJ _ ?_
    intro o2' kv' tabA ledA labA codA n1 n2 n3 n4 inn e911 d2' hr₁ hl₁ z1 z2 z3 z4 hT hLd hLb hCo hin
    subst e911
    refine wpAny_execs_nil ?_
    exact use _ _ _ _ _ _ _ _ _ _ _ _ _ _ F' N' d2' hr₁ hl₁ z1 z2 z3 z4 hT hLd hLb hCo hin
end
end
-- KLF0
noncomputable section
open PySem PySem.W PyProof.Rows PySem.Calls PySem.Spec
set_option Elab.async false
set_option maxRecDepth 100000
set_option maxHeartbeats 8000000
set_option linter.unusedVariables false
open LCg LCt
theorem ltL_cast : ∀ xs ys : List Nat, ltL (xs.map fun (c : Nat) => (c : Int)) (ys.map fun (c : Nat) => (c : Int)) = decide (xs < ys)
  | [], [] => by simp [ltL]
  | [], y :: ys => by simp [ltL]
  | x :: xs, [] => by simp [ltL]
  | x :: xs, y :: ys => by
    simp only [List.map_cons, ltL]
    rw [ltL_cast xs ys]
    by_cases h : x = y
    · subst h; simp [List.cons_lt_cons_iff]
    · have h' : ((x : Int) == (y : Int)) = false := by simp; omega
      rw [h']
      simp only [List.cons_lt_cons_iff]
      simp [h]
theorem ltL_irrefl : ∀ xs : List Int, ltL xs xs = false
  | [] => rfl
  | x :: xs => by simp [ltL, ltL_irrefl xs]
theorem ltL_asymm : ∀ xs ys : List Int, ltL xs ys = true → ltL ys xs = false
  | [], [], h => by simp [ltL]
  | [], _ :: _, h => by simp [ltL]
  | _ :: _, [], h => by simp [ltL] at h
  | x :: xs, y :: ys, h => by
    simp only [ltL] at h ⊢
    by_cases e : x = y
    · subst e; simp at h ⊢; exact ltL_asymm xs ys h
    · have e1 : (x == y) = false := by simpa using e
      have e2 : (y == x) = false := by simpa using Ne.symm e
      rw [e1] at h; rw [e2]; simp at h ⊢; omega
theorem ltL_tri : ∀ xs ys : List Int, ltL xs ys = false → ltL ys xs = false → xs = ys
  | [], [], _, _ => rfl
  | [], _ :: _, h, _ => by simp [ltL] at h
  | _ :: _, [], _, h => by simp [ltL] at h
  | x :: xs, y :: ys, h, h2 => by
    simp only [ltL] at h h2
    by_cases e : x = y
    · subst e; simp at h h2; rw [ltL_tri xs ys h h2]
    · have e1 : (x == y) = false := by simpa using e
      have e2 : (y == x) = false := by simpa using Ne.symm e
      rw [e1] at h; rw [e2] at h2; simp at h h2; omega
theorem ltL_trans : ∀ xs ys zs : List Int, ltL xs ys = true → ltL ys zs = true → ltL xs zs = true
  | [], [], _, h, _ => by simp [ltL] at h
  | [], _ :: _, [], _, h => by simp [ltL] at h
  | [], _ :: _, _ :: _, _, _ => by simp [ltL]
  | _ :: _, [], _, h, _ => by simp [ltL] at h
  | _ :: _, _ :: _, [], _, h => by simp [ltL] at h
  | x :: xs, y :: ys, z :: zs, h, h2 => by
    simp only [ltL] at h h2 ⊢
    by_cases e : x = y
    · subst e
      by_cases e3 : x = z
      · subst e3; simp at h h2 ⊢; exact ltL_trans xs ys zs h h2
      · have e1 : (x == z) = false := by simpa using e3
        rw [e1] at h2 ⊢; exact h2
    · have e1 : (x == y) = false := by simpa using e
      rw [e1] at h; simp at h
      by_cases e3 : y = z
      · subst e3; rw [e1]; simpa using h
      · have e4 : (y == z) = false := by simpa using e3
        rw [e4] at h2; simp at h2
        have e5 : (x == z) = false := by simp; omega
        rw [e5]; simp; omega
/-- what _strcoll tells of two texts -/
noncomputable def collC (xs ys : List Int) : Int := b2i (ltL ys xs) - b2i (ltL xs ys)
noncomputable def collV (x y : PySem.Str) : Int := collC (codesOf x) (codesOf y)
theorem coll_gt {xs ys : List Int} (h : ltL ys xs = true) : collC xs ys = 1 := by
  unfold collC; rw [h, ltL_asymm _ _ h]; rfl
theorem coll_eq {xs ys : List Int} (h : xs = ys) : collC xs ys = 0 := by
  subst h; unfold collC; rw [ltL_irrefl]; rfl
theorem coll_lt {xs ys : List Int} (h : ltL ys xs = false) (h2 : ¬ xs = ys) : collC xs ys = -1 := by
  have : ltL xs ys = true := by
    cases e : ltL xs ys
    · exact absurd (ltL_tri _ _ e h) h2
    · rfl
  unfold collC; rw [h, this]; rfl
theorem coll_neg {xs ys : List Int} : collC xs ys = -1 ↔ ltL xs ys = true := by
  constructor
  · intro h
    cases e : ltL xs ys
    · unfold collC at h; rw [e] at h
      cases e2 : ltL ys xs <;> rw [e2] at h <;> exact absurd h (by decide)
    · rfl
  · intro h; unfold collC; rw [h, ltL_asymm _ _ h]; rfl
theorem f_coll (w : World) (mean : ExcName → Option Value) (mg mb : PySem.Str → Option Value) (x y : PySem.Str) (t u : Tok) :
   CV w mean mg mb 138 [.str x t, .str y u] 1 8 (fun _ => True) (fun v _ => ∃ tk, v = .int (collV x y) tk) := by
  have e : ∀ a b : PySem.Str, ltL (codesOf a) (codesOf b) = decide (a.cps.toList < b.cps.toList) := fun a b => ltL_cast _ _
  have := f_strcoll w mean mg mb x y t u
  unfold collV collC
  rw [e, e]
  exact this
/-! the last sign taken off -/
theorem ltL_dropLast : ∀ xs : List Int, xs ≠ [] → ltL xs.dropLast xs = true
  | [], h => absurd rfl h
  | [x], _ => rfl
  | x :: y :: r, _ => by
    simp only [List.dropLast_cons_cons, ltL, beq_self_eq_true, if_pos]
    exact ltL_dropLast (y :: r) (by simp)
theorem codes_sl (l : List Nat) : codesOf (sl l) = l.map fun (c : Nat) => (c : Int) := by simp [codesOf, sl]
theorem slice_codes {x : PySem.Str} (h : 1 ≤ x.length) : codesOf (Txt.slice x none (some (-1))) = (codesOf x).dropLast := by
  have hl : x.cps.toList ≠ [] := by
    intro e
    have h1 : x.cps.toList.length = 0 := by rw [e]; rfl
    rw [Array.length_toList] at h1
    have h2 : 1 ≤ x.cps.size := h
    omega
  have e : x = sl (x.cps.toList.dropLast ++ [x.cps.toList.getLast hl]) := by
    rw [List.dropLast_concat_getLast hl]
  rw [e, slice_last, codes_sl, codes_sl]
  simp
theorem slice_coll {x : PySem.Str} (h : 1 ≤ x.length) : [collV (Txt.slice x none (some (-1))) x, collV x (Txt.slice x none (some (-1)))] = [-1, 1] := by
  have hne : codesOf x ≠ [] := by
    intro e
    have h1 : (codesOf x).length = 0 := by rw [e]; rfl
    unfold codesOf at h1
    rw [List.length_map, Array.length_toList] at h1
    have h2 : 1 ≤ x.cps.size := h
    omega
  have h1 := ltL_dropLast _ hne
  unfold collV
  rw [slice_codes h, coll_gt h1, coll_neg.mpr h1]
theorem lab_at {cs : List Int} {labA : Array Value} {n i : Nat} (h : StrsAre labA.toList ((List.range n).map (labF cs))) (hi : i < n) : ∃ t, labA[((i : Int)).toNat]? = some (.str (labF cs i) t) := by
  obtain ⟨t, e⟩ := h.get i (labF cs i) (by simp [hi])
  exact ⟨t, by rw [Array.getElem?_toList] at e; exact e⟩
theorem cod_at {cs : List Int} {inn : List (Addr × Obj)} {codA : Array Value} {n i : Nat} (h : CodesAt inn codA.toList ((List.range n).map (codF cs))) (hi : i < n) : ∃ a ys, codA[((i : Int)).toNat]? = some (.ref a) ∧ (a, lst ys) ∈ inn ∧ IntsAre ys (codF cs i) := by
  obtain ⟨a, ys, e1, e2, e3⟩ := h.items i (by rw [h.len]; simpa using hi)
  refine ⟨a, ys, by rw [Array.getElem?_toList] at e1; exact e1, e2, ?_⟩
  rw [List.getD_eq_getElem?_getD, List.getElem?_map, List.getElem?_range hi] at e3
  exact e3
theorem lab_atK {cs : List Int} {labA : Array Value} {n i : Nat} {G : Prop} (h : StrsAre labA.toList ((List.range n).map (labF cs))) (hi : i < n) (k : ∀ t, labA[((i : Int)).toNat]? = some (.str (labF cs i) t) → G) : G := by
  obtain ⟨t, e⟩ := lab_at h hi
  exact k t e
theorem cod_atK {cs : List Int} {inn : List (Addr × Obj)} {codA : Array Value} {n i : Nat} {G : Prop} (h : CodesAt inn codA.toList ((List.range n).map (codF cs))) (hi : i < n) (k : ∀ a ys, codA[((i : Int)).toNat]? = some (.ref a) → (a, lst ys) ∈ inn → IntsAre ys (codF cs i) → G) : G := by
  obtain ⟨a, ys, e1, e2, e3⟩ := cod_at h hi
  exact k a ys e1 e2 e3
end
-- KLF
noncomputable section
open PySem PySem.W PyProof.Rows PySem.Calls PySem.Spec
set_option Elab.async false
set_option maxRecDepth 100000
set_option maxHeartbeats 8000000
set_option linter.unusedVariables false
open LCg LCt
section
variable {M : Model} {A : Around} {E : Value → Shared → Prop} {s : Shared} {h₀ : Heap} {L : Addr} {m : PySem.Str → Option Value} {cn : PySem.Str} {cs : Scope} {a : Addr} {ccd : Value} {cl : List (PySem.Str × Addr)} {x : PySem.Str} {v : Value} {Q : Value → Shared → Prop}
theorem loadX_L (F : Fr h₀ L s.heap m) (hv : m x = some v) (h : Q v s)
    (hk : cs.kind = .function := by rfl) (hx : (envX cn cs L a ccd cl).kindOf x = some .local := by rfl) :
    wpAny M A (loadName (envX cn cs L a ccd cl) x) Q E s := wpAny_loadName_local hk hx F.ns hv h
end
theorem newsDrop2 {h₀ h : Heap} {L : Addr} {a b : Addr × Obj} {l : List (Addr × Obj)} (N : News h₀ L h (a :: b :: l)) : News h₀ L h l := fun p hp => N p (.tail _ (.tail _ hp))
theorem neMap {l l' inn : List (Addr × Obj)} {I : Addr} (h : ∀ p ∈ l ++ inn, p.1 ≠ I) (e : l'.map (·.1) = l.map (·.1)) : ∀ p ∈ l' ++ inn, p.1 ≠ I := fun p hp => by
  rcases List.mem_append.mp hp with hp | hp
  · have h1 : p.1 ∈ l.map (·.1) := e ▸ List.mem_map_of_mem hp
    obtain ⟨q, hq, eq⟩ := List.mem_map.mp h1
    exact eq ▸ h q (List.mem_append_left _ hq)
  · exact h p (List.mem_append_right _ hp)
theorem item_codes {prog : Program} {w : World} {A : Around} {E : Value → Shared → Prop} {s : Shared} {h₀ : Heap} {L : Addr} {news : List (Addr × Obj)} {value slice : Expr} {l : Addr} {items : Array Value} {n : Nat} {k : Int} {u : Tok} {x : Value} {Q : Value → Shared → Prop} (N : News h₀ L s.heap news) (hl : (l, W.listOf items n) ∈ news)
    (h0 : 0 ≤ k) (hfit : k < 2 ^ 63) (hx : items[k.toNat]? = some x) (h : Q x s)
    (hs : subscripted slice false (.ref l) (.int k u) = operate [.ref l, .int k u] (getItem (.ref l) (.int k u)) := by with_unfolding_all rfl) (hg : ∀ r, letTemporaryGo value (.ref l) r = pure () := by intro _; with_unfolding_all rfl) :
    wpAny (model prog w) A (subscriptTail value slice (.ref l) (.int k u)) Q E s := PyProof.Rows.item_list (isListOf N hl) h0 hfit hx h hs hg
theorem gt_codes {prog : Program} {w : World} {A : Around} {E : Value → Shared → Prop} {s : Shared} {h₀ : Heap} {L : Addr} {news : List (Addr × Obj)} {a b : Addr} {vs us : List Value} {ns ms : List Int} {Q : Value → Shared → Prop} (N : News h₀ L s.heap news) (ha : (a, lst vs) ∈ news) (hb : (b, lst us) ∈ news) (h1 : IntsAre vs ns) (h2 : IntsAre us ms) (hu : A.units < cLine) (h : Q (.bool (ltL ms ns)) s) :
    wpAny (model prog w) A (compareOp .Gt (.ref a) (.ref b)) Q E s := gt_lists (isListOf N ha) (isListOf N hb) h1 h2 hu h
theorem lt_codes {prog : Program} {w : World} {A : Around} {E : Value → Shared → Prop} {s : Shared} {h₀ : Heap} {L : Addr} {news : List (Addr × Obj)} {a b : Addr} {vs us : List Value} {ns ms : List Int} {Q : Value → Shared → Prop} (N : News h₀ L s.heap news) (ha : (a, lst vs) ∈ news) (hb : (b, lst us) ∈ news) (h1 : IntsAre vs ns) (h2 : IntsAre us ms) (hu : A.units < cLine) (h : Q (.bool (ltL ns ms)) s) :
    wpAny (model prog w) A (compareOp .Lt (.ref a) (.ref b)) Q E s := lt_lists (isListOf N ha) (isListOf N hb) h1 h2 hu h
theorem eq_codes {prog : Program} {w : World} {A : Around} {E : Value → Shared → Prop} {s : Shared} {h₀ : Heap} {L : Addr} {news : List (Addr × Obj)} {a b : Addr} {vs us : List Value} {ns ms : List Int} {Q : Value → Shared → Prop} (N : News h₀ L s.heap news) (ha : (a, lst vs) ∈ news) (hb : (b, lst us) ∈ news) (h1 : IntsAre vs ns) (h2 : IntsAre us ms) (hu : A.units + 64 < cLine) (h : Q (.bool (decide (ns = ms))) s) :
    wpAny (model prog w) A (compareOp .Eq (.ref a) (.ref b)) Q E s := eq_intsK (isListOf N ha) h1 (isListOf N hb) h2 hu h
noncomputable def ordV (cs : List Int) (j k : Nat) : Int := collV (labF cs j) (labF cs k)
noncomputable def lessV (cs : List Int) (k j : Nat) : Int := (((List.range j).filter fun j' => ordV cs j' k == -1).length : Int)
noncomputable def rankV (cs : List Int) (k : Nat) : Int := lessV cs k 8
theorem lessV_succ (cs : List Int) (k j : Nat) : lessV cs k (j + 1) = lessV cs k j + (if ordV cs j k = -1 then 1 else 0) := by
  unfold lessV
  rw [List.range_succ, List.filter_append, List.length_append]
  by_cases h : ordV cs j k = -1
  · rw [if_pos h]; simp [h]
  · rw [if_neg h]; simp [h]
section
local macro_rules | `(tactic| k_mem) => `(tactic| ((repeat (apply List.Mem.tail)); refine memOf ?_; with_reducible assumption))
theorem law_F (w : World) (mean : ExcName → Option Value) (mg mb : PySem.Str → Option Value) {g h : Heap} {L f : Addr} {cdv : Value} {m : PySem.Str → Option Value} {gens : Array GenState} {drawn : Drawn} {toks : Nat} {os : OsState} {Q : Flow → Shared → Prop} {E : Value → Shared → Prop} {ltb lle lla lco lr l : Addr} {o1 : Obj} {o2 : Obj} {o3 : Obj} {o4 : Obj} {o5 : Obj} {o6 : Obj} {o7 : Obj} {o8 : Obj} {o9 : Obj} {o10 : Obj} {kv kv8 : Option Value} {cvs rvs : List Value} {cs : List Int} {tabA ledA labA codA : Array Value} {n1 n2 n3 n4 : Nat} {inn : List (Addr × Obj)}
   (B : Below callerA g [] g) (X : (KF w.params).In g) (T : Top vw LW mean mg mb g) (F : Fr g L h m) (N : News g L h ((ltb, W.listOf tabA n1) :: (lle, W.listOf ledA n2) :: (lla, W.listOf labA n3) :: (lco, W.listOf codA n4) :: (lr, lst rvs) :: (l, W.listOf cvs.toArray 0) :: (L + 1 + 1 + 1 + 1 + 1 + 1 + 1 + 1 + 1 + 1, o10) :: (L + 1 + 1 + 1 + 1 + 1 + 1 + 1 + 1 + 1, o9) :: (L + 1 + 1 + 1 + 1 + 1 + 1 + 1 + 1, o8) :: (L + 1 + 1 + 1 + 1 + 1 + 1 + 1, o7) :: (L + 1 + 1 + 1 + 1 + 1 + 1, o6) :: (L + 1 + 1 + 1 + 1 + 1, o5) :: (L + 1 + 1 + 1 + 1, o4) :: (L + 1 + 1 + 1, o3) :: (L + 1 + 1, o2) :: (L + 1, o1) :: inn)) (d2 : o2.data = .cell kv) (d5 : o5.data = .cell (some (.ref lco))) (d8 : o8.data = .cell kv8) (hls : m (PySem.Str.ofString "labels") = some (.ref lla)) (hrt : m (PySem.Str.ofString "right") = some (.bool true)) (hD : Dst [ltb, lle, lla, lco, lr, l, L + 1 + 1 + 1 + 1 + 1 + 1 + 1 + 1 + 1 + 1, L + 1 + 1 + 1 + 1 + 1 + 1 + 1 + 1 + 1, L + 1 + 1 + 1 + 1 + 1 + 1 + 1 + 1, L + 1 + 1 + 1 + 1 + 1 + 1 + 1, L + 1 + 1 + 1 + 1 + 1 + 1, L + 1 + 1 + 1 + 1 + 1, L + 1 + 1 + 1 + 1, L + 1 + 1 + 1, L + 1 + 1, L + 1]) (hin : ∀ p ∈ inn, NeAll p.1 [ltb, lle, lla, lco, lr, l, L + 1 + 1 + 1 + 1 + 1 + 1 + 1 + 1 + 1 + 1, L + 1 + 1 + 1 + 1 + 1 + 1 + 1 + 1 + 1, L + 1 + 1 + 1 + 1 + 1 + 1 + 1 + 1, L + 1 + 1 + 1 + 1 + 1 + 1 + 1, L + 1 + 1 + 1 + 1 + 1 + 1, L + 1 + 1 + 1 + 1 + 1, L + 1 + 1 + 1 + 1, L + 1 + 1 + 1, L + 1 + 1, L + 1]) (hL : StrsAre labA.toList ((List.range 8).map (labF cs))) (hC : CodesAt inn codA.toList ((List.range 8).map (codF cs)))
   (hE : PassesOwn (model pwC w) (callerA.deeper (envOfC (PySem.Str.ofString "law") lawSc L f cdv)) (envOfC (PySem.Str.ofString "law") lawSc L f cdv) E)
   (use : ∀ (h' : Heap) (tk' : Nat) (m' : PySem.Str → Option Value) (lrk : Addr) (o2' o8' : Obj) (kv : Option Value) (rkA : Array Value) (n5 : Nat), Fr g L h' m' → News g L h' ((lrk, W.listOf rkA n5) :: (ltb, W.listOf tabA n1) :: (lle, W.listOf ledA n2) :: (lla, W.listOf labA n3) :: (lco, W.listOf codA n4) :: (lr, lst rvs) :: (l, W.listOf cvs.toArray 0) :: (L + 1 + 1 + 1 + 1 + 1 + 1 + 1 + 1 + 1 + 1, o10) :: (L + 1 + 1 + 1 + 1 + 1 + 1 + 1 + 1 + 1, o9) :: (L + 1 + 1 + 1 + 1 + 1 + 1 + 1 + 1, o8') :: (L + 1 + 1 + 1 + 1 + 1 + 1 + 1, o7) :: (L + 1 + 1 + 1 + 1 + 1 + 1, o6) :: (L + 1 + 1 + 1 + 1 + 1, o5) :: (L + 1 + 1 + 1 + 1, o4) :: (L + 1 + 1 + 1, o3) :: (L + 1 + 1, o2') :: (L + 1, o1) :: inn) → o2'.data = .cell kv → o8'.data = .cell (some (.ref lrk)) → m' (PySem.Str.ofString "right") = some (.bool true) → rkA.size = 8 → IntsAre rkA.toList ((List.range 8).map (rankV cs)) → NesK lrk ((ltb, W.listOf tabA n1) :: (lle, W.listOf ledA n2) :: (lla, W.listOf labA n3) :: (lco, W.listOf codA n4) :: (lr, lst rvs) :: (l, W.listOf cvs.toArray 0) :: (L + 1 + 1 + 1 + 1 + 1 + 1 + 1 + 1 + 1 + 1, o10) :: (L + 1 + 1 + 1 + 1 + 1 + 1 + 1 + 1 + 1, o9) :: (L + 1 + 1 + 1 + 1 + 1 + 1 + 1 + 1, o8') :: (L + 1 + 1 + 1 + 1 + 1 + 1 + 1, o7) :: (L + 1 + 1 + 1 + 1 + 1 + 1, o6) :: (L + 1 + 1 + 1 + 1 + 1, o5) :: (L + 1 + 1 + 1 + 1, o4) :: (L + 1 + 1 + 1, o3) :: (L + 1 + 1, o2') :: (L + 1, o1) :: inn) → Q .next ⟨h', gens, drawn, tk', os⟩) : wpAny (model pwC w) (callerA.deeper (envOfC (PySem.Str.ofString "law") lawSc L f cdv)) (execs lawF (envOfC (PySem.Str.ofString "law") lawSc L f cdv)) Q E ⟨h, gens, drawn, toks, os⟩ := by
  have hfill : (PySem.Challenge.rw_yh0002_01 = PySem.Challenge.rw_yh0002_01) ∧ KF = KF := by k_fill; exact ⟨rfl, rfl⟩
  clear hfill
  unfold lawF
  unfold lawSc at *
  dsimp only at hE ⊢
  have nk2_0 : NeK ltb (L + 1 + 1) := ⟨dstAt hD (i := 0) (j := 14) rfl rfl (by decide)⟩
  have nk2_1 : NeK lle (L + 1 + 1) := ⟨dstAt hD (i := 1) (j := 14) rfl rfl (by decide)⟩
  have nk2_2 : NeK lla (L + 1 + 1) := ⟨dstAt hD (i := 2) (j := 14) rfl rfl (by decide)⟩
  have nk2_3 : NeK lco (L + 1 + 1) := ⟨dstAt hD (i := 3) (j := 14) rfl rfl (by decide)⟩
  have nk2_4 : NeK lr (L + 1 + 1) := ⟨dstAt hD (i := 4) (j := 14) rfl rfl (by decide)⟩
  have nk2_5 : NeK l (L + 1 + 1) := ⟨dstAt hD (i := 5) (j := 14) rfl rfl (by decide)⟩
  have hin2 : ∀ p ∈ inn, p.1 ≠ (L + 1 + 1) := fun p hp => (hin p hp).2.2.2.2.2.2.2.2.2.2.2.2.2.2.1
  have nk8_0 : NeK ltb (L + 1 + 1 + 1 + 1 + 1 + 1 + 1 + 1) := ⟨dstAt hD (i := 0) (j := 8) rfl rfl (by decide)⟩
  have nk8_1 : NeK lle (L + 1 + 1 + 1 + 1 + 1 + 1 + 1 + 1) := ⟨dstAt hD (i := 1) (j := 8) rfl rfl (by decide)⟩
  have nk8_2 : NeK lla (L + 1 + 1 + 1 + 1 + 1 + 1 + 1 + 1) := ⟨dstAt hD (i := 2) (j := 8) rfl rfl (by decide)⟩
  have nk8_3 : NeK lco (L + 1 + 1 + 1 + 1 + 1 + 1 + 1 + 1) := ⟨dstAt hD (i := 3) (j := 8) rfl rfl (by decide)⟩
  have nk8_4 : NeK lr (L + 1 + 1 + 1 + 1 + 1 + 1 + 1 + 1) := ⟨dstAt hD (i := 4) (j := 8) rfl rfl (by decide)⟩
  have nk8_5 : NeK l (L + 1 + 1 + 1 + 1 + 1 + 1 + 1 + 1) := ⟨dstAt hD (i := 5) (j := 8) rfl rfl (by decide)⟩
  have hin8 : ∀ p ∈ inn, p.1 ≠ (L + 1 + 1 + 1 + 1 + 1 + 1 + 1 + 1) := fun p hp => (hin p hp).2.2.2.2.2.2.2.2.1
  (repeat' (first | (k_unfold; (try dsimp only)) | (k_end; wrow_close) | (with_reducible ((with_reducible show wpAny _ _ (compareOp CmpOp.Eq (Value.ref _) (Value.ref _)) _ _ _); k_dflt (refine' eq_codes ?zk19 ?zk29 ?zk39 ?zk49 ?zk59 ?zk69 ?_; (case zk19 => k_asm); (case zk29 => k_mem); (case zk39 => k_mem); (case zk49 => with_reducible assumption); (case zk59 => with_reducible assumption); (case zk69 => ktr_units)))) | (with_reducible ((with_reducible show wpAny _ _ (compareOp CmpOp.Gt (Value.ref _) (Value.ref _)) _ _ _); k_dflt (refine' gt_codes ?zk19 ?zk29 ?zk39 ?zk49 ?zk59 ?zk69 ?_; (case zk19 => k_asm); (case zk29 => k_mem); (case zk39 => k_mem); (case zk49 => with_reducible assumption); (case zk59 => with_reducible assumption); (case zk69 => ktr_units)))) | (with_reducible ((with_reducible show wpAny _ _ (subscriptTail _ _ _ _) _ _ _); (with_reducible show wpAny _ _ (subscriptTail _ _ (Value.ref _) (Value.int _ _)) _ _ _); k_dflt (refine' item_codes ?zk19 ?zk29 ?zk39 ?zk49 ?zk59 ?_; (case zk19 => k_asm); (case zk29 => (repeat (first | exact List.Mem.head _ | apply List.Mem.tail))); (case zk59 => with_reducible assumption); (case zk39 => omega); (case zk49 => omega)))) | (with_reducible ((with_reducible show wpAny _ _ (call (Value.ref _) _ _) _ _ _); (k_dflt (first | (refine' cvUse (f_coll _ _ _ _ _ _ _ _) ?zB9 ?zF9 ?zX9 ?zN9 ?zT9 ?zhk9 ?zhy9 ?zhd9 ?zhu9 ?_; (case zF9 => k_asm); (case zT9 => k_asm); (case zB9 => k_asm); (case zX9 => k_asm); (case zN9 => k_asm); (case zhk9 => first | exact rfl | assumption); (case zhy9 => first | exact trivial | (dsimp only; (repeat' (refine And.intro ?_ ?_)) <;> first | is_list | l_ints | (with_reducible assumption) | omega | decide | kt_len)); (case zhd9 => ktr_room); (case zhu9 => ktr_units); intro v' h' tk' F' N' k' p'; (obtain ⟨tk9', p'⟩ := p'; subst p')))); (try dsimp only); (try k_fold))) | (with_reducible ((with_reducible show wpAny _ _ (eval (PySem.Expr.Constant _ _ _) _) _ _ _); (with_reducible show wpAny _ _ (eval (PySem.Expr.Constant (PySem.Const.bool false) _ _) _) _ _ _); refine Hold.out ?_)) | (with_reducible ((with_reducible show wpAny _ _ (loadName _ _) _ _ _); k_dflt (refine' loadX_L ?zF9 ?zv9 ?_ ?za9 ?zb9; (case zF9 => k_asm); (case za9 => rfl); (case zb9 => rfl); (case zv9 => first | with_reducible assumption | ((try dsimp only); first | with_reducible assumption | (refine (if_neg (by decide)).trans ?_; with_reducible assumption) | (refine (if_neg (by decide)).trans ((if_neg (by decide)).trans ?_); with_reducible assumption) | (refine (if_neg (by decide)).trans ((if_neg (by decide)).trans ((if_neg (by decide)).trans ?_)); with_reducible assumption))); k_whole))) | (with_reducible ((with_reducible show LCg.FinA _ _ _ _ _ _ _); (unfold LCg.FinA); intro D' h' tk' F' N' o1'; (refine nesSplit (off1K o1') ?_; dsimp only [NesArrow]; intros; (try (refine nesArrow_intro ?_; intro _))); clear o1'; (try simp only [List.nil_append, List.cons_append] at N'); (try dsimp only))) | (with_reducible ((with_reducible show LCg.FinE _ _ _ _ _ _ _); (unfold LCg.FinE); intro D' h' tk' F' N' o1'; (refine nesSplit (off1K o1') ?_; dsimp only [NesArrow]; intros; (try (refine nesArrow_intro ?_; intro _))); clear o1'; (try simp only [List.nil_append, List.cons_append] at N'); (try dsimp only))) | (with_reducible ((with_reducible show wpAny _ _ (exec (Stmt.For _ _ _ _ _) _) _ _ _); (rename Fr _ _ _ _ => lF'); (with_unfolding_all refine' For_turns lF' ?_ ?zhs99 ?zhE99; (case zhs99 => (intro _; rfl)); (case zhE99 => assumption); k_whole))) | (with_reducible ((with_reducible show wpAny _ _ (eval (PySem.Expr.Name _ _) _) _ _ _); k_dflt (refine' nameX_L ?zF9 ?zv9 ?_ ?za9 ?zb9; (case zF9 => k_asm); (case za9 => rfl); (case zb9 => rfl); (case zv9 => first | with_reducible assumption | ((try dsimp only); first | with_reducible assumption | (refine (if_neg (by decide)).trans ?_; with_reducible assumption) | (refine (if_neg (by decide)).trans ((if_neg (by decide)).trans ?_); with_reducible assumption) | (refine (if_neg (by decide)).trans ((if_neg (by decide)).trans ((if_neg (by decide)).trans ?_)); with_reducible assumption))); k_whole))) | (with_reducible ((with_reducible show wpAny _ _ (subscriptTail _ _ _ _) _ _ _); (with_reducible show wpAny _ _ (subscriptTail _ _ (Value.ref _) (Value.int _ _)) _ _ _); (fail_if_success (with_reducible show wpAny _ _ (subscriptTail (PySem.Expr.Name _ _) _ _ _) _ _ _)); k_dflt (refine kba_turn (value' := PySem.Expr.Name (PySem.Str.ofString "_") ⟨0, 0, 0, 0⟩) (fun _ => rfl) ?_))) | walk1 | (dsimp only; walk1) | (leave1; walk_say "STEP leave1"; try dsimp only) | fail "no step"))
  refine Hold.mk ?_
  rename_i lrk hh1 A1 hh2 o8n FF NN d8n hh3 tk3 t3 u3 v3 r3 F3 N3 k3
  have hinr : ∀ p ∈ inn, p.1 ≠ lrk := nesKTo (ltK A1.2.2.2.2.2.2.2.2.2.2.2.2.2.2.2.2)
  clear hh1 k3 NN FF 
  refine turns_rangeQ (L := L) (n := 8) (fun i m₁ nx => ∀ G9 : Prop, (∀ (o2' : Obj) (kv : Option Value) (rkA : Array Value) (n5 : Nat), nx = (lrk, W.listOf rkA n5) :: (ltb, W.listOf tabA n1) :: (lle, W.listOf ledA n2) :: (lla, W.listOf labA n3) :: (lco, W.listOf codA n4) :: (lr, lst rvs) :: (l, W.listOf cvs.toArray 0) :: (L + 1 + 1 + 1 + 1 + 1 + 1 + 1 + 1 + 1 + 1, o10) :: (L + 1 + 1 + 1 + 1 + 1 + 1 + 1 + 1 + 1, o9) :: (L + 1 + 1 + 1 + 1 + 1 + 1 + 1 + 1, o8n) :: (L + 1 + 1 + 1 + 1 + 1 + 1 + 1, o7) :: (L + 1 + 1 + 1 + 1 + 1 + 1, o6) :: (L + 1 + 1 + 1 + 1 + 1, o5) :: (L + 1 + 1 + 1 + 1, o4) :: (L + 1 + 1 + 1, o3) :: (L + 1 + 1, o2') :: (L + 1, o1) :: inn → o2'.data = .cell kv → m₁ (PySem.Str.ofString "right") = some (.bool true) → m₁ (PySem.Str.ofString "labels") = some (.ref lla) → rkA.size = i → IntsAre rkA.toList ((List.range i).map (rankV cs)) → G9) → G9) rfl (by rfl) (by k_asm) ?hsm ?hn (by k_asm) (by k_asm) ?h0 ?turn ?done
  case hsm => decide
  case hn => rfl
  case h0 => (intro G9 k9; exact k9 o2 kv #[] 0 rfl d2 hrt hls rfl .nil)
  case turn =>
    clear r3
    intro i t m₁ nx h tk I oI Qz hi' hJ hne F' N' hQz
    refine hJ _ ?_
    intro o2' kv' rkA n5 e94 d2' hr₁ hl₁ z5 hR
    subst e94
    have hk0 : (0 : Int) + (i : Int) = (i : Int) := by omega
    rw [hk0]
    clear hk0
    refine lab_atK hL hi' ?_
    intro tLi hLi
    refine cod_atK hC hi' ?_
    intro ci yi hCi hMi hIi
    have nkI2 : NeK (L + 1 + 1) I := ⟨hne (L + 1 + 1, o2') (by repeat (first | exact List.Mem.head _ | apply List.Mem.tail))⟩
    have nkIr : NeK lrk I := ⟨hne _ (.head _)⟩
    have hne' := Kept.mk hne
    clear hne
    (repeat' (first | (k_unfold; (try dsimp only)) | (k_end; wrow_close) | (with_reducible ((with_reducible show wpAny _ _ (compareOp CmpOp.Eq (Value.ref _) (Value.ref _)) _ _ _); k_dflt (refine' eq_codes ?zk19 ?zk29 ?zk39 ?zk49 ?zk59 ?zk69 ?_; (case zk19 => k_asm); (case zk29 => k_mem); (case zk39 => k_mem); (case zk49 => with_reducible assumption); (case zk59 => with_reducible assumption); (case zk69 => ktr_units)))) | (with_reducible ((with_reducible show wpAny _ _ (compareOp CmpOp.Gt (Value.ref _) (Value.ref _)) _ _ _); k_dflt (refine' gt_codes ?zk19 ?zk29 ?zk39 ?zk49 ?zk59 ?zk69 ?_; (case zk19 => k_asm); (case zk29 => k_mem); (case zk39 => k_mem); (case zk49 => with_reducible assumption); (case zk59 => with_reducible assumption); (case zk69 => ktr_units)))) | (with_reducible ((with_reducible show wpAny _ _ (subscriptTail _ _ _ _) _ _ _); (with_reducible show wpAny _ _ (subscriptTail _ _ (Value.ref _) (Value.int _ _)) _ _ _); k_dflt (refine' item_codes ?zk19 ?zk29 ?zk39 ?zk49 ?zk59 ?_; (case zk19 => k_asm); (case zk29 => (repeat (first | exact List.Mem.head _ | apply List.Mem.tail))); (case zk59 => with_reducible assumption); (case zk39 => omega); (case zk49 => omega)))) | (with_reducible ((with_reducible show wpAny _ _ (call (Value.ref _) _ _) _ _ _); (k_dflt (first | (refine' cvUse (f_coll _ _ _ _ _ _ _ _) ?zB9 ?zF9 ?zX9 ?zN9 ?zT9 ?zhk9 ?zhy9 ?zhd9 ?zhu9 ?_; (case zF9 => k_asm); (case zT9 => k_asm); (case zB9 => k_asm); (case zX9 => k_asm); (case zN9 => k_asm); (case zhk9 => first | exact rfl | assumption); (case zhy9 => first | exact trivial | (dsimp only; (repeat' (refine And.intro ?_ ?_)) <;> first | is_list | l_ints | (with_reducible assumption) | omega | decide | kt_len)); (case zhd9 => ktr_room); (case zhu9 => ktr_units); intro v' h' tk' F' N' k' p'; (obtain ⟨tk9', p'⟩ := p'; subst p')))); (try dsimp only); (try k_fold))) | (with_reducible ((with_reducible show wpAny _ _ (eval (PySem.Expr.Constant _ _ _) _) _ _ _); (with_reducible show wpAny _ _ (eval (PySem.Expr.Constant (PySem.Const.bool false) _ _) _) _ _ _); refine Hold.out ?_)) | (with_reducible ((with_reducible show wpAny _ _ (loadName _ _) _ _ _); k_dflt (refine' loadX_L ?zF9 ?zv9 ?_ ?za9 ?zb9; (case zF9 => k_asm); (case za9 => rfl); (case zb9 => rfl); (case zv9 => first | with_reducible assumption | ((try dsimp only); first | with_reducible assumption | (refine (if_neg (by decide)).trans ?_; with_reducible assumption) | (refine (if_neg (by decide)).trans ((if_neg (by decide)).trans ?_); with_reducible assumption) | (refine (if_neg (by decide)).trans ((if_neg (by decide)).trans ((if_neg (by decide)).trans ?_)); with_reducible assumption))); k_whole))) | (with_reducible ((with_reducible show LCg.FinA _ _ _ _ _ _ _); (unfold LCg.FinA); intro D' h' tk' F' N' o1'; (refine nesSplit (off1K o1') ?_; dsimp only [NesArrow]; intros; (try (refine nesArrow_intro ?_; intro _))); clear o1'; (try simp only [List.nil_append, List.cons_append] at N'); (try dsimp only))) | (with_reducible ((with_reducible show LCg.FinE _ _ _ _ _ _ _); (unfold LCg.FinE); intro D' h' tk' F' N' o1'; (refine nesSplit (off1K o1') ?_; dsimp only [NesArrow]; intros; (try (refine nesArrow_intro ?_; intro _))); clear o1'; (try simp only [List.nil_append, List.cons_append] at N'); (try dsimp only))) | (with_reducible ((with_reducible show wpAny _ _ (exec (Stmt.For _ _ _ _ _) _) _ _ _); (rename Fr _ _ _ _ => lF'); (with_unfolding_all refine' For_turns lF' ?_ ?zhs99 ?zhE99; (case zhs99 => (intro _; rfl)); (case zhE99 => assumption); k_whole))) | (with_reducible ((with_reducible show wpAny _ _ (eval (PySem.Expr.Name _ _) _) _ _ _); k_dflt (refine' nameX_L ?zF9 ?zv9 ?_ ?za9 ?zb9; (case zF9 => k_asm); (case za9 => rfl); (case zb9 => rfl); (case zv9 => first | with_reducible assumption | ((try dsimp only); first | with_reducible assumption | (refine (if_neg (by decide)).trans ?_; with_reducible assumption) | (refine (if_neg (by decide)).trans ((if_neg (by decide)).trans ?_); with_reducible assumption) | (refine (if_neg (by decide)).trans ((if_neg (by decide)).trans ((if_neg (by decide)).trans ?_)); with_reducible assumption))); k_whole))) | (with_reducible ((with_reducible show wpAny _ _ (subscriptTail _ _ _ _) _ _ _); (with_reducible show wpAny _ _ (subscriptTail _ _ (Value.ref _) (Value.int _ _)) _ _ _); (fail_if_success (with_reducible show wpAny _ _ (subscriptTail (PySem.Expr.Name _ _) _ _ _) _ _ _)); k_dflt (refine kba_turn (value' := PySem.Expr.Name (PySem.Str.ofString "_") ⟨0, 0, 0, 0⟩) (fun _ => rfl) ?_))) | walk1 | (dsimp only; walk1) | (leave1; walk_say "STEP leave1"; try dsimp only) | fail "no step"))
    refine Hold.mk ?_
    rename_i hb1 o2n d2n hb2 FF2 NN2 hb3 tkb tb ub vb rb Fb Nb kb
    clear kb NN2 FF2
    refine turns_rangeQ (L := L) (n := 8) (fun j m₂ nx₂ => ∀ G9 : Prop, (nx₂ = (I, oI) :: (lrk, W.listOf rkA n5) :: (ltb, W.listOf tabA n1) :: (lle, W.listOf ledA n2) :: (lla, W.listOf labA n3) :: (lco, W.listOf codA n4) :: (lr, lst rvs) :: (l, W.listOf cvs.toArray 0) :: (L + 1 + 1 + 1 + 1 + 1 + 1 + 1 + 1 + 1 + 1, o10) :: (L + 1 + 1 + 1 + 1 + 1 + 1 + 1 + 1 + 1, o9) :: (L + 1 + 1 + 1 + 1 + 1 + 1 + 1 + 1, o8n) :: (L + 1 + 1 + 1 + 1 + 1 + 1 + 1, o7) :: (L + 1 + 1 + 1 + 1 + 1 + 1, o6) :: (L + 1 + 1 + 1 + 1 + 1, o5) :: (L + 1 + 1 + 1 + 1, o4) :: (L + 1 + 1 + 1, o3) :: (L + 1 + 1, o2n) :: (L + 1, o1) :: inn → m₂ (PySem.Str.ofString "right") = some (.bool true) → m₂ (PySem.Str.ofString "labels") = some (.ref lla) → ∀ tq, m₂ (PySem.Str.ofString "less") = some (.int (lessV cs i j) tq) → G9) → G9) rfl (by rfl) (by k_asm) ?hsmb ?hnb (by k_asm) (by k_asm) ?h0b ?turnb ?doneb
    case hsmb => decide
    case hnb => rfl
    case h0b => (intro G9 k9; exact k9 rfl ((if_neg (by decide)).trans hr₁) ((if_neg (by decide)).trans hl₁) _ (if_pos rfl))
    case turnb =>
      clear rb
      intro j t₂ m₂ nx₂ h₂ tk₂ I₂ oI₂ Qz₂ hj hJ₂ hne₂ F₂ N₂ hQz₂
      refine hJ₂ _ ?_
      intro e90 hr₂ hl₂ tq hq₂
      subst e90
      have hk0 : (0 : Int) + (j : Int) = (j : Int) := by omega
      rw [hk0]
      clear hk0
      refine lab_atK hL hj ?_
      intro tLj hLj
      refine cod_atK hC hj ?_
      intro cj yj hCj hMj hIj
      replace hne₂ := Kept.mk hne₂
      (repeat' (first | (k_unfold; (try dsimp only)) | (k_end; wrow_close) | (with_reducible ((with_reducible show wpAny _ _ (compareOp CmpOp.Eq (Value.ref _) (Value.ref _)) _ _ _); k_dflt (refine' eq_codes ?zk19 ?zk29 ?zk39 ?zk49 ?zk59 ?zk69 ?_; (case zk19 => k_asm); (case zk29 => k_mem); (case zk39 => k_mem); (case zk49 => with_reducible assumption); (case zk59 => with_reducible assumption); (case zk69 => ktr_units)))) | (with_reducible ((with_reducible show wpAny _ _ (compareOp CmpOp.Gt (Value.ref _) (Value.ref _)) _ _ _); k_dflt (refine' gt_codes ?zk19 ?zk29 ?zk39 ?zk49 ?zk59 ?zk69 ?_; (case zk19 => k_asm); (case zk29 => k_mem); (case zk39 => k_mem); (case zk49 => with_reducible assumption); (case zk59 => with_reducible assumption); (case zk69 => ktr_units)))) | (with_reducible ((with_reducible show wpAny _ _ (subscriptTail _ _ _ _) _ _ _); (with_reducible show wpAny _ _ (subscriptTail _ _ (Value.ref _) (Value.int _ _)) _ _ _); k_dflt (refine' item_codes ?zk19 ?zk29 ?zk39 ?zk49 ?zk59 ?_; (case zk19 => k_asm); (case zk29 => (repeat (first | exact List.Mem.head _ | apply List.Mem.tail))); (case zk59 => with_reducible assumption); (case zk39 => omega); (case zk49 => omega)))) | (with_reducible ((with_reducible show wpAny _ _ (call (Value.ref _) _ _) _ _ _); (k_dflt (first | (refine' cvUse (f_coll _ _ _ _ _ _ _ _) ?zB9 ?zF9 ?zX9 ?zN9 ?zT9 ?zhk9 ?zhy9 ?zhd9 ?zhu9 ?_; (case zF9 => k_asm); (case zT9 => k_asm); (case zB9 => k_asm); (case zX9 => k_asm); (case zN9 => k_asm); (case zhk9 => first | exact rfl | assumption); (case zhy9 => first | exact trivial | (dsimp only; (repeat' (refine And.intro ?_ ?_)) <;> first | is_list | l_ints | (with_reducible assumption) | omega | decide | kt_len)); (case zhd9 => ktr_room); (case zhu9 => ktr_units); intro v' h' tk' F' N' k' p'; (obtain ⟨tk9', p'⟩ := p'; subst p')))); (try dsimp only); (try k_fold))) | (with_reducible ((with_reducible show wpAny _ _ (eval (PySem.Expr.Constant _ _ _) _) _ _ _); (with_reducible show wpAny _ _ (eval (PySem.Expr.Constant (PySem.Const.bool false) _ _) _) _ _ _); refine Hold.out ?_)) | (with_reducible ((with_reducible show wpAny _ _ (loadName _ _) _ _ _); k_dflt (refine' loadX_L ?zF9 ?zv9 ?_ ?za9 ?zb9; (case zF9 => k_asm); (case za9 => rfl); (case zb9 => rfl); (case zv9 => first | with_reducible assumption | ((try dsimp only); first | with_reducible assumption | (refine (if_neg (by decide)).trans ?_; with_reducible assumption) | (refine (if_neg (by decide)).trans ((if_neg (by decide)).trans ?_); with_reducible assumption) | (refine (if_neg (by decide)).trans ((if_neg (by decide)).trans ((if_neg (by decide)).trans ?_)); with_reducible assumption))); k_whole))) | (with_reducible ((with_reducible show LCg.FinA _ _ _ _ _ _ _); (unfold LCg.FinA); intro D' h' tk' F' N' o1'; (refine nesSplit (off1K o1') ?_; dsimp only [NesArrow]; intros; (try (refine nesArrow_intro ?_; intro _))); clear o1'; (try simp only [List.nil_append, List.cons_append] at N'); (try dsimp only))) | (with_reducible ((with_reducible show LCg.FinE _ _ _ _ _ _ _); (unfold LCg.FinE); intro D' h' tk' F' N' o1'; (refine nesSplit (off1K o1') ?_; dsimp only [NesArrow]; intros; (try (refine nesArrow_intro ?_; intro _))); clear o1'; (try simp only [List.nil_append, List.cons_append] at N'); (try dsimp only))) | (with_reducible ((with_reducible show wpAny _ _ (exec (Stmt.For _ _ _ _ _) _) _ _ _); (rename Fr _ _ _ _ => lF'); (with_unfolding_all refine' For_turns lF' ?_ ?zhs99 ?zhE99; (case zhs99 => (intro _; rfl)); (case zhE99 => assumption); k_whole))) | (with_reducible ((with_reducible show wpAny _ _ (eval (PySem.Expr.Name _ _) _) _ _ _); k_dflt (refine' nameX_L ?zF9 ?zv9 ?_ ?za9 ?zb9; (case zF9 => k_asm); (case za9 => rfl); (case zb9 => rfl); (case zv9 => first | with_reducible assumption | ((try dsimp only); first | with_reducible assumption | (refine (if_neg (by decide)).trans ?_; with_reducible assumption) | (refine (if_neg (by decide)).trans ((if_neg (by decide)).trans ?_); with_reducible assumption) | (refine (if_neg (by decide)).trans ((if_neg (by decide)).trans ((if_neg (by decide)).trans ?_)); with_reducible assumption))); k_whole))) | (with_reducible ((with_reducible show wpAny _ _ (subscriptTail _ _ _ _) _ _ _); (with_reducible show wpAny _ _ (subscriptTail _ _ (Value.ref _) (Value.int _ _)) _ _ _); (fail_if_success (with_reducible show wpAny _ _ (subscriptTail (PySem.Expr.Name _ _) _ _ _) _ _ _)); k_dflt (refine kba_turn (value' := PySem.Expr.Name (PySem.Str.ofString "_") ⟨0, 0, 0, 0⟩) (fun _ => rfl) ?_))) | walk1 | (dsimp only; walk1) | (leave1; walk_say "STEP leave1"; try dsimp only) | fail "no step"))
      all_goals first
        | exact Hold.mk (absurd (show collV (labF cs j) (labF cs i) = 1 from coll_gt (xs := codF cs j) (ys := codF cs i) (by assumption)) (by assumption))
        | exact Hold.mk (absurd (show collV (labF cs j) (labF cs i) = 0 from coll_eq (xs := codF cs j) (ys := codF cs i) (by assumption)) (by assumption))
        | exact Hold.mk (absurd (show collV (labF cs j) (labF cs i) = -1 from coll_lt (xs := codF cs j) (ys := codF cs i) (by assumption) (by assumption)) (by assumption))
        | skip
      all_goals dsimp only
      all_goals (refine' hQz₂ _ _ _ _ ?za ?zb ?zc ?_; (case za => assumption); (case zb => assumption); (case zc => exact hne₂.out); intro G9 k9; refine' k9 rfl ?zd ?ze _ ?zf; (case zd => (first | with_reducible assumption | ((try dsimp only); first | with_reducible assumption | (refine (if_neg (by decide)).trans ?_; with_reducible assumption) | (refine (if_neg (by decide)).trans ((if_neg (by decide)).trans ?_); with_reducible assumption) | (refine (if_neg (by decide)).trans ((if_neg (by decide)).trans ((if_neg (by decide)).trans ?_)); with_reducible assumption)))); (case ze => (first | with_reducible assumption | ((try dsimp only); first | with_reducible assumption | (refine (if_neg (by decide)).trans ?_; with_reducible assumption) | (refine (if_neg (by decide)).trans ((if_neg (by decide)).trans ?_); with_reducible assumption) | (refine (if_neg (by decide)).trans ((if_neg (by decide)).trans ((if_neg (by decide)).trans ?_)); with_reducible assumption)))); (case zf => (rw [lessV_succ]; first | (rw [if_pos (show ordV cs j i = -1 from by assumption)]; exact if_pos rfl) | (rw [if_neg (show ¬ ordV cs j i = -1 from by assumption)]; exact if_pos rfl))))
    case doneb =>
      intro m₂ nx₂ h₂ tk₂ hJ₂ F₂ N₂
      refine hJ₂ _ ?_
      intro e90 hr₂ hl₂ tq hq₂
      subst e90
      have hlen := labF_len cs i
      (repeat' (first | (k_unfold; (try dsimp only)) | (k_end; wrow_close) | (with_reducible ((with_reducible show wpAny _ _ (compareOp CmpOp.Eq (Value.ref _) (Value.ref _)) _ _ _); k_dflt (refine' eq_codes ?zk19 ?zk29 ?zk39 ?zk49 ?zk59 ?zk69 ?_; (case zk19 => k_asm); (case zk29 => k_mem); (case zk39 => k_mem); (case zk49 => with_reducible assumption); (case zk59 => with_reducible assumption); (case zk69 => ktr_units)))) | (with_reducible ((with_reducible show wpAny _ _ (compareOp CmpOp.Gt (Value.ref _) (Value.ref _)) _ _ _); k_dflt (refine' gt_codes ?zk19 ?zk29 ?zk39 ?zk49 ?zk59 ?zk69 ?_; (case zk19 => k_asm); (case zk29 => k_mem); (case zk39 => k_mem); (case zk49 => with_reducible assumption); (case zk59 => with_reducible assumption); (case zk69 => ktr_units)))) | (with_reducible ((with_reducible show wpAny _ _ (subscriptTail _ _ _ _) _ _ _); (with_reducible show wpAny _ _ (subscriptTail _ _ (Value.ref _) (Value.int _ _)) _ _ _); k_dflt (refine' item_codes ?zk19 ?zk29 ?zk39 ?zk49 ?zk59 ?_; (case zk19 => k_asm); (case zk29 => (repeat (first | exact List.Mem.head _ | apply List.Mem.tail))); (case zk59 => with_reducible assumption); (case zk39 => omega); (case zk49 => omega)))) | (with_reducible ((with_reducible show wpAny _ _ (call (Value.ref _) _ _) _ _ _); (k_dflt (first | (refine' cvUse (f_coll _ _ _ _ _ _ _ _) ?zB9 ?zF9 ?zX9 ?zN9 ?zT9 ?zhk9 ?zhy9 ?zhd9 ?zhu9 ?_; (case zF9 => k_asm); (case zT9 => k_asm); (case zB9 => k_asm); (case zX9 => k_asm); (case zN9 => k_asm); (case zhk9 => first | exact rfl | assumption); (case zhy9 => first | exact trivial | (dsimp only; (repeat' (refine And.intro ?_ ?_)) <;> first | is_list | l_ints | (with_reducible assumption) | omega | decide | kt_len)); (case zhd9 => ktr_room); (case zhu9 => ktr_units); intro v' h' tk' F' N' k' p'; (obtain ⟨tk9', p'⟩ := p'; subst p')))); (try dsimp only); (try k_fold))) | (with_reducible ((with_reducible show wpAny _ _ (eval (PySem.Expr.Constant _ _ _) _) _ _ _); (with_reducible show wpAny _ _ (eval (PySem.Expr.Constant (PySem.Const.bool false) _ _) _) _ _ _); refine Hold.out ?_)) | (with_reducible ((with_reducible show wpAny _ _ (loadName _ _) _ _ _); k_dflt (refine' loadX_L ?zF9 ?zv9 ?_ ?za9 ?zb9; (case zF9 => k_asm); (case za9 => rfl); (case zb9 => rfl); (case zv9 => first | with_reducible assumption | ((try dsimp only); first | with_reducible assumption | (refine (if_neg (by decide)).trans ?_; with_reducible assumption) | (refine (if_neg (by decide)).trans ((if_neg (by decide)).trans ?_); with_reducible assumption) | (refine (if_neg (by decide)).trans ((if_neg (by decide)).trans ((if_neg (by decide)).trans ?_)); with_reducible assumption))); k_whole))) | (with_reducible ((with_reducible show LCg.FinA _ _ _ _ _ _ _); (unfold LCg.FinA); intro D' h' tk' F' N' o1'; (refine nesSplit (off1K o1') ?_; dsimp only [NesArrow]; intros; (try (refine nesArrow_intro ?_; intro _))); clear o1'; (try simp only [List.nil_append, List.cons_append] at N'); (try dsimp only))) | (with_reducible ((with_reducible show LCg.FinE _ _ _ _ _ _ _); (unfold LCg.FinE); intro D' h' tk' F' N' o1'; (refine nesSplit (off1K o1') ?_; dsimp only [NesArrow]; intros; (try (refine nesArrow_intro ?_; intro _))); clear o1'; (try simp only [List.nil_append, List.cons_append] at N'); (try dsimp only))) | (with_reducible ((with_reducible show wpAny _ _ (exec (Stmt.For _ _ _ _ _) _) _ _ _); (rename Fr _ _ _ _ => lF'); (with_unfolding_all refine' For_turns lF' ?_ ?zhs99 ?zhE99; (case zhs99 => (intro _; rfl)); (case zhE99 => assumption); k_whole))) | (with_reducible ((with_reducible show wpAny _ _ (eval (PySem.Expr.Name _ _) _) _ _ _); k_dflt (refine' nameX_L ?zF9 ?zv9 ?_ ?za9 ?zb9; (case zF9 => k_asm); (case za9 => rfl); (case zb9 => rfl); (case zv9 => first | with_reducible assumption | ((try dsimp only); first | with_reducible assumption | (refine (if_neg (by decide)).trans ?_; with_reducible assumption) | (refine (if_neg (by decide)).trans ((if_neg (by decide)).trans ?_); with_reducible assumption) | (refine (if_neg (by decide)).trans ((if_neg (by decide)).trans ((if_neg (by decide)).trans ?_)); with_reducible assumption))); k_whole))) | (with_reducible ((with_reducible show wpAny _ _ (subscriptTail _ _ _ _) _ _ _); (with_reducible show wpAny _ _ (subscriptTail _ _ (Value.ref _) (Value.int _ _)) _ _ _); (fail_if_success (with_reducible show wpAny _ _ (subscriptTail (PySem.Expr.Name _ _) _ _ _) _ _ _)); k_dflt (refine kba_turn (value' := PySem.Expr.Name (PySem.Str.ofString "_") ⟨0, 0, 0, 0⟩) (fun _ => rfl) ?_))) | walk1 | (dsimp only; walk1) | (leave1; walk_say "STEP leave1"; try dsimp only) | fail "no step"))
      all_goals first
        | exact Hold.mk (absurd (slice_coll hlen.1) (by assumption))
        | skip
      try dsimp only
      refine' hQz _ _ _ _ ?zb1 (newsDrop2 ?zb2) ?zb3 ?_
      case zb1 => assumption
      case zb2 => assumption
      case zb3 => exact neMap (l := [(lrk, W.listOf rkA n5), (ltb, W.listOf tabA n1), (lle, W.listOf ledA n2), (lla, W.listOf labA n3), (lco, W.listOf codA n4), (lr, lst rvs), (l, W.listOf cvs.toArray 0), (L + 1 + 1 + 1 + 1 + 1 + 1 + 1 + 1 + 1 + 1, o10), (L + 1 + 1 + 1 + 1 + 1 + 1 + 1 + 1 + 1, o9), (L + 1 + 1 + 1 + 1 + 1 + 1 + 1 + 1, o8n), (L + 1 + 1 + 1 + 1 + 1 + 1 + 1, o7), (L + 1 + 1 + 1 + 1 + 1 + 1, o6), (L + 1 + 1 + 1 + 1 + 1, o5), (L + 1 + 1 + 1 + 1, o4), (L + 1 + 1 + 1, o3), (L + 1 + 1, o2'), (L + 1, o1)]) (l' := [(lrk, W.listOf (rkA.push (.int (lessV cs i 8) tq)) (n5 + 1)), (ltb, W.listOf tabA n1), (lle, W.listOf ledA n2), (lla, W.listOf labA n3), (lco, W.listOf codA n4), (lr, lst rvs), (l, W.listOf cvs.toArray 0), (L + 1 + 1 + 1 + 1 + 1 + 1 + 1 + 1 + 1 + 1, o10), (L + 1 + 1 + 1 + 1 + 1 + 1 + 1 + 1 + 1, o9), (L + 1 + 1 + 1 + 1 + 1 + 1 + 1 + 1, o8n), (L + 1 + 1 + 1 + 1 + 1 + 1 + 1, o7), (L + 1 + 1 + 1 + 1 + 1 + 1, o6), (L + 1 + 1 + 1 + 1 + 1, o5), (L + 1 + 1 + 1 + 1, o4), (L + 1 + 1 + 1, o3), (L + 1 + 1, o2n), (L + 1, o1)]) (inn := inn) hne'.out rfl
      intro G9 k9
      refine' k9 _ _ _ _ rfl ?zb4 ?zb5 ?zb6 ?zb7 ?zb8
      case zb4 => assumption
      case zb5 => assumption
      case zb6 => assumption
      case zb7 => (rw [Array.size_push, z5])
      case zb8 => exact ints_snoc (f := rankV cs) hR
  case done =>
    intro m₁ nx h tk hJ F' N'
    refine hJ _ ?_
    intro o2' kv' rkA n5 e94 d2' hr₁ hl₁ z5 hR
    subst e94
    refine wpAny_execs_nil ?_
    refine use _ _ _ lrk o2' o8n _ _ _ F' N' d2' d8n hr₁ z5 hR ?_
    exact ltK A1
end
end
-- KLG
noncomputable section
open PySem PySem.W PyProof.Rows PySem.Calls PySem.Spec
set_option Elab.async false
set_option maxRecDepth 100000
set_option maxHeartbeats 8000000
set_option linter.unusedVariables false
open LCg LCt
theorem pl_cases (q : Nat → Bool) (F : List Int → Prop) (h : ∀ a b c d : Bool, F (((if a then [(0 : Int)] else []) ++ ((if b then [1] else []) ++ ((if c then [2] else []) ++ (if d then [3] else [])))))) : F (((List.range 4).filter q).map (fun (p : Nat) => (0 : Int) + (p : Int))) := by
  have e : ((List.range 4).filter q).map (fun (p : Nat) => (0 : Int) + (p : Int)) = ((if q 0 then [(0 : Int)] else []) ++ ((if q 1 then [1] else []) ++ ((if q 2 then [2] else []) ++ (if q 3 then [3] else [])))) := by
    have e4 : List.range 4 = [0, 1, 2, 3] := rfl
    rw [e4]
    cases h0 : q 0 <;> cases h1 : q 1 <;> cases h2 : q 2 <;> cases h3 : q 3 <;> simp [List.filter, h0, h1, h2, h3]
  rw [e]; exact h _ _ _ _
theorem bd_of (l : List Int) (h : ∀ v ∈ l, 0 ≤ v ∧ v < 4) (k : Nat) : 0 ≤ l.getD k 0 ∧ l.getD k 0 < 4 := by
  rw [List.getD_eq_getElem?_getD]
  cases e : l[k]? with
  | none => exact ⟨Int.le_refl 0, by decide⟩
  | some x => exact h x (List.mem_of_getElem? e)
theorem pl_bd (q : Nat → Bool) : ∀ k : Nat, 0 ≤ (((List.range 4).filter q).map (fun (p : Nat) => (0 : Int) + (p : Int))).getD k 0 ∧ (((List.range 4).filter q).map (fun (p : Nat) => (0 : Int) + (p : Int))).getD k 0 < 4 := by
  refine bd_of _ ?_
  intro v hv
  obtain ⟨p, hp, rfl⟩ := List.mem_map.mp hv
  have := List.mem_range.mp (List.mem_filter.mp hp).1
  omega
theorem sum_b : ∀ a b c d : Bool, ((((if a then [(0 : Int)] else []) ++ ((if b then [1] else []) ++ ((if c then [2] else []) ++ (if d then [3] else [])))).map fun (x : Int) => (1 : Int) * 2 ^ x.toNat).sum) = mskB a b c d := by decide +kernel
theorem pl_sum (q : Nat → Bool) : ((((List.range 4).filter q).map (fun (p : Nat) => (0 : Int) + (p : Int))).map fun (x : Int) => (1 : Int) * 2 ^ x.toNat).sum = mskB (q 0) (q 1) (q 2) (q 3) := by
  have e : ((List.range 4).filter q).map (fun (p : Nat) => (0 : Int) + (p : Int)) = ((if q 0 then [(0 : Int)] else []) ++ ((if q 1 then [1] else []) ++ ((if q 2 then [2] else []) ++ (if q 3 then [3] else [])))) := by
    have e4 : List.range 4 = [0, 1, 2, 3] := rfl
    rw [e4]
    cases h0 : q 0 <;> cases h1 : q 1 <;> cases h2 : q 2 <;> cases h3 : q 3 <;> simp [List.filter, h0, h1, h2, h3]
  rw [e]; exact sum_b _ _ _ _
section
theorem law_G (w : World) (mean : ExcName → Option Value) (mg mb : PySem.Str → Option Value) {g h : Heap} {L f : Addr} {cdv : Value} {m : PySem.Str → Option Value} {gens : Array GenState} {drawn : Drawn} {toks : Nat} {os : OsState} {Q : Flow → Shared → Prop} {E : Value → Shared → Prop} {ltb lle lla lco lr l lrk : Addr} {o1 : Obj} {o2 : Obj} {o3 : Obj} {o4 : Obj} {o5 : Obj} {o6 : Obj} {o7 : Obj} {o8 : Obj} {o9 : Obj} {o10 : Obj} {kv9 : Option Value} {cvs rvs tvs lvs kvs : List Value} {tb rd rv : List Int} {labA codA : Array Value} {n1 n2 n3 n4 n5 : Nat} {inn : List (Addr × Obj)}
   (B : Below callerA g [] g) (X : (KF w.params).In g) (T : Top vw LW mean mg mb g) (F : Fr g L h m) (N : News g L h ((lrk, W.listOf kvs.toArray n5) :: (ltb, W.listOf tvs.toArray n1) :: (lle, W.listOf lvs.toArray n2) :: (lla, W.listOf labA n3) :: (lco, W.listOf codA n4) :: (lr, lst rvs) :: (l, W.listOf cvs.toArray 0) :: (L + 1 + 1 + 1 + 1 + 1 + 1 + 1 + 1 + 1 + 1, o10) :: (L + 1 + 1 + 1 + 1 + 1 + 1 + 1 + 1 + 1, o9) :: (L + 1 + 1 + 1 + 1 + 1 + 1 + 1 + 1, o8) :: (L + 1 + 1 + 1 + 1 + 1 + 1 + 1, o7) :: (L + 1 + 1 + 1 + 1 + 1 + 1, o6) :: (L + 1 + 1 + 1 + 1 + 1, o5) :: (L + 1 + 1 + 1 + 1, o4) :: (L + 1 + 1 + 1, o3) :: (L + 1 + 1, o2) :: (L + 1, o1) :: inn)) (d6 : o6.data = .cell (some (.ref lle))) (d7 : o7.data = .cell (some (.ref ltb))) (d8 : o8.data = .cell (some (.ref lrk))) (d9 : o9.data = .cell kv9) (hrt : m (PySem.Str.ofString "right") = some (.bool true)) (hDr : Dst (lrk :: [ltb, lle, lla, lco, lr, l, L + 1 + 1 + 1 + 1 + 1 + 1 + 1 + 1 + 1 + 1, L + 1 + 1 + 1 + 1 + 1 + 1 + 1 + 1 + 1, L + 1 + 1 + 1 + 1 + 1 + 1 + 1 + 1, L + 1 + 1 + 1 + 1 + 1 + 1 + 1, L + 1 + 1 + 1 + 1 + 1 + 1, L + 1 + 1 + 1 + 1 + 1, L + 1 + 1 + 1 + 1, L + 1 + 1 + 1, L + 1 + 1, L + 1])) (hin : ∀ p ∈ inn, NeAll p.1 [ltb, lle, lla, lco, lr, l, L + 1 + 1 + 1 + 1 + 1 + 1 + 1 + 1 + 1 + 1, L + 1 + 1 + 1 + 1 + 1 + 1 + 1 + 1 + 1, L + 1 + 1 + 1 + 1 + 1 + 1 + 1 + 1, L + 1 + 1 + 1 + 1 + 1 + 1 + 1, L + 1 + 1 + 1 + 1 + 1 + 1, L + 1 + 1 + 1 + 1 + 1, L + 1 + 1 + 1 + 1, L + 1 + 1 + 1, L + 1 + 1, L + 1]) (hinr : ∀ p ∈ inn, p.1 ≠ lrk) (hT : IntsAre tvs tb) (hTl : tb.length = 8) (hLd : IntsAre lvs rd) (hLl : rd.length = 8) (hLb : ∀ v ∈ rd, 0 ≤ v ∧ v < 4) (hR : IntsAre kvs rv) (hRl : rv.length = 8)
   (hE : PassesOwn (model pwC w) (callerA.deeper (envOfC (PySem.Str.ofString "law") lawSc L f cdv)) (envOfC (PySem.Str.ofString "law") lawSc L f cdv) E)
   (use : ∀ (h' : Heap) (tk' : Nat) (m' : PySem.Str → Option Value) (lw : Addr) (o9' : Obj) (kv : Option Value) (wA : Array Value) (n6 : Nat), Fr g L h' m' → News g L h' ((lw, W.listOf wA n6) :: (lrk, W.listOf kvs.toArray n5) :: (ltb, W.listOf tvs.toArray n1) :: (lle, W.listOf lvs.toArray n2) :: (lla, W.listOf labA n3) :: (lco, W.listOf codA n4) :: (lr, lst rvs) :: (l, W.listOf cvs.toArray 0) :: (L + 1 + 1 + 1 + 1 + 1 + 1 + 1 + 1 + 1 + 1, o10) :: (L + 1 + 1 + 1 + 1 + 1 + 1 + 1 + 1 + 1, o9') :: (L + 1 + 1 + 1 + 1 + 1 + 1 + 1 + 1, o8) :: (L + 1 + 1 + 1 + 1 + 1 + 1 + 1, o7) :: (L + 1 + 1 + 1 + 1 + 1 + 1, o6) :: (L + 1 + 1 + 1 + 1 + 1, o5) :: (L + 1 + 1 + 1 + 1, o4) :: (L + 1 + 1 + 1, o3) :: (L + 1 + 1, o2) :: (L + 1, o1) :: inn) → o9'.data = .cell kv → m' (PySem.Str.ofString "right") = some (.bool true) → m' (PySem.Str.ofString "won") = some (.ref lw) → wA.size = 16 → IntsAre wA.toList ((List.range 16).map fun (c : Nat) => msk (herV rd rv tb (c : Int))) → NesK lw ((lrk, W.listOf kvs.toArray n5) :: (ltb, W.listOf tvs.toArray n1) :: (lle, W.listOf lvs.toArray n2) :: (lla, W.listOf labA n3) :: (lco, W.listOf codA n4) :: (lr, lst rvs) :: (l, W.listOf cvs.toArray 0) :: (L + 1 + 1 + 1 + 1 + 1 + 1 + 1 + 1 + 1 + 1, o10) :: (L + 1 + 1 + 1 + 1 + 1 + 1 + 1 + 1 + 1, o9') :: (L + 1 + 1 + 1 + 1 + 1 + 1 + 1 + 1, o8) :: (L + 1 + 1 + 1 + 1 + 1 + 1 + 1, o7) :: (L + 1 + 1 + 1 + 1 + 1 + 1, o6) :: (L + 1 + 1 + 1 + 1 + 1, o5) :: (L + 1 + 1 + 1 + 1, o4) :: (L + 1 + 1 + 1, o3) :: (L + 1 + 1, o2) :: (L + 1, o1) :: inn) → Q .next ⟨h', gens, drawn, tk', os⟩) : wpAny (model pwC w) (callerA.deeper (envOfC (PySem.Str.ofString "law") lawSc L f cdv)) (execs lawG (envOfC (PySem.Str.ofString "law") lawSc L f cdv)) Q E ⟨h, gens, drawn, toks, os⟩ := by
  have hfill : (PySem.Challenge.rw_yh0002_01 = PySem.Challenge.rw_yh0002_01) ∧ KF = KF := by k_fill; exact ⟨rfl, rfl⟩
  clear hfill
  unfold lawG
  unfold lawSc at *
  dsimp only at hE ⊢
  have hD := hDr.2
  have nk9_0 : NeK ltb (L + 1 + 1 + 1 + 1 + 1 + 1 + 1 + 1 + 1) := ⟨dstAt hD (i := 0) (j := 7) rfl rfl (by decide)⟩
  have nk9_1 : NeK lle (L + 1 + 1 + 1 + 1 + 1 + 1 + 1 + 1 + 1) := ⟨dstAt hD (i := 1) (j := 7) rfl rfl (by decide)⟩
  have nk9_2 : NeK lla (L + 1 + 1 + 1 + 1 + 1 + 1 + 1 + 1 + 1) := ⟨dstAt hD (i := 2) (j := 7) rfl rfl (by decide)⟩
  have nk9_3 : NeK lco (L + 1 + 1 + 1 + 1 + 1 + 1 + 1 + 1 + 1) := ⟨dstAt hD (i := 3) (j := 7) rfl rfl (by decide)⟩
  have nk9_4 : NeK lr (L + 1 + 1 + 1 + 1 + 1 + 1 + 1 + 1 + 1) := ⟨dstAt hD (i := 4) (j := 7) rfl rfl (by decide)⟩
  have nk9_5 : NeK l (L + 1 + 1 + 1 + 1 + 1 + 1 + 1 + 1 + 1) := ⟨dstAt hD (i := 5) (j := 7) rfl rfl (by decide)⟩
  have nk9_r : NeK lrk (L + 1 + 1 + 1 + 1 + 1 + 1 + 1 + 1 + 1) := ⟨dstAt hDr (i := 0) (j := 8) rfl rfl (by decide)⟩
  have hin9 : ∀ p ∈ inn, p.1 ≠ (L + 1 + 1 + 1 + 1 + 1 + 1 + 1 + 1 + 1) := fun p hp => (hin p hp).2.2.2.2.2.2.2.1
  (repeat' (first | (k_unfold; (try dsimp only)) | (k_end; wrow_close) | (with_reducible ((with_reducible show wpAny _ _ (call (Value.ref _) _ _) _ _ _); refine Hold.out ?_)) | (with_reducible ((with_reducible show wpAny _ _ (binaryOp Operator.LShift (Value.int _ _) (Value.int _ _)) _ _ _); k_dflt (refine' lshift_int_small ?zk19 ?zk29 ?zk39 ?_; (case zk19 => omega); (case zk29 => omega); (case zk39 => decide)))) | (with_reducible ((with_reducible show LCg.FinA _ _ _ _ _ _ _); (unfold LCg.FinA); intro D' h' tk' F' N' o1'; (refine nesSplit (off1K o1') ?_; dsimp only [NesArrow]; intros; (try (refine nesArrow_intro ?_; intro _))); clear o1'; (try simp only [List.nil_append, List.cons_append] at N'); (try dsimp only))) | (with_reducible ((with_reducible show LCg.FinE _ _ _ _ _ _ _); (unfold LCg.FinE); intro D' h' tk' F' N' o1'; (refine nesSplit (off1K o1') ?_; dsimp only [NesArrow]; intros; (try (refine nesArrow_intro ?_; intro _))); clear o1'; (try simp only [List.nil_append, List.cons_append] at N'); (try dsimp only))) | (with_reducible ((with_reducible show wpAny _ _ (eval (PySem.Expr.ListComp _ _ _ _) _) _ _ _); (with_reducible show wpAny _ _ (eval (PySem.Expr.ListComp _ [⟨_, _, [], _⟩] _ _) _) _ _ _); k_dflt (refine LCg.ListComp_U (F₀ := by k_asm) (by with_unfolding_all rfl) (by decide) (by rfl) (by decide) (by rfl) ?_); k_dflt lcg_toSrc)) | (with_reducible ((with_reducible show wpAny _ _ (eval (PySem.Expr.ListComp _ _ _ _) _) _ _ _); (with_reducible show wpAny _ _ (eval (PySem.Expr.ListComp _ [⟨_, _, [_], _⟩] _ _) _) _ _ _); k_dflt (refine LCt.ListComp_T (F₀ := by k_asm) (by with_unfolding_all rfl) (by decide) (by rfl) (by decide) (by rfl) ?_); k_dflt lct_toSrc)) | (with_reducible ((with_reducible show wpAny _ _ (exec (Stmt.For _ _ _ _ _) _) _ _ _); (rename Fr _ _ _ _ => lF'); (with_unfolding_all refine' For_turns lF' ?_ ?zhs99 ?zhE99; (case zhs99 => (intro _; rfl)); (case zhE99 => assumption); k_whole))) | (with_reducible ((with_reducible show wpAny _ _ (eval (PySem.Expr.Name _ _) _) _ _ _); k_dflt (refine' nameX_L ?zF9 ?zv9 ?_ ?za9 ?zb9; (case zF9 => k_asm); (case za9 => rfl); (case zb9 => rfl); (case zv9 => first | with_reducible assumption | ((try dsimp only); first | with_reducible assumption | (refine (if_neg (by decide)).trans ?_; with_reducible assumption) | (refine (if_neg (by decide)).trans ((if_neg (by decide)).trans ?_); with_reducible assumption) | (refine (if_neg (by decide)).trans ((if_neg (by decide)).trans ((if_neg (by decide)).trans ?_)); with_reducible assumption))); k_whole))) | walk1 | (dsimp only; walk1) | (leave1; walk_say "STEP leave1"; try dsimp only) | fail "no step"))
  refine Hold.mk ?_
  rename_i lw hz A1 hh1 F1 N1 hh3 tk3 t3 u3 v3 r3 F3 N3 k3
  have hinw : ∀ p ∈ inn, p.1 ≠ lw := nesKTo (ltK A1.2.2.2.2.2.2.2.2.2.2.2.2.2.2.2.2.2)
  clear k3 N1 F1
  refine turns_rangeQ (L := L) (n := 16) (fun i m₁ nx => ∀ G9 : Prop, (∀ (o9' : Obj) (kv : Option Value) (wA : Array Value) (n6 : Nat), nx = (lw, W.listOf wA n6) :: (lrk, W.listOf kvs.toArray n5) :: (ltb, W.listOf tvs.toArray n1) :: (lle, W.listOf lvs.toArray n2) :: (lla, W.listOf labA n3) :: (lco, W.listOf codA n4) :: (lr, lst rvs) :: (l, W.listOf cvs.toArray 0) :: (L + 1 + 1 + 1 + 1 + 1 + 1 + 1 + 1 + 1 + 1, o10) :: (L + 1 + 1 + 1 + 1 + 1 + 1 + 1 + 1 + 1, o9') :: (L + 1 + 1 + 1 + 1 + 1 + 1 + 1 + 1, o8) :: (L + 1 + 1 + 1 + 1 + 1 + 1 + 1, o7) :: (L + 1 + 1 + 1 + 1 + 1 + 1, o6) :: (L + 1 + 1 + 1 + 1 + 1, o5) :: (L + 1 + 1 + 1 + 1, o4) :: (L + 1 + 1 + 1, o3) :: (L + 1 + 1, o2) :: (L + 1, o1) :: inn → o9'.data = .cell kv → m₁ (PySem.Str.ofString "right") = some (.bool true) → m₁ (PySem.Str.ofString "won") = some (.ref lw) → wA.size = i → IntsAre wA.toList ((List.range i).map fun (c : Nat) => msk (herV rd rv tb (c : Int))) → G9) → G9) rfl (by rfl) (by k_asm) ?hsm ?hn (by k_asm) (by k_asm) ?h0 ?turn ?done
  case hsm => decide
  case hn => rfl
  case h0 => (intro G9 k9; exact k9 o9 kv9 #[] 0 rfl d9 ((if_neg (by decide)).trans hrt) (if_pos rfl) rfl .nil)
  case turn =>
    clear r3
    intro i t m₁ nx h tk I oI Qz hi' hJ hne F' N' hQz
    refine hJ _ ?_
    intro o9' kv' wA n6 e94 d9' hr₁ hw₁ z5 hW
    subst e94
    have hk0 : (0 : Int) + (i : Int) = (i : Int) := by omega
    rw [hk0]
    clear hk0
    have nkI9 : NeK (L + 1 + 1 + 1 + 1 + 1 + 1 + 1 + 1 + 1) I := ⟨hne (L + 1 + 1 + 1 + 1 + 1 + 1 + 1 + 1 + 1, o9') (by repeat (first | exact List.Mem.head _ | apply List.Mem.tail))⟩
    have nkIw : NeK lw I := ⟨hne _ (.head _)⟩
    have hne' := Kept.mk hne
    clear hne
    (repeat' (first | (k_unfold; (try dsimp only)) | (k_end; wrow_close) | (with_reducible ((with_reducible show wpAny _ _ (call (Value.ref _) _ _) _ _ _); refine Hold.out ?_)) | (with_reducible ((with_reducible show wpAny _ _ (binaryOp Operator.LShift (Value.int _ _) (Value.int _ _)) _ _ _); k_dflt (refine' lshift_int_small ?zk19 ?zk29 ?zk39 ?_; (case zk19 => omega); (case zk29 => omega); (case zk39 => decide)))) | (with_reducible ((with_reducible show LCg.FinA _ _ _ _ _ _ _); (unfold LCg.FinA); intro D' h' tk' F' N' o1'; (refine nesSplit (off1K o1') ?_; dsimp only [NesArrow]; intros; (try (refine nesArrow_intro ?_; intro _))); clear o1'; (try simp only [List.nil_append, List.cons_append] at N'); (try dsimp only))) | (with_reducible ((with_reducible show LCg.FinE _ _ _ _ _ _ _); (unfold LCg.FinE); intro D' h' tk' F' N' o1'; (refine nesSplit (off1K o1') ?_; dsimp only [NesArrow]; intros; (try (refine nesArrow_intro ?_; intro _))); clear o1'; (try simp only [List.nil_append, List.cons_append] at N'); (try dsimp only))) | (with_reducible ((with_reducible show wpAny _ _ (eval (PySem.Expr.ListComp _ _ _ _) _) _ _ _); (with_reducible show wpAny _ _ (eval (PySem.Expr.ListComp _ [⟨_, _, [], _⟩] _ _) _) _ _ _); k_dflt (refine LCg.ListComp_U (F₀ := by k_asm) (by with_unfolding_all rfl) (by decide) (by rfl) (by decide) (by rfl) ?_); k_dflt lcg_toSrc)) | (with_reducible ((with_reducible show wpAny _ _ (eval (PySem.Expr.ListComp _ _ _ _) _) _ _ _); (with_reducible show wpAny _ _ (eval (PySem.Expr.ListComp _ [⟨_, _, [_], _⟩] _ _) _) _ _ _); k_dflt (refine LCt.ListComp_T (F₀ := by k_asm) (by with_unfolding_all rfl) (by decide) (by rfl) (by decide) (by rfl) ?_); k_dflt lct_toSrc)) | (with_reducible ((with_reducible show wpAny _ _ (exec (Stmt.For _ _ _ _ _) _) _ _ _); (rename Fr _ _ _ _ => lF'); (with_unfolding_all refine' For_turns lF' ?_ ?zhs99 ?zhE99; (case zhs99 => (intro _; rfl)); (case zhE99 => assumption); k_whole))) | (with_reducible ((with_reducible show wpAny _ _ (eval (PySem.Expr.Name _ _) _) _ _ _); k_dflt (refine' nameX_L ?zF9 ?zv9 ?_ ?za9 ?zb9; (case zF9 => k_asm); (case za9 => rfl); (case zb9 => rfl); (case zv9 => first | with_reducible assumption | ((try dsimp only); first | with_reducible assumption | (refine (if_neg (by decide)).trans ?_; with_reducible assumption) | (refine (if_neg (by decide)).trans ((if_neg (by decide)).trans ?_); with_reducible assumption) | (refine (if_neg (by decide)).trans ((if_neg (by decide)).trans ((if_neg (by decide)).trans ?_)); with_reducible assumption))); k_whole))) | walk1 | (dsimp only; walk1) | (leave1; walk_say "STEP leave1"; try dsimp only) | fail "no step"))
    refine Hold.mk ?_
    have say1 : Say 1 (fun (p : Nat) => ((tb.getD (topW rd rv (i : Int) ((0 : Int) + (p : Int))).toNat 0).fmod 2 == 0)) := ⟨⟩
    have say2 : Say 1 (fun (p : Nat) (y : Value) => ∃ t, y = Value.int ((0 : Int) + (p : Int)) t) := ⟨⟩
    refine' LCt.CompSrcT.range (n := 4) (by rfl) (by k_asm) (by k_asm) (by assumption) ?hsm2 ?hn2 ?hsz2 ?hrest2
    case hsm2 => decide
    case hn2 => rfl
    case hsz2 => exact Nat.le_of_ble_eq_true rfl
    intro g'
    refine restT_say 1 (by assumption) (by assumption) trivial ?step ?fin
    case step =>
      refine Hold.mk ?_
      intro i' v' I' oI' C' oC' D' ys' m' h' tk' E' hi2 hv' hC' hx' F' N' off' ne'
      obtain ⟨t', e'⟩ := hv'; subst e'
      have htw := topW_in (rv := rv) (c := (i : Int)) (p := (0 : Int) + (i' : Int)) hLl hLb (by constructor <;> omega)
      (repeat' (first | (k_unfold; (try dsimp only)) | (k_end; wrow_close) | (with_reducible ((with_reducible show wpAny _ _ (call (Value.ref _) _ _) _ _ _); refine Hold.out ?_)) | (with_reducible ((with_reducible show wpAny _ _ (binaryOp Operator.LShift (Value.int _ _) (Value.int _ _)) _ _ _); k_dflt (refine' lshift_int_small ?zk19 ?zk29 ?zk39 ?_; (case zk19 => omega); (case zk29 => omega); (case zk39 => decide)))) | (with_reducible ((with_reducible show LCg.FinA _ _ _ _ _ _ _); (unfold LCg.FinA); intro D' h' tk' F' N' o1'; (refine nesSplit (off1K o1') ?_; dsimp only [NesArrow]; intros; (try (refine nesArrow_intro ?_; intro _))); clear o1'; (try simp only [List.nil_append, List.cons_append] at N'); (try dsimp only))) | (with_reducible ((with_reducible show LCg.FinE _ _ _ _ _ _ _); (unfold LCg.FinE); intro D' h' tk' F' N' o1'; (refine nesSplit (off1K o1') ?_; dsimp only [NesArrow]; intros; (try (refine nesArrow_intro ?_; intro _))); clear o1'; (try simp only [List.nil_append, List.cons_append] at N'); (try dsimp only))) | (with_reducible ((with_reducible show wpAny _ _ (eval (PySem.Expr.ListComp _ _ _ _) _) _ _ _); (with_reducible show wpAny _ _ (eval (PySem.Expr.ListComp _ [⟨_, _, [], _⟩] _ _) _) _ _ _); k_dflt (refine LCg.ListComp_U (F₀ := by k_asm) (by with_unfolding_all rfl) (by decide) (by rfl) (by decide) (by rfl) ?_); k_dflt lcg_toSrc)) | (with_reducible ((with_reducible show wpAny _ _ (eval (PySem.Expr.ListComp _ _ _ _) _) _ _ _); (with_reducible show wpAny _ _ (eval (PySem.Expr.ListComp _ [⟨_, _, [_], _⟩] _ _) _) _ _ _); k_dflt (refine LCt.ListComp_T (F₀ := by k_asm) (by with_unfolding_all rfl) (by decide) (by rfl) (by decide) (by rfl) ?_); k_dflt lct_toSrc)) | (with_reducible ((with_reducible show wpAny _ _ (exec (Stmt.For _ _ _ _ _) _) _ _ _); (rename Fr _ _ _ _ => lF'); (with_unfolding_all refine' For_turns lF' ?_ ?zhs99 ?zhE99; (case zhs99 => (intro _; rfl)); (case zhE99 => assumption); k_whole))) | (with_reducible ((with_reducible show wpAny _ _ (eval (PySem.Expr.Name _ _) _) _ _ _); k_dflt (refine' nameX_L ?zF9 ?zv9 ?_ ?za9 ?zb9; (case zF9 => k_asm); (case za9 => rfl); (case zb9 => rfl); (case zv9 => first | with_reducible assumption | ((try dsimp only); first | with_reducible assumption | (refine (if_neg (by decide)).trans ?_; with_reducible assumption) | (refine (if_neg (by decide)).trans ((if_neg (by decide)).trans ?_); with_reducible assumption) | (refine (if_neg (by decide)).trans ((if_neg (by decide)).trans ((if_neg (by decide)).trans ?_)); with_reducible assumption))); k_whole))) | walk1 | (dsimp only; walk1) | (leave1; walk_say "STEP leave1"; try dsimp only) | fail "no step"))
      refine Hold.mk ?_
      refine' cvUse (f_top w mean mg mb ((0 : Int) + (i' : Int)) (i : Int) rd rv lvs kvs _ _ lle lrk (by constructor <;> omega) (by constructor <;> omega) hLl hRl hLb hLd hR) ?B ?F ?X ?N ?T ?hk ?hy ?hd ?hu ?_
      case F => k_asm
      case T => k_asm
      case B => k_asm
      case X => k_asm
      case N => k_asm
      case hk => first | exact rfl | assumption
      case hd => ktr_room
      case hu => ktr_units
      case hy => (dsimp only; refine And.intro ?_ ?_ <;> is_list)
      intro v' h' tk' F' N' k' p'; obtain ⟨tk9', p'⟩ := p'; subst p'
      (try dsimp only)
      (try k_fold)
      (repeat' (first | (k_unfold; (try dsimp only)) | (k_end; wrow_close) | (with_reducible ((with_reducible show wpAny _ _ (call (Value.ref _) _ _) _ _ _); refine Hold.out ?_)) | (with_reducible ((with_reducible show wpAny _ _ (binaryOp Operator.LShift (Value.int _ _) (Value.int _ _)) _ _ _); k_dflt (refine' lshift_int_small ?zk19 ?zk29 ?zk39 ?_; (case zk19 => omega); (case zk29 => omega); (case zk39 => decide)))) | (with_reducible ((with_reducible show LCg.FinA _ _ _ _ _ _ _); (unfold LCg.FinA); intro D' h' tk' F' N' o1'; (refine nesSplit (off1K o1') ?_; dsimp only [NesArrow]; intros; (try (refine nesArrow_intro ?_; intro _))); clear o1'; (try simp only [List.nil_append, List.cons_append] at N'); (try dsimp only))) | (with_reducible ((with_reducible show LCg.FinE _ _ _ _ _ _ _); (unfold LCg.FinE); intro D' h' tk' F' N' o1'; (refine nesSplit (off1K o1') ?_; dsimp only [NesArrow]; intros; (try (refine nesArrow_intro ?_; intro _))); clear o1'; (try simp only [List.nil_append, List.cons_append] at N'); (try dsimp only))) | (with_reducible ((with_reducible show wpAny _ _ (eval (PySem.Expr.ListComp _ _ _ _) _) _ _ _); (with_reducible show wpAny _ _ (eval (PySem.Expr.ListComp _ [⟨_, _, [], _⟩] _ _) _) _ _ _); k_dflt (refine LCg.ListComp_U (F₀ := by k_asm) (by with_unfolding_all rfl) (by decide) (by rfl) (by decide) (by rfl) ?_); k_dflt lcg_toSrc)) | (with_reducible ((with_reducible show wpAny _ _ (eval (PySem.Expr.ListComp _ _ _ _) _) _ _ _); (with_reducible show wpAny _ _ (eval (PySem.Expr.ListComp _ [⟨_, _, [_], _⟩] _ _) _) _ _ _); k_dflt (refine LCt.ListComp_T (F₀ := by k_asm) (by with_unfolding_all rfl) (by decide) (by rfl) (by decide) (by rfl) ?_); k_dflt lct_toSrc)) | (with_reducible ((with_reducible show wpAny _ _ (exec (Stmt.For _ _ _ _ _) _) _ _ _); (rename Fr _ _ _ _ => lF'); (with_unfolding_all refine' For_turns lF' ?_ ?zhs99 ?zhE99; (case zhs99 => (intro _; rfl)); (case zhE99 => assumption); k_whole))) | (with_reducible ((with_reducible show wpAny _ _ (eval (PySem.Expr.Name _ _) _) _ _ _); k_dflt (refine' nameX_L ?zF9 ?zv9 ?_ ?za9 ?zb9; (case zF9 => k_asm); (case za9 => rfl); (case zb9 => rfl); (case zv9 => first | with_reducible assumption | ((try dsimp only); first | with_reducible assumption | (refine (if_neg (by decide)).trans ?_; with_reducible assumption) | (refine (if_neg (by decide)).trans ((if_neg (by decide)).trans ?_); with_reducible assumption) | (refine (if_neg (by decide)).trans ((if_neg (by decide)).trans ((if_neg (by decide)).trans ?_)); with_reducible assumption))); k_whole))) | walk1 | (dsimp only; walk1) | (leave1; walk_say "STEP leave1"; try dsimp only) | fail "no step"))
      all_goals (refine ⟨_, _, rfl, by with_reducible assumption, by with_reducible assumption, rfl, fun hq => ?_⟩; clear hq; (repeat' (first | (k_unfold; (try dsimp only)) | (k_end; wrow_close) | (with_reducible ((with_reducible show wpAny _ _ (call (Value.ref _) _ _) _ _ _); refine Hold.out ?_)) | (with_reducible ((with_reducible show wpAny _ _ (binaryOp Operator.LShift (Value.int _ _) (Value.int _ _)) _ _ _); k_dflt (refine' lshift_int_small ?zk19 ?zk29 ?zk39 ?_; (case zk19 => omega); (case zk29 => omega); (case zk39 => decide)))) | (with_reducible ((with_reducible show LCg.FinA _ _ _ _ _ _ _); (unfold LCg.FinA); intro D' h' tk' F' N' o1'; (refine nesSplit (off1K o1') ?_; dsimp only [NesArrow]; intros; (try (refine nesArrow_intro ?_; intro _))); clear o1'; (try simp only [List.nil_append, List.cons_append] at N'); (try dsimp only))) | (with_reducible ((with_reducible show LCg.FinE _ _ _ _ _ _ _); (unfold LCg.FinE); intro D' h' tk' F' N' o1'; (refine nesSplit (off1K o1') ?_; dsimp only [NesArrow]; intros; (try (refine nesArrow_intro ?_; intro _))); clear o1'; (try simp only [List.nil_append, List.cons_append] at N'); (try dsimp only))) | (with_reducible ((with_reducible show wpAny _ _ (eval (PySem.Expr.ListComp _ _ _ _) _) _ _ _); (with_reducible show wpAny _ _ (eval (PySem.Expr.ListComp _ [⟨_, _, [], _⟩] _ _) _) _ _ _); k_dflt (refine LCg.ListComp_U (F₀ := by k_asm) (by with_unfolding_all rfl) (by decide) (by rfl) (by decide) (by rfl) ?_); k_dflt lcg_toSrc)) | (with_reducible ((with_reducible show wpAny _ _ (eval (PySem.Expr.ListComp _ _ _ _) _) _ _ _); (with_reducible show wpAny _ _ (eval (PySem.Expr.ListComp _ [⟨_, _, [_], _⟩] _ _) _) _ _ _); k_dflt (refine LCt.ListComp_T (F₀ := by k_asm) (by with_unfolding_all rfl) (by decide) (by rfl) (by decide) (by rfl) ?_); k_dflt lct_toSrc)) | (with_reducible ((with_reducible show wpAny _ _ (exec (Stmt.For _ _ _ _ _) _) _ _ _); (rename Fr _ _ _ _ => lF'); (with_unfolding_all refine' For_turns lF' ?_ ?zhs99 ?zhE99; (case zhs99 => (intro _; rfl)); (case zhE99 => assumption); k_whole))) | (with_reducible ((with_reducible show wpAny _ _ (eval (PySem.Expr.Name _ _) _) _ _ _); k_dflt (refine' nameX_L ?zF9 ?zv9 ?_ ?za9 ?zb9; (case zF9 => k_asm); (case za9 => rfl); (case zb9 => rfl); (case zv9 => first | with_reducible assumption | ((try dsimp only); first | with_reducible assumption | (refine (if_neg (by decide)).trans ?_; with_reducible assumption) | (refine (if_neg (by decide)).trans ((if_neg (by decide)).trans ?_); with_reducible assumption) | (refine (if_neg (by decide)).trans ((if_neg (by decide)).trans ((if_neg (by decide)).trans ?_)); with_reducible assumption))); k_whole))) | walk1 | (dsimp only; walk1) | (leave1; walk_say "STEP leave1"; try dsimp only) | fail "no step")); exact ⟨_, _, rfl, by with_reducible assumption, by with_reducible assumption, ⟨_, rfl⟩⟩)
    clear say1 say2
    refine Hold.mk ?_
    intro ys' hT'; have hI' := intsTwo hT'; clear hT'
    obtain ⟨pl, hpl⟩ : ∃ pl : List Int, Kept (pl = ((List.range 4).filter (fun (p : Nat) => ((tb.getD (topW rd rv (i : Int) ((0 : Int) + (p : Int))).toNat 0).fmod 2 == 0))).map (fun (p : Nat) => (0 : Int) + (p : Int))) := ⟨_, ⟨rfl⟩⟩
    rw [← hpl.out] at hI'
    have hpln : pl.length ≤ 4 := by
      rw [hpl.out, List.length_map]; exact Nat.le_trans (List.length_filter_le _ _) (by rw [List.length_range]; exact Nat.le_refl 4)
    have hpl0 : Kept (∀ k : Nat, 0 ≤ pl.getD k 0 ∧ pl.getD k 0 < 4) := ⟨by rw [hpl.out]; exact pl_bd _⟩
    have hsm := pl_sum (fun (p : Nat) => ((tb.getD (topW rd rv (i : Int) ((0 : Int) + (p : Int))).toNat 0).fmod 2 == 0))
    rw [← hpl.out] at hsm
    replace hsm := Kept.mk hsm
    have hyl : ys'.length = pl.length := hI'.length
    (repeat' (first | (k_unfold; (try dsimp only)) | (k_end; wrow_close) | (with_reducible ((with_reducible show wpAny _ _ (call (Value.ref _) _ _) _ _ _); refine Hold.out ?_)) | (with_reducible ((with_reducible show wpAny _ _ (binaryOp Operator.LShift (Value.int _ _) (Value.int _ _)) _ _ _); k_dflt (refine' lshift_int_small ?zk19 ?zk29 ?zk39 ?_; (case zk19 => omega); (case zk29 => omega); (case zk39 => decide)))) | (with_reducible ((with_reducible show LCg.FinA _ _ _ _ _ _ _); (unfold LCg.FinA); intro D' h' tk' F' N' o1'; (refine nesSplit (off1K o1') ?_; dsimp only [NesArrow]; intros; (try (refine nesArrow_intro ?_; intro _))); clear o1'; (try simp only [List.nil_append, List.cons_append] at N'); (try dsimp only))) | (with_reducible ((with_reducible show LCg.FinE _ _ _ _ _ _ _); (unfold LCg.FinE); intro D' h' tk' F' N' o1'; (refine nesSplit (off1K o1') ?_; dsimp only [NesArrow]; intros; (try (refine nesArrow_intro ?_; intro _))); clear o1'; (try simp only [List.nil_append, List.cons_append] at N'); (try dsimp only))) | (with_reducible ((with_reducible show wpAny _ _ (eval (PySem.Expr.ListComp _ _ _ _) _) _ _ _); (with_reducible show wpAny _ _ (eval (PySem.Expr.ListComp _ [⟨_, _, [], _⟩] _ _) _) _ _ _); k_dflt (refine LCg.ListComp_U (F₀ := by k_asm) (by with_unfolding_all rfl) (by decide) (by rfl) (by decide) (by rfl) ?_); k_dflt lcg_toSrc)) | (with_reducible ((with_reducible show wpAny _ _ (eval (PySem.Expr.ListComp _ _ _ _) _) _ _ _); (with_reducible show wpAny _ _ (eval (PySem.Expr.ListComp _ [⟨_, _, [_], _⟩] _ _) _) _ _ _); k_dflt (refine LCt.ListComp_T (F₀ := by k_asm) (by with_unfolding_all rfl) (by decide) (by rfl) (by decide) (by rfl) ?_); k_dflt lct_toSrc)) | (with_reducible ((with_reducible show wpAny _ _ (exec (Stmt.For _ _ _ _ _) _) _ _ _); (rename Fr _ _ _ _ => lF'); (with_unfolding_all refine' For_turns lF' ?_ ?zhs99 ?zhE99; (case zhs99 => (intro _; rfl)); (case zhE99 => assumption); k_whole))) | (with_reducible ((with_reducible show wpAny _ _ (eval (PySem.Expr.Name _ _) _) _ _ _); k_dflt (refine' nameX_L ?zF9 ?zv9 ?_ ?za9 ?zb9; (case zF9 => k_asm); (case za9 => rfl); (case zb9 => rfl); (case zv9 => first | with_reducible assumption | ((try dsimp only); first | with_reducible assumption | (refine (if_neg (by decide)).trans ?_; with_reducible assumption) | (refine (if_neg (by decide)).trans ((if_neg (by decide)).trans ?_); with_reducible assumption) | (refine (if_neg (by decide)).trans ((if_neg (by decide)).trans ((if_neg (by decide)).trans ?_)); with_reducible assumption))); k_whole))) | walk1 | (dsimp only; walk1) | (leave1; walk_say "STEP leave1"; try dsimp only) | fail "no step"))
    refine Hold.mk ?_
    have say2 : Say 1 (fun (p : Nat) (y : Value) => ∃ t, y = Value.int (1 * 2 ^ (pl.getD p 0).toNat) t) := ⟨⟩
    refine' LCg.CompSrc.ledger (by rfl) (by k_asm) (by k_asm) (by k_mem) ?hsz3 ?hrest3
    case hsz3 => (rw [sizeLine_eq, List.size_toArray]; omega)
    intro g'
    refine restU_say 1 (by assumption) (Or.inr ⟨_, by k_mem, rfl, _, rfl⟩) ?step3 ?fin3
    case step3 =>
      refine Hold.mk ?_
      intro i' v' I' oI' C' oC' D' ys' m' h' tk' E' hi2 hv' hC' hx' F' N' off' ne'
      have hb := hpl0.out i'
      obtain ⟨t', e'⟩ := IntsAre.int_at hI' i' v' (by rw [List.getElem?_toArray] at hv'; exact hv'); subst e'
      clear hv'
      (repeat' (first | (k_unfold; (try dsimp only)) | (k_end; wrow_close) | (with_reducible ((with_reducible show wpAny _ _ (call (Value.ref _) _ _) _ _ _); refine Hold.out ?_)) | (with_reducible ((with_reducible show wpAny _ _ (binaryOp Operator.LShift (Value.int _ _) (Value.int _ _)) _ _ _); k_dflt (refine' lshift_int_small ?zk19 ?zk29 ?zk39 ?_; (case zk19 => omega); (case zk29 => omega); (case zk39 => decide)))) | (with_reducible ((with_reducible show LCg.FinA _ _ _ _ _ _ _); (unfold LCg.FinA); intro D' h' tk' F' N' o1'; (refine nesSplit (off1K o1') ?_; dsimp only [NesArrow]; intros; (try (refine nesArrow_intro ?_; intro _))); clear o1'; (try simp only [List.nil_append, List.cons_append] at N'); (try dsimp only))) | (with_reducible ((with_reducible show LCg.FinE _ _ _ _ _ _ _); (unfold LCg.FinE); intro D' h' tk' F' N' o1'; (refine nesSplit (off1K o1') ?_; dsimp only [NesArrow]; intros; (try (refine nesArrow_intro ?_; intro _))); clear o1'; (try simp only [List.nil_append, List.cons_append] at N'); (try dsimp only))) | (with_reducible ((with_reducible show wpAny _ _ (eval (PySem.Expr.ListComp _ _ _ _) _) _ _ _); (with_reducible show wpAny _ _ (eval (PySem.Expr.ListComp _ [⟨_, _, [], _⟩] _ _) _) _ _ _); k_dflt (refine LCg.ListComp_U (F₀ := by k_asm) (by with_unfolding_all rfl) (by decide) (by rfl) (by decide) (by rfl) ?_); k_dflt lcg_toSrc)) | (with_reducible ((with_reducible show wpAny _ _ (eval (PySem.Expr.ListComp _ _ _ _) _) _ _ _); (with_reducible show wpAny _ _ (eval (PySem.Expr.ListComp _ [⟨_, _, [_], _⟩] _ _) _) _ _ _); k_dflt (refine LCt.ListComp_T (F₀ := by k_asm) (by with_unfolding_all rfl) (by decide) (by rfl) (by decide) (by rfl) ?_); k_dflt lct_toSrc)) | (with_reducible ((with_reducible show wpAny _ _ (exec (Stmt.For _ _ _ _ _) _) _ _ _); (rename Fr _ _ _ _ => lF'); (with_unfolding_all refine' For_turns lF' ?_ ?zhs99 ?zhE99; (case zhs99 => (intro _; rfl)); (case zhE99 => assumption); k_whole))) | (with_reducible ((with_reducible show wpAny _ _ (eval (PySem.Expr.Name _ _) _) _ _ _); k_dflt (refine' nameX_L ?zF9 ?zv9 ?_ ?za9 ?zb9; (case zF9 => k_asm); (case za9 => rfl); (case zb9 => rfl); (case zv9 => first | with_reducible assumption | ((try dsimp only); first | with_reducible assumption | (refine (if_neg (by decide)).trans ?_; with_reducible assumption) | (refine (if_neg (by decide)).trans ((if_neg (by decide)).trans ?_); with_reducible assumption) | (refine (if_neg (by decide)).trans ((if_neg (by decide)).trans ((if_neg (by decide)).trans ?_)); with_reducible assumption))); k_whole))) | walk1 | (dsimp only; walk1) | (leave1; walk_say "STEP leave1"; try dsimp only) | fail "no step"))
      all_goals exact ⟨_, _, rfl, by with_reducible assumption, by with_reducible assumption, ⟨_, rfl⟩⟩
    clear say2
    refine Hold.mk ?_
    intro ys2 hT'; have hI2 := intsTwo hT'; clear hT'
    rw [map_range_getD (fun (x : Int) => (1 : Int) * 2 ^ x.toNat) pl (by rw [List.size_toArray]; exact hyl)] at hI2
    (repeat' (first | (k_unfold; (try dsimp only)) | (k_end; wrow_close) | (with_reducible ((with_reducible show wpAny _ _ (call (Value.ref _) _ _) _ _ _); refine Hold.out ?_)) | (with_reducible ((with_reducible show wpAny _ _ (binaryOp Operator.LShift (Value.int _ _) (Value.int _ _)) _ _ _); k_dflt (refine' lshift_int_small ?zk19 ?zk29 ?zk39 ?_; (case zk19 => omega); (case zk29 => omega); (case zk39 => decide)))) | (with_reducible ((with_reducible show LCg.FinA _ _ _ _ _ _ _); (unfold LCg.FinA); intro D' h' tk' F' N' o1'; (refine nesSplit (off1K o1') ?_; dsimp only [NesArrow]; intros; (try (refine nesArrow_intro ?_; intro _))); clear o1'; (try simp only [List.nil_append, List.cons_append] at N'); (try dsimp only))) | (with_reducible ((with_reducible show LCg.FinE _ _ _ _ _ _ _); (unfold LCg.FinE); intro D' h' tk' F' N' o1'; (refine nesSplit (off1K o1') ?_; dsimp only [NesArrow]; intros; (try (refine nesArrow_intro ?_; intro _))); clear o1'; (try simp only [List.nil_append, List.cons_append] at N'); (try dsimp only))) | (with_reducible ((with_reducible show wpAny _ _ (eval (PySem.Expr.ListComp _ _ _ _) _) _ _ _); (with_reducible show wpAny _ _ (eval (PySem.Expr.ListComp _ [⟨_, _, [], _⟩] _ _) _) _ _ _); k_dflt (refine LCg.ListComp_U (F₀ := by k_asm) (by with_unfolding_all rfl) (by decide) (by rfl) (by decide) (by rfl) ?_); k_dflt lcg_toSrc)) | (with_reducible ((with_reducible show wpAny _ _ (eval (PySem.Expr.ListComp _ _ _ _) _) _ _ _); (with_reducible show wpAny _ _ (eval (PySem.Expr.ListComp _ [⟨_, _, [_], _⟩] _ _) _) _ _ _); k_dflt (refine LCt.ListComp_T (F₀ := by k_asm) (by with_unfolding_all rfl) (by decide) (by rfl) (by decide) (by rfl) ?_); k_dflt lct_toSrc)) | (with_reducible ((with_reducible show wpAny _ _ (exec (Stmt.For _ _ _ _ _) _) _ _ _); (rename Fr _ _ _ _ => lF'); (with_unfolding_all refine' For_turns lF' ?_ ?zhs99 ?zhE99; (case zhs99 => (intro _; rfl)); (case zhE99 => assumption); k_whole))) | (with_reducible ((with_reducible show wpAny _ _ (eval (PySem.Expr.Name _ _) _) _ _ _); k_dflt (refine' nameX_L ?zF9 ?zv9 ?_ ?za9 ?zb9; (case zF9 => k_asm); (case za9 => rfl); (case zb9 => rfl); (case zv9 => first | with_reducible assumption | ((try dsimp only); first | with_reducible assumption | (refine (if_neg (by decide)).trans ?_; with_reducible assumption) | (refine (if_neg (by decide)).trans ((if_neg (by decide)).trans ?_); with_reducible assumption) | (refine (if_neg (by decide)).trans ((if_neg (by decide)).trans ((if_neg (by decide)).trans ?_)); with_reducible assumption))); k_whole))) | walk1 | (dsimp only; walk1) | (leave1; walk_say "STEP leave1"; try dsimp only) | fail "no step"))
    try dsimp only
    refine' hQz _ _ _ _ ?zb1 (newsDrop2 ?zb2) ?zb3 ?_
    case zb1 => assumption
    case zb2 => assumption
    case zb3 => exact neMap (l := [(lw, W.listOf wA n6), (lrk, W.listOf kvs.toArray n5), (ltb, W.listOf tvs.toArray n1), (lle, W.listOf lvs.toArray n2), (lla, W.listOf labA n3), (lco, W.listOf codA n4), (lr, lst rvs), (l, W.listOf cvs.toArray 0), (L + 1 + 1 + 1 + 1 + 1 + 1 + 1 + 1 + 1 + 1, o10), (L + 1 + 1 + 1 + 1 + 1 + 1 + 1 + 1 + 1, o9'), (L + 1 + 1 + 1 + 1 + 1 + 1 + 1 + 1, o8), (L + 1 + 1 + 1 + 1 + 1 + 1 + 1, o7), (L + 1 + 1 + 1 + 1 + 1 + 1, o6), (L + 1 + 1 + 1 + 1 + 1, o5), (L + 1 + 1 + 1 + 1, o4), (L + 1 + 1 + 1, o3), (L + 1 + 1, o2), (L + 1, o1)]) (l' := [(lw, _), (lrk, W.listOf kvs.toArray n5), (ltb, W.listOf tvs.toArray n1), (lle, W.listOf lvs.toArray n2), (lla, W.listOf labA n3), (lco, W.listOf codA n4), (lr, lst rvs), (l, W.listOf cvs.toArray 0), (L + 1 + 1 + 1 + 1 + 1 + 1 + 1 + 1 + 1 + 1, o10), (L + 1 + 1 + 1 + 1 + 1 + 1 + 1 + 1 + 1, _), (L + 1 + 1 + 1 + 1 + 1 + 1 + 1 + 1, o8), (L + 1 + 1 + 1 + 1 + 1 + 1 + 1, o7), (L + 1 + 1 + 1 + 1 + 1 + 1, o6), (L + 1 + 1 + 1 + 1 + 1, o5), (L + 1 + 1 + 1 + 1, o4), (L + 1 + 1 + 1, o3), (L + 1 + 1, o2), (L + 1, o1)]) (inn := inn) hne'.out rfl
    intro G9 k9
    refine' k9 _ _ _ _ rfl ?zb4 ?zb5 ?zb6 ?zb7 ?zb8
    case zb4 => assumption
    case zb5 => ((try dsimp only); exact (if_neg (by decide)).trans hr₁)
    case zb6 => ((try dsimp only); exact (if_neg (by decide)).trans hw₁)
    case zb7 => (rw [Array.size_push, z5])
    case zb8 => (rw [hsm.out]; exact ints_snoc (f := fun (c : Nat) => msk (herV rd rv tb (c : Int))) hW)
  case done =>
    intro m₁ nx h tk hJ F' N'
    refine hJ _ ?_
    intro o9' kv' wA n6 e94 d9' hr₁ hw₁ z5 hW
    subst e94
    refine wpAny_execs_nil ?_
    refine use _ _ _ lw o9' _ _ _ F' N' d9' hr₁ hw₁ z5 hW ?_
    exact ltK A1
end
end
-- KLH
noncomputable section
open PySem PySem.W PyProof.Rows PySem.Calls PySem.Spec
set_option Elab.async false
set_option maxRecDepth 100000
set_option maxHeartbeats 8000000
set_option linter.unusedVariables false
open LCg LCt
theorem fm35 (x : Int) : 0 ≤ x.fmod 35 ∧ x.fmod 35 < 35 := ⟨Int.fmod_nonneg_of_pos _ (by decide), Int.fmod_lt_of_pos _ (by decide)⟩
noncomputable def even024 (r : Int) : Bool := r == 0 || (r == 2 || r == 4)
theorem in_024 {prog : Program} {w : World} {A : Around} {E : Value → Shared → Prop} {s : Shared} {h₀ : Heap} {L : Addr} {news : List (Addr × Obj)} {l : Addr} {n : Nat} {r : Int} {tr t0 t1 t2 : Tok} {Q : Value → Shared → Prop} (N : News h₀ L s.heap news) (hm : (l, ({ cls := .type "tuple", data := .seq #[.int 0 t0, .int 2 t1, .int 4 t2] n } : Obj)) ∈ news) (h : Q (.bool (even024 r)) s) :
    wpAny (model prog w) A (compareOp .In (.int r tr) (.ref l)) Q E s := by
  refine PySem.SeqRoads2.in_tuple (isInt r) (fun y hy => eq_isInt r tr (vs := [.int 0 t0, .int 2 t1, .int 4 t2]) (ns := [0, 2, 4]) (.cons _ _ (.cons _ _ (.cons _ _ .nil))) y (by simpa using hy)) (N _ hm).1 ?_
  have e : (#[Value.int 0 t0, .int 2 t1, .int 4 t2] : Array Value).any (isInt r) = even024 r := by
    simp only [isInt, even024]
    have c : ∀ a b : Int, (a == b) = (b == a) := fun a b => by rw [Bool.eq_iff_iff, beq_iff_eq, beq_iff_eq]; exact eq_comm
    simp [c r]
    rfl
  rw [e]; exact h
noncomputable def worF (cs : List Int) (i : Nat) : Int := 2 * (((List.range 8).filter fun j => ltL (codF cs j) (codF cs i)).length : Int) + (if even024 (tabF cs i) = true then 1 else 0)
theorem worF_t {cs : List Int} {i cnt : Nat} (h : even024 (tabF cs i) = true) (hc : cnt = ((List.range 8).filter fun j => ltL (codF cs j) (codF cs i)).length) : worF cs i = 2 * (cnt : Int) + 1 := by
  unfold worF; rw [← hc, if_pos h]
theorem worF_f {cs : List Int} {i cnt : Nat} (h : even024 (tabF cs i) = false) (hc : cnt = ((List.range 8).filter fun j => ltL (codF cs j) (codF cs i)).length) : worF cs i = 2 * (cnt : Int) + 0 := by
  unfold worF; rw [← hc, h]; rfl
theorem newsMid2 {h₀ h : Heap} {L : Addr} {a b : Addr × Obj} {l : List (Addr × Obj)} (N : News h₀ L h (a :: b :: l)) : News h₀ L h l := fun p hp => N p (.tail _ (.tail _ hp))
section
local macro_rules | `(tactic| k_mem) => `(tactic| ((repeat (apply List.Mem.tail)); refine memOf ?_; with_reducible assumption))
theorem law_H (w : World) (mean : ExcName → Option Value) (mg mb : PySem.Str → Option Value) {g h : Heap} {L f : Addr} {cdv : Value} {m : PySem.Str → Option Value} {gens : Array GenState} {drawn : Drawn} {toks : Nat} {os : OsState} {Q : Flow → Shared → Prop} {E : Value → Shared → Prop} {lco lr l lw : Addr} {o1 : Obj} {o2 : Obj} {o3 : Obj} {o4 : Obj} {o5 : Obj} {o6 : Obj} {o7 : Obj} {o8 : Obj} {o9 : Obj} {o10 : Obj} {kv kv10 : Option Value} {cvs rvs : List Value} {cs : List Int} {codA wA : Array Value} {n4 n6 : Nat} {inn : List (Addr × Obj)}
   (B : Below callerA g [] g) (X : (KF w.params).In g) (T : Top vw LW mean mg mb g) (F : Fr g L h m) (N : News g L h ((lw, W.listOf wA n6) :: (lco, W.listOf codA n4) :: (lr, lst rvs) :: (l, W.listOf cvs.toArray 0) :: (L + 1 + 1 + 1 + 1 + 1 + 1 + 1 + 1 + 1 + 1, o10) :: (L + 1 + 1 + 1 + 1 + 1 + 1 + 1 + 1 + 1, o9) :: (L + 1 + 1 + 1 + 1 + 1 + 1 + 1 + 1, o8) :: (L + 1 + 1 + 1 + 1 + 1 + 1 + 1, o7) :: (L + 1 + 1 + 1 + 1 + 1 + 1, o6) :: (L + 1 + 1 + 1 + 1 + 1, o5) :: (L + 1 + 1 + 1 + 1, o4) :: (L + 1 + 1 + 1, o3) :: (L + 1 + 1, o2) :: (L + 1, o1) :: inn)) (d1 : o1.data = .cell (some (.ref l))) (d2 : o2.data = .cell kv) (d5 : o5.data = .cell (some (.ref lco))) (d10 : o10.data = .cell kv10) (hI : IntsAre cvs cs) (hlen : cs.length = 3) (hrt : m (PySem.Str.ofString "right") = some (.bool true)) (hwo : m (PySem.Str.ofString "won") = some (.ref lw)) (hD : Dst [lw, lco, lr, l, L + 1 + 1 + 1 + 1 + 1 + 1 + 1 + 1 + 1 + 1, L + 1 + 1 + 1 + 1 + 1 + 1 + 1 + 1 + 1, L + 1 + 1 + 1 + 1 + 1 + 1 + 1 + 1, L + 1 + 1 + 1 + 1 + 1 + 1 + 1, L + 1 + 1 + 1 + 1 + 1 + 1, L + 1 + 1 + 1 + 1 + 1, L + 1 + 1 + 1 + 1, L + 1 + 1 + 1, L + 1 + 1, L + 1]) (hin : ∀ p ∈ inn, NeAll p.1 [lw, lco, lr, l, L + 1 + 1 + 1 + 1 + 1 + 1 + 1 + 1 + 1 + 1, L + 1 + 1 + 1 + 1 + 1 + 1 + 1 + 1 + 1, L + 1 + 1 + 1 + 1 + 1 + 1 + 1 + 1, L + 1 + 1 + 1 + 1 + 1 + 1 + 1, L + 1 + 1 + 1 + 1 + 1 + 1, L + 1 + 1 + 1 + 1 + 1, L + 1 + 1 + 1 + 1, L + 1 + 1 + 1, L + 1 + 1, L + 1]) (hC : CodesAt inn codA.toList ((List.range 8).map (codF cs))) (hCs : codA.size = 8)
   (hE : PassesOwn (model pwC w) (callerA.deeper (envOfC (PySem.Str.ofString "law") lawSc L f cdv)) (envOfC (PySem.Str.ofString "law") lawSc L f cdv) E)
   (use : ∀ (h' : Heap) (tk' : Nat) (m' : PySem.Str → Option Value) (lwt : Addr) (o2' o10' : Obj) (wtA : Array Value) (n7 : Nat), Fr g L h' m' → News g L h' ((lwt, W.listOf wtA n7) :: (lw, W.listOf wA n6) :: (lco, W.listOf codA n4) :: (lr, lst rvs) :: (l, W.listOf cvs.toArray 0) :: (L + 1 + 1 + 1 + 1 + 1 + 1 + 1 + 1 + 1 + 1, o10') :: (L + 1 + 1 + 1 + 1 + 1 + 1 + 1 + 1 + 1, o9) :: (L + 1 + 1 + 1 + 1 + 1 + 1 + 1 + 1, o8) :: (L + 1 + 1 + 1 + 1 + 1 + 1 + 1, o7) :: (L + 1 + 1 + 1 + 1 + 1 + 1, o6) :: (L + 1 + 1 + 1 + 1 + 1, o5) :: (L + 1 + 1 + 1 + 1, o4) :: (L + 1 + 1 + 1, o3) :: (L + 1 + 1, o2') :: (L + 1, o1) :: inn) → o10'.data = .cell (some (.ref lwt)) → m' (PySem.Str.ofString "right") = some (.bool true) → m' (PySem.Str.ofString "won") = some (.ref lw) → wtA.size = 8 → IntsAre wtA.toList ((List.range 8).map (worF cs)) → NesK lwt ((lw, W.listOf wA n6) :: (lco, W.listOf codA n4) :: (lr, lst rvs) :: (l, W.listOf cvs.toArray 0) :: (L + 1 + 1 + 1 + 1 + 1 + 1 + 1 + 1 + 1 + 1, o10') :: (L + 1 + 1 + 1 + 1 + 1 + 1 + 1 + 1 + 1, o9) :: (L + 1 + 1 + 1 + 1 + 1 + 1 + 1 + 1, o8) :: (L + 1 + 1 + 1 + 1 + 1 + 1 + 1, o7) :: (L + 1 + 1 + 1 + 1 + 1 + 1, o6) :: (L + 1 + 1 + 1 + 1 + 1, o5) :: (L + 1 + 1 + 1 + 1, o4) :: (L + 1 + 1 + 1, o3) :: (L + 1 + 1, o2') :: (L + 1, o1) :: inn) → Q .next ⟨h', gens, drawn, tk', os⟩) : wpAny (model pwC w) (callerA.deeper (envOfC (PySem.Str.ofString "law") lawSc L f cdv)) (execs lawH (envOfC (PySem.Str.ofString "law") lawSc L f cdv)) Q E ⟨h, gens, drawn, toks, os⟩ := by
  have hfill : (PySem.Challenge.rw_yh0002_01 = PySem.Challenge.rw_yh0002_01) ∧ KF = KF := by k_fill; exact ⟨rfl, rfl⟩
  clear hfill
  unfold lawH
  unfold lawSc at *
  dsimp only at hE ⊢
  have nk2_0 : NeK lw (L + 1 + 1) := ⟨dstAt hD (i := 0) (j := 12) rfl rfl (by decide)⟩
  have nk2_1 : NeK lco (L + 1 + 1) := ⟨dstAt hD (i := 1) (j := 12) rfl rfl (by decide)⟩
  have nk2_2 : NeK lr (L + 1 + 1) := ⟨dstAt hD (i := 2) (j := 12) rfl rfl (by decide)⟩
  have nk2_3 : NeK l (L + 1 + 1) := ⟨dstAt hD (i := 3) (j := 12) rfl rfl (by decide)⟩
  have hin2 : ∀ p ∈ inn, p.1 ≠ (L + 1 + 1) := fun p hp => (hin p hp).2.2.2.2.2.2.2.2.2.2.2.2.1
  have nk10_0 : NeK lw (L + 1 + 1 + 1 + 1 + 1 + 1 + 1 + 1 + 1 + 1) := ⟨dstAt hD (i := 0) (j := 4) rfl rfl (by decide)⟩
  have nk10_1 : NeK lco (L + 1 + 1 + 1 + 1 + 1 + 1 + 1 + 1 + 1 + 1) := ⟨dstAt hD (i := 1) (j := 4) rfl rfl (by decide)⟩
  have nk10_2 : NeK lr (L + 1 + 1 + 1 + 1 + 1 + 1 + 1 + 1 + 1 + 1) := ⟨dstAt hD (i := 2) (j := 4) rfl rfl (by decide)⟩
  have nk10_3 : NeK l (L + 1 + 1 + 1 + 1 + 1 + 1 + 1 + 1 + 1 + 1) := ⟨dstAt hD (i := 3) (j := 4) rfl rfl (by decide)⟩
  have hin10 : ∀ p ∈ inn, p.1 ≠ (L + 1 + 1 + 1 + 1 + 1 + 1 + 1 + 1 + 1 + 1) := fun p hp => (hin p hp).2.2.2.2.1
  (repeat' (first | (k_unfold; (try dsimp only)) | (k_end; wrow_close) | (with_reducible ((with_reducible show wpAny _ _ (compareOp CmpOp.In (Value.int _ _) (Value.ref _)) _ _ _); k_dflt (refine' in_024 ?zk19 ?zk29 ?_; (case zk19 => k_asm); (case zk29 => (repeat (first | exact List.Mem.head _ | apply List.Mem.tail)))))) | (with_reducible ((with_reducible show wpAny _ _ (call (Value.builtin "len") _ _) _ _ _); k_dflt (refine' PySem.W.KM.len_K ?zk19 ?zk29 ?zk39 ?zk49 ?_; (case zk19 => k_asm); (case zk29 => exact List.Mem.head _); (case zk39 => with_reducible assumption); (case zk49 => omega)))) | (with_reducible ((with_reducible show wpAny _ _ (compareOp CmpOp.Lt (Value.ref _) (Value.ref _)) _ _ _); k_dflt (refine' lt_codes ?zk19 ?zk29 ?zk39 ?zk49 ?zk59 ?zk69 ?_; (case zk19 => k_asm); (case zk29 => k_mem); (case zk39 => k_mem); (case zk49 => with_reducible assumption); (case zk59 => with_reducible assumption); (case zk69 => ktr_units)))) | (with_reducible ((with_reducible show wpAny _ _ (subscriptTail _ _ _ _) _ _ _); (with_reducible show wpAny _ _ (subscriptTail _ _ (Value.ref _) (Value.int (Nat.cast _) _)) _ _ _); k_dflt (refine' item_codes ?zk19 ?zk29 ?zk39 ?zk49 ?zk59 ?_; (case zk19 => k_asm); (case zk29 => (repeat (first | exact List.Mem.head _ | apply List.Mem.tail))); (case zk59 => with_reducible assumption); (case zk39 => omega); (case zk49 => omega)))) | (with_reducible ((with_reducible show LCg.FinA _ _ _ _ _ _ _); (unfold LCg.FinA); intro D' h' tk' F' N' o1'; (refine nesSplit (off1K o1') ?_; dsimp only [NesArrow]; intros; (try (refine nesArrow_intro ?_; intro _))); clear o1'; (try simp only [List.nil_append, List.cons_append] at N'); (try dsimp only))) | (with_reducible ((with_reducible show LCg.FinE _ _ _ _ _ _ _); (unfold LCg.FinE); intro D' h' tk' F' N' o1'; (refine nesSplit (off1K o1') ?_; dsimp only [NesArrow]; intros; (try (refine nesArrow_intro ?_; intro _))); clear o1'; (try simp only [List.nil_append, List.cons_append] at N'); (try dsimp only))) | (with_reducible ((with_reducible show wpAny _ _ (eval (PySem.Expr.ListComp _ _ _ _) _) _ _ _); (with_reducible show wpAny _ _ (eval (PySem.Expr.ListComp _ [⟨_, _, [], _⟩] _ _) _) _ _ _); k_dflt (refine LCg.ListComp_U (F₀ := by k_asm) (by with_unfolding_all rfl) (by decide) (by rfl) (by decide) (by rfl) ?_); k_dflt lcg_toSrc)) | (with_reducible ((with_reducible show wpAny _ _ (eval (PySem.Expr.ListComp _ _ _ _) _) _ _ _); (with_reducible show wpAny _ _ (eval (PySem.Expr.ListComp _ [⟨_, _, [_], _⟩] _ _) _) _ _ _); k_dflt (refine LCt.ListComp_T (F₀ := by k_asm) (by with_unfolding_all rfl) (by decide) (by rfl) (by decide) (by rfl) ?_); k_dflt lct_toSrc)) | (with_reducible ((with_reducible show wpAny _ _ (exec (Stmt.For _ _ _ _ _) _) _ _ _); (rename Fr _ _ _ _ => lF'); (with_unfolding_all refine' For_turns lF' ?_ ?zhs99 ?zhE99; (case zhs99 => (intro _; rfl)); (case zhE99 => assumption); k_whole))) | (with_reducible ((with_reducible show wpAny _ _ (eval (PySem.Expr.Name _ _) _) _ _ _); k_dflt (refine' nameX_L ?zF9 ?zv9 ?_ ?za9 ?zb9; (case zF9 => k_asm); (case za9 => rfl); (case zb9 => rfl); (case zv9 => first | with_reducible assumption | ((try dsimp only); first | with_reducible assumption | (refine (if_neg (by decide)).trans ?_; with_reducible assumption) | (refine (if_neg (by decide)).trans ((if_neg (by decide)).trans ?_); with_reducible assumption) | (refine (if_neg (by decide)).trans ((if_neg (by decide)).trans ((if_neg (by decide)).trans ?_)); with_reducible assumption))); k_whole))) | walk1 | (dsimp only; walk1) | (leave1; walk_say "STEP leave1"; try dsimp only) | fail "no step"))
  refine Hold.mk ?_
  rename_i lwt hh1 A1 hh2 o10n FF NN d10n hh3 tk3 t3 u3 v3 r3 F3 N3 k3
  have hinw : ∀ p ∈ inn, p.1 ≠ lwt := nesKTo (ltK A1.2.2.2.2.2.2.2.2.2.2.2.2.2.2)
  clear k3 NN FF
  refine turns_rangeQ (L := L) (n := 8) (fun i m₁ nx => ∀ G9 : Prop, (∀ (o2' : Obj) (kv : Option Value) (wtA : Array Value) (n7 : Nat), nx = (lwt, W.listOf wtA n7) :: (lw, W.listOf wA n6) :: (lco, W.listOf codA n4) :: (lr, lst rvs) :: (l, W.listOf cvs.toArray 0) :: (L + 1 + 1 + 1 + 1 + 1 + 1 + 1 + 1 + 1 + 1, o10n) :: (L + 1 + 1 + 1 + 1 + 1 + 1 + 1 + 1 + 1, o9) :: (L + 1 + 1 + 1 + 1 + 1 + 1 + 1 + 1, o8) :: (L + 1 + 1 + 1 + 1 + 1 + 1 + 1, o7) :: (L + 1 + 1 + 1 + 1 + 1 + 1, o6) :: (L + 1 + 1 + 1 + 1 + 1, o5) :: (L + 1 + 1 + 1 + 1, o4) :: (L + 1 + 1 + 1, o3) :: (L + 1 + 1, o2') :: (L + 1, o1) :: inn → o2'.data = .cell kv → m₁ (PySem.Str.ofString "right") = some (.bool true) → m₁ (PySem.Str.ofString "won") = some (.ref lw) → wtA.size = i → IntsAre wtA.toList ((List.range i).map (worF cs)) → G9) → G9) rfl (by rfl) (by k_asm) ?hsm ?hn (by k_asm) (by k_asm) ?h0 ?turn ?done
  case hsm => decide
  case hn => rfl
  case h0 => (intro G9 k9; exact k9 o2 kv #[] 0 rfl d2 hrt hwo rfl .nil)
  case turn =>
    clear r3
    intro i t m₁ nx h tk I oI Qz hi' hJ hne F' N' hQz
    refine hJ _ ?_
    intro o2' kv' wtA n7 e94 d2' hr₁ hw₁ z5 hW
    subst e94
    have hk0 : (0 : Int) + (i : Int) = (i : Int) := by omega
    rw [hk0]
    clear hk0
    refine cod_atK hC hi' ?_
    intro ci yi hCi hMi hIi
    have nkI2 : NeK (L + 1 + 1) I := ⟨hne (L + 1 + 1, o2') (by repeat (first | exact List.Mem.head _ | apply List.Mem.tail))⟩
    have nkIr : NeK lwt I := ⟨hne _ (.head _)⟩
    have hne' := Kept.mk hne
    clear hne
    have hpw : (0 : Int) < 35 ^ ((i : Int)).toNat := Int.pow_pos (by decide)
    (repeat' (first | (k_unfold; (try dsimp only)) | (k_end; wrow_close) | (with_reducible ((with_reducible show wpAny _ _ (compareOp CmpOp.In (Value.int _ _) (Value.ref _)) _ _ _); k_dflt (refine' in_024 ?zk19 ?zk29 ?_; (case zk19 => k_asm); (case zk29 => (repeat (first | exact List.Mem.head _ | apply List.Mem.tail)))))) | (with_reducible ((with_reducible show wpAny _ _ (call (Value.builtin "len") _ _) _ _ _); k_dflt (refine' PySem.W.KM.len_K ?zk19 ?zk29 ?zk39 ?zk49 ?_; (case zk19 => k_asm); (case zk29 => exact List.Mem.head _); (case zk39 => with_reducible assumption); (case zk49 => omega)))) | (with_reducible ((with_reducible show wpAny _ _ (compareOp CmpOp.Lt (Value.ref _) (Value.ref _)) _ _ _); k_dflt (refine' lt_codes ?zk19 ?zk29 ?zk39 ?zk49 ?zk59 ?zk69 ?_; (case zk19 => k_asm); (case zk29 => k_mem); (case zk39 => k_mem); (case zk49 => with_reducible assumption); (case zk59 => with_reducible assumption); (case zk69 => ktr_units)))) | (with_reducible ((with_reducible show wpAny _ _ (subscriptTail _ _ _ _) _ _ _); (with_reducible show wpAny _ _ (subscriptTail _ _ (Value.ref _) (Value.int (Nat.cast _) _)) _ _ _); k_dflt (refine' item_codes ?zk19 ?zk29 ?zk39 ?zk49 ?zk59 ?_; (case zk19 => k_asm); (case zk29 => (repeat (first | exact List.Mem.head _ | apply List.Mem.tail))); (case zk59 => with_reducible assumption); (case zk39 => omega); (case zk49 => omega)))) | (with_reducible ((with_reducible show LCg.FinA _ _ _ _ _ _ _); (unfold LCg.FinA); intro D' h' tk' F' N' o1'; (refine nesSplit (off1K o1') ?_; dsimp only [NesArrow]; intros; (try (refine nesArrow_intro ?_; intro _))); clear o1'; (try simp only [List.nil_append, List.cons_append] at N'); (try dsimp only))) | (with_reducible ((with_reducible show LCg.FinE _ _ _ _ _ _ _); (unfold LCg.FinE); intro D' h' tk' F' N' o1'; (refine nesSplit (off1K o1') ?_; dsimp only [NesArrow]; intros; (try (refine nesArrow_intro ?_; intro _))); clear o1'; (try simp only [List.nil_append, List.cons_append] at N'); (try dsimp only))) | (with_reducible ((with_reducible show wpAny _ _ (eval (PySem.Expr.ListComp _ _ _ _) _) _ _ _); (with_reducible show wpAny _ _ (eval (PySem.Expr.ListComp _ [⟨_, _, [], _⟩] _ _) _) _ _ _); k_dflt (refine LCg.ListComp_U (F₀ := by k_asm) (by with_unfolding_all rfl) (by decide) (by rfl) (by decide) (by rfl) ?_); k_dflt lcg_toSrc)) | (with_reducible ((with_reducible show wpAny _ _ (eval (PySem.Expr.ListComp _ _ _ _) _) _ _ _); (with_reducible show wpAny _ _ (eval (PySem.Expr.ListComp _ [⟨_, _, [_], _⟩] _ _) _) _ _ _); k_dflt (refine LCt.ListComp_T (F₀ := by k_asm) (by with_unfolding_all rfl) (by decide) (by rfl) (by decide) (by rfl) ?_); k_dflt lct_toSrc)) | (with_reducible ((with_reducible show wpAny _ _ (exec (Stmt.For _ _ _ _ _) _) _ _ _); (rename Fr _ _ _ _ => lF'); (with_unfolding_all refine' For_turns lF' ?_ ?zhs99 ?zhE99; (case zhs99 => (intro _; rfl)); (case zhE99 => assumption); k_whole))) | (with_reducible ((with_reducible show wpAny _ _ (eval (PySem.Expr.Name _ _) _) _ _ _); k_dflt (refine' nameX_L ?zF9 ?zv9 ?_ ?za9 ?zb9; (case zF9 => k_asm); (case za9 => rfl); (case zb9 => rfl); (case zv9 => first | with_reducible assumption | ((try dsimp only); first | with_reducible assumption | (refine (if_neg (by decide)).trans ?_; with_reducible assumption) | (refine (if_neg (by decide)).trans ((if_neg (by decide)).trans ?_); with_reducible assumption) | (refine (if_neg (by decide)).trans ((if_neg (by decide)).trans ((if_neg (by decide)).trans ?_)); with_reducible assumption))); k_whole))) | walk1 | (dsimp only; walk1) | (leave1; walk_say "STEP leave1"; try dsimp only) | fail "no step"))
    · exact absurd (by assumption) (Int.ne_of_gt hpw)
    refine Hold.mk ?_
    have say1 : Say 1 (fun (p : Nat) => ltL (codF cs p) (codF cs i)) := ⟨⟩
    have say2 : Say 1 (fun (p : Nat) (y : Value) => True) := ⟨⟩
    refine' LCt.CompSrcT.ledger (by rfl) (by k_asm) (by k_asm) ?hmm3 ?hsz3 ?hrest3
    case hmm3 => (repeat (first | exact List.Mem.head _ | apply List.Mem.tail))
    case hsz3 => (rw [sizeLine_eq, hCs]; decide)
    intro g'
    refine restT_say 1 (by assumption) (by assumption) (Or.inr ⟨_, by (repeat (first | exact List.Mem.head _ | apply List.Mem.tail)), rfl, _, rfl⟩) ?step ?fin
    case step =>
      refine Hold.mk ?_
      intro i' v' I' oI' C' oC' D' ys' m' h' tk' E' hi2 hv' hC' hx' F' N' off' ne'
      rw [hCs] at hi2
      refine cod_atK hC hi2 ?_
      intro cj yj hCj hMj hIj
      obtain rfl : v' = .ref cj := by
        have e1 : codA[i']? = some (.ref cj) := hCj
        rw [e1] at hv'
        exact (Option.some.inj hv').symm
      clear hv' hCj
      (repeat' (first | (k_unfold; (try dsimp only)) | (k_end; wrow_close) | (with_reducible ((with_reducible show wpAny _ _ (compareOp CmpOp.In (Value.int _ _) (Value.ref _)) _ _ _); k_dflt (refine' in_024 ?zk19 ?zk29 ?_; (case zk19 => k_asm); (case zk29 => (repeat (first | exact List.Mem.head _ | apply List.Mem.tail)))))) | (with_reducible ((with_reducible show wpAny _ _ (call (Value.builtin "len") _ _) _ _ _); k_dflt (refine' PySem.W.KM.len_K ?zk19 ?zk29 ?zk39 ?zk49 ?_; (case zk19 => k_asm); (case zk29 => exact List.Mem.head _); (case zk39 => with_reducible assumption); (case zk49 => omega)))) | (with_reducible ((with_reducible show wpAny _ _ (compareOp CmpOp.Lt (Value.ref _) (Value.ref _)) _ _ _); k_dflt (refine' lt_codes ?zk19 ?zk29 ?zk39 ?zk49 ?zk59 ?zk69 ?_; (case zk19 => k_asm); (case zk29 => k_mem); (case zk39 => k_mem); (case zk49 => with_reducible assumption); (case zk59 => with_reducible assumption); (case zk69 => ktr_units)))) | (with_reducible ((with_reducible show wpAny _ _ (subscriptTail _ _ _ _) _ _ _); (with_reducible show wpAny _ _ (subscriptTail _ _ (Value.ref _) (Value.int (Nat.cast _) _)) _ _ _); k_dflt (refine' item_codes ?zk19 ?zk29 ?zk39 ?zk49 ?zk59 ?_; (case zk19 => k_asm); (case zk29 => (repeat (first | exact List.Mem.head _ | apply List.Mem.tail))); (case zk59 => with_reducible assumption); (case zk39 => omega); (case zk49 => omega)))) | (with_reducible ((with_reducible show LCg.FinA _ _ _ _ _ _ _); (unfold LCg.FinA); intro D' h' tk' F' N' o1'; (refine nesSplit (off1K o1') ?_; dsimp only [NesArrow]; intros; (try (refine nesArrow_intro ?_; intro _))); clear o1'; (try simp only [List.nil_append, List.cons_append] at N'); (try dsimp only))) | (with_reducible ((with_reducible show LCg.FinE _ _ _ _ _ _ _); (unfold LCg.FinE); intro D' h' tk' F' N' o1'; (refine nesSplit (off1K o1') ?_; dsimp only [NesArrow]; intros; (try (refine nesArrow_intro ?_; intro _))); clear o1'; (try simp only [List.nil_append, List.cons_append] at N'); (try dsimp only))) | (with_reducible ((with_reducible show wpAny _ _ (eval (PySem.Expr.ListComp _ _ _ _) _) _ _ _); (with_reducible show wpAny _ _ (eval (PySem.Expr.ListComp _ [⟨_, _, [], _⟩] _ _) _) _ _ _); k_dflt (refine LCg.ListComp_U (F₀ := by k_asm) (by with_unfolding_all rfl) (by decide) (by rfl) (by decide) (by rfl) ?_); k_dflt lcg_toSrc)) | (with_reducible ((with_reducible show wpAny _ _ (eval (PySem.Expr.ListComp _ _ _ _) _) _ _ _); (with_reducible show wpAny _ _ (eval (PySem.Expr.ListComp _ [⟨_, _, [_], _⟩] _ _) _) _ _ _); k_dflt (refine LCt.ListComp_T (F₀ := by k_asm) (by with_unfolding_all rfl) (by decide) (by rfl) (by decide) (by rfl) ?_); k_dflt lct_toSrc)) | (with_reducible ((with_reducible show wpAny _ _ (exec (Stmt.For _ _ _ _ _) _) _ _ _); (rename Fr _ _ _ _ => lF'); (with_unfolding_all refine' For_turns lF' ?_ ?zhs99 ?zhE99; (case zhs99 => (intro _; rfl)); (case zhE99 => assumption); k_whole))) | (with_reducible ((with_reducible show wpAny _ _ (eval (PySem.Expr.Name _ _) _) _ _ _); k_dflt (refine' nameX_L ?zF9 ?zv9 ?_ ?za9 ?zb9; (case zF9 => k_asm); (case za9 => rfl); (case zb9 => rfl); (case zv9 => first | with_reducible assumption | ((try dsimp only); first | with_reducible assumption | (refine (if_neg (by decide)).trans ?_; with_reducible assumption) | (refine (if_neg (by decide)).trans ((if_neg (by decide)).trans ?_); with_reducible assumption) | (refine (if_neg (by decide)).trans ((if_neg (by decide)).trans ((if_neg (by decide)).trans ?_)); with_reducible assumption))); k_whole))) | walk1 | (dsimp only; walk1) | (leave1; walk_say "STEP leave1"; try dsimp only) | fail "no step"))
      all_goals (refine ⟨_, _, rfl, by with_reducible assumption, by with_reducible assumption, rfl, fun hq => ?_⟩; clear hq; (repeat' (first | (k_unfold; (try dsimp only)) | (k_end; wrow_close) | (with_reducible ((with_reducible show wpAny _ _ (compareOp CmpOp.In (Value.int _ _) (Value.ref _)) _ _ _); k_dflt (refine' in_024 ?zk19 ?zk29 ?_; (case zk19 => k_asm); (case zk29 => (repeat (first | exact List.Mem.head _ | apply List.Mem.tail)))))) | (with_reducible ((with_reducible show wpAny _ _ (call (Value.builtin "len") _ _) _ _ _); k_dflt (refine' PySem.W.KM.len_K ?zk19 ?zk29 ?zk39 ?zk49 ?_; (case zk19 => k_asm); (case zk29 => exact List.Mem.head _); (case zk39 => with_reducible assumption); (case zk49 => omega)))) | (with_reducible ((with_reducible show wpAny _ _ (compareOp CmpOp.Lt (Value.ref _) (Value.ref _)) _ _ _); k_dflt (refine' lt_codes ?zk19 ?zk29 ?zk39 ?zk49 ?zk59 ?zk69 ?_; (case zk19 => k_asm); (case zk29 => k_mem); (case zk39 => k_mem); (case zk49 => with_reducible assumption); (case zk59 => with_reducible assumption); (case zk69 => ktr_units)))) | (with_reducible ((with_reducible show wpAny _ _ (subscriptTail _ _ _ _) _ _ _); (with_reducible show wpAny _ _ (subscriptTail _ _ (Value.ref _) (Value.int (Nat.cast _) _)) _ _ _); k_dflt (refine' item_codes ?zk19 ?zk29 ?zk39 ?zk49 ?zk59 ?_; (case zk19 => k_asm); (case zk29 => (repeat (first | exact List.Mem.head _ | apply List.Mem.tail))); (case zk59 => with_reducible assumption); (case zk39 => omega); (case zk49 => omega)))) | (with_reducible ((with_reducible show LCg.FinA _ _ _ _ _ _ _); (unfold LCg.FinA); intro D' h' tk' F' N' o1'; (refine nesSplit (off1K o1') ?_; dsimp only [NesArrow]; intros; (try (refine nesArrow_intro ?_; intro _))); clear o1'; (try simp only [List.nil_append, List.cons_append] at N'); (try dsimp only))) | (with_reducible ((with_reducible show LCg.FinE _ _ _ _ _ _ _); (unfold LCg.FinE); intro D' h' tk' F' N' o1'; (refine nesSplit (off1K o1') ?_; dsimp only [NesArrow]; intros; (try (refine nesArrow_intro ?_; intro _))); clear o1'; (try simp only [List.nil_append, List.cons_append] at N'); (try dsimp only))) | (with_reducible ((with_reducible show wpAny _ _ (eval (PySem.Expr.ListComp _ _ _ _) _) _ _ _); (with_reducible show wpAny _ _ (eval (PySem.Expr.ListComp _ [⟨_, _, [], _⟩] _ _) _) _ _ _); k_dflt (refine LCg.ListComp_U (F₀ := by k_asm) (by with_unfolding_all rfl) (by decide) (by rfl) (by decide) (by rfl) ?_); k_dflt lcg_toSrc)) | (with_reducible ((with_reducible show wpAny _ _ (eval (PySem.Expr.ListComp _ _ _ _) _) _ _ _); (with_reducible show wpAny _ _ (eval (PySem.Expr.ListComp _ [⟨_, _, [_], _⟩] _ _) _) _ _ _); k_dflt (refine LCt.ListComp_T (F₀ := by k_asm) (by with_unfolding_all rfl) (by decide) (by rfl) (by decide) (by rfl) ?_); k_dflt lct_toSrc)) | (with_reducible ((with_reducible show wpAny _ _ (exec (Stmt.For _ _ _ _ _) _) _ _ _); (rename Fr _ _ _ _ => lF'); (with_unfolding_all refine' For_turns lF' ?_ ?zhs99 ?zhE99; (case zhs99 => (intro _; rfl)); (case zhE99 => assumption); k_whole))) | (with_reducible ((with_reducible show wpAny _ _ (eval (PySem.Expr.Name _ _) _) _ _ _); k_dflt (refine' nameX_L ?zF9 ?zv9 ?_ ?za9 ?zb9; (case zF9 => k_asm); (case za9 => rfl); (case zb9 => rfl); (case zv9 => first | with_reducible assumption | ((try dsimp only); first | with_reducible assumption | (refine (if_neg (by decide)).trans ?_; with_reducible assumption) | (refine (if_neg (by decide)).trans ((if_neg (by decide)).trans ?_); with_reducible assumption) | (refine (if_neg (by decide)).trans ((if_neg (by decide)).trans ((if_neg (by decide)).trans ?_)); with_reducible assumption))); k_whole))) | walk1 | (dsimp only; walk1) | (leave1; walk_say "STEP leave1"; try dsimp only) | fail "no step")); exact ⟨_, _, rfl, by with_reducible assumption, by with_reducible assumption, trivial⟩)
    clear say1 say2
    refine Hold.mk ?_
    intro ys2 hT'
    have hyl := hT'.length; clear hT'
    rw [hCs] at hyl
    obtain ⟨cnt, hcnt⟩ : ∃ c : Nat, Kept (c = ((List.range 8).filter fun j => ltL (codF cs j) (codF cs i)).length) := ⟨_, ⟨rfl⟩⟩
    have hyz : ys2.toArray.size = cnt := by rw [List.size_toArray, hcnt.out]; exact hyl.symm
    have hcb : cnt ≤ 8 := by rw [hcnt.out]; exact Nat.le_trans (List.length_filter_le _ _) (by rw [List.length_range]; exact Nat.le_refl 8)
    clear hyl
    (repeat' (first | (k_unfold; (try dsimp only)) | (k_end; wrow_close) | (with_reducible ((with_reducible show wpAny _ _ (compareOp CmpOp.In (Value.int _ _) (Value.ref _)) _ _ _); k_dflt (refine' in_024 ?zk19 ?zk29 ?_; (case zk19 => k_asm); (case zk29 => (repeat (first | exact List.Mem.head _ | apply List.Mem.tail)))))) | (with_reducible ((with_reducible show wpAny _ _ (call (Value.builtin "len") _ _) _ _ _); k_dflt (refine' PySem.W.KM.len_K ?zk19 ?zk29 ?zk39 ?zk49 ?_; (case zk19 => k_asm); (case zk29 => exact List.Mem.head _); (case zk39 => with_reducible assumption); (case zk49 => omega)))) | (with_reducible ((with_reducible show wpAny _ _ (compareOp CmpOp.Lt (Value.ref _) (Value.ref _)) _ _ _); k_dflt (refine' lt_codes ?zk19 ?zk29 ?zk39 ?zk49 ?zk59 ?zk69 ?_; (case zk19 => k_asm); (case zk29 => k_mem); (case zk39 => k_mem); (case zk49 => with_reducible assumption); (case zk59 => with_reducible assumption); (case zk69 => ktr_units)))) | (with_reducible ((with_reducible show wpAny _ _ (subscriptTail _ _ _ _) _ _ _); (with_reducible show wpAny _ _ (subscriptTail _ _ (Value.ref _) (Value.int (Nat.cast _) _)) _ _ _); k_dflt (refine' item_codes ?zk19 ?zk29 ?zk39 ?zk49 ?zk59 ?_; (case zk19 => k_asm); (case zk29 => (repeat (first | exact List.Mem.head _ | apply List.Mem.tail))); (case zk59 => with_reducible assumption); (case zk39 => omega); (case zk49 => omega)))) | (with_reducible ((with_reducible show LCg.FinA _ _ _ _ _ _ _); (unfold LCg.FinA); intro D' h' tk' F' N' o1'; (refine nesSplit (off1K o1') ?_; dsimp only [NesArrow]; intros; (try (refine nesArrow_intro ?_; intro _))); clear o1'; (try simp only [List.nil_append, List.cons_append] at N'); (try dsimp only))) | (with_reducible ((with_reducible show LCg.FinE _ _ _ _ _ _ _); (unfold LCg.FinE); intro D' h' tk' F' N' o1'; (refine nesSplit (off1K o1') ?_; dsimp only [NesArrow]; intros; (try (refine nesArrow_intro ?_; intro _))); clear o1'; (try simp only [List.nil_append, List.cons_append] at N'); (try dsimp only))) | (with_reducible ((with_reducible show wpAny _ _ (eval (PySem.Expr.ListComp _ _ _ _) _) _ _ _); (with_reducible show wpAny _ _ (eval (PySem.Expr.ListComp _ [⟨_, _, [], _⟩] _ _) _) _ _ _); k_dflt (refine LCg.ListComp_U (F₀ := by k_asm) (by with_unfolding_all rfl) (by decide) (by rfl) (by decide) (by rfl) ?_); k_dflt lcg_toSrc)) | (with_reducible ((with_reducible show wpAny _ _ (eval (PySem.Expr.ListComp _ _ _ _) _) _ _ _); (with_reducible show wpAny _ _ (eval (PySem.Expr.ListComp _ [⟨_, _, [_], _⟩] _ _) _) _ _ _); k_dflt (refine LCt.ListComp_T (F₀ := by k_asm) (by with_unfolding_all rfl) (by decide) (by rfl) (by decide) (by rfl) ?_); k_dflt lct_toSrc)) | (with_reducible ((with_reducible show wpAny _ _ (exec (Stmt.For _ _ _ _ _) _) _ _ _); (rename Fr _ _ _ _ => lF'); (with_unfolding_all refine' For_turns lF' ?_ ?zhs99 ?zhE99; (case zhs99 => (intro _; rfl)); (case zhE99 => assumption); k_whole))) | (with_reducible ((with_reducible show wpAny _ _ (eval (PySem.Expr.Name _ _) _) _ _ _); k_dflt (refine' nameX_L ?zF9 ?zv9 ?_ ?za9 ?zb9; (case zF9 => k_asm); (case za9 => rfl); (case zb9 => rfl); (case zv9 => first | with_reducible assumption | ((try dsimp only); first | with_reducible assumption | (refine (if_neg (by decide)).trans ?_; with_reducible assumption) | (refine (if_neg (by decide)).trans ((if_neg (by decide)).trans ?_); with_reducible assumption) | (refine (if_neg (by decide)).trans ((if_neg (by decide)).trans ((if_neg (by decide)).trans ?_)); with_reducible assumption))); k_whole))) | walk1 | (dsimp only; walk1) | (leave1; walk_say "STEP leave1"; try dsimp only) | fail "no step"))
    all_goals try dsimp only
    all_goals (refine' hQz _ _ _ _ ?zb1 (newsMid2 ?zb2) ?zb3 ?_; (case zb1 => assumption); (case zb2 => assumption); (case zb3 => exact neMap (l := [(lwt, W.listOf wtA n7), (lw, W.listOf wA n6), (lco, W.listOf codA n4), (lr, lst rvs), (l, W.listOf cvs.toArray 0), (L + 1 + 1 + 1 + 1 + 1 + 1 + 1 + 1 + 1 + 1, o10n), (L + 1 + 1 + 1 + 1 + 1 + 1 + 1 + 1 + 1, o9), (L + 1 + 1 + 1 + 1 + 1 + 1 + 1 + 1, o8), (L + 1 + 1 + 1 + 1 + 1 + 1 + 1, o7), (L + 1 + 1 + 1 + 1 + 1 + 1, o6), (L + 1 + 1 + 1 + 1 + 1, o5), (L + 1 + 1 + 1 + 1, o4), (L + 1 + 1 + 1, o3), (L + 1 + 1, o2'), (L + 1, o1)]) (l' := [(lwt, _), (lw, W.listOf wA n6), (lco, W.listOf codA n4), (lr, lst rvs), (l, W.listOf cvs.toArray 0), (L + 1 + 1 + 1 + 1 + 1 + 1 + 1 + 1 + 1 + 1, o10n), (L + 1 + 1 + 1 + 1 + 1 + 1 + 1 + 1 + 1, o9), (L + 1 + 1 + 1 + 1 + 1 + 1 + 1 + 1, o8), (L + 1 + 1 + 1 + 1 + 1 + 1 + 1, o7), (L + 1 + 1 + 1 + 1 + 1 + 1, o6), (L + 1 + 1 + 1 + 1 + 1, o5), (L + 1 + 1 + 1 + 1, o4), (L + 1 + 1 + 1, o3), (L + 1 + 1, _), (L + 1, o1)]) (inn := inn) hne'.out rfl); intro G9 k9; refine' k9 _ _ _ _ rfl ?zb4 ?zb5 ?zb6 ?zb7 ?zb8; (case zb4 => assumption); (case zb5 => ((try dsimp only); exact (if_neg (by decide)).trans hr₁)); (case zb6 => ((try dsimp only); exact (if_neg (by decide)).trans hw₁)); (case zb7 => (rw [Array.size_push, z5])); (case zb8 => first | (rw [← worF_t (cnt := cnt) (cs := cs) (i := i) (by assumption) hcnt.out]; exact ints_snoc (f := worF cs) hW) | (rw [← worF_f (cnt := cnt) (cs := cs) (i := i) (by assumption) hcnt.out]; exact ints_snoc (f := worF cs) hW)))
  case done =>
    intro m₁ nx h tk hJ F' N'
    refine hJ _ ?_
    intro o2' kv' wtA n7 e94 d2' hr₁ hw₁ z5 hW
    subst e94
    refine wpAny_execs_nil ?_
    refine use _ _ _ lwt o2' o10n _ _ F' N' d10n hr₁ hw₁ z5 hW ?_
    exact ltK A1
end
end
-- KPlain5
noncomputable section
open PySem PySem.W PyProof.Rows PySem.Calls PySem.Spec
set_option Elab.async false
set_option maxRecDepth 100000
set_option maxHeartbeats 8000000
set_option linter.unusedVariables false
theorem filter_lt {p q : Nat → Bool} {a : Nat} : ∀ {l : List Nat}, (∀ x, p x = true → q x = true) → a ∈ l → p a = false → q a = true → (l.filter p).length < (l.filter q).length
  | [], _, h, _, _ => absurd h List.not_mem_nil
  | x :: l, hs, ha, hp, hq => by
    have hle : ∀ l : List Nat, (l.filter p).length ≤ (l.filter q).length := by
      intro l
      induction l with
      | nil => exact Nat.le_refl _
      | cons y l ih =>
        rw [List.filter_cons, List.filter_cons]
        cases h1 : p y with
        | true => rw [hs y h1]; simpa using ih
        | false =>
          cases h2 : q y with
          | true => simp; omega
          | false => simpa using ih
    rcases List.mem_cons.mp ha with rfl | ha
    · rw [List.filter_cons, List.filter_cons, hp, hq]
      have := hle l
      simp; omega
    · have ih := filter_lt hs ha hp hq
      rw [List.filter_cons, List.filter_cons]
      cases h1 : p x with
      | true => rw [hs x h1]; simpa using ih
      | false =>
        cases h2 : q x with
        | true => simp; omega
        | false => simpa using ih
noncomputable def cntF (cs : List Int) (k : Nat) : Nat := ((List.range 8).filter fun j => ltL (codF cs j) (codF cs k)).length
theorem rankV_eq (cs : List Int) (k : Nat) : rankV cs k = (cntF cs k : Int) := by
  unfold rankV lessV cntF
  have e : (fun j' => ordV cs j' k == -1) = fun j => ltL (codF cs j) (codF cs k) := by
    funext j
    rw [Bool.eq_iff_iff, beq_iff_eq]
    exact coll_neg
  rw [e]
theorem worF_eq (cs : List Int) (k : Nat) : worF cs k = 2 * (cntF cs k : Int) + (if even024 (tabF cs k) = true then 1 else 0) := rfl
theorem cnt_lt {cs : List Int} {a b : Nat} (ha : a < 8) (h : ltL (codF cs a) (codF cs b) = true) : cntF cs a < cntF cs b := by
  unfold cntF
  exact filter_lt (a := a) (fun x hx => ltL_trans _ _ _ hx h) (List.mem_range.mpr ha) (ltL_irrefl _) h
theorem codes_inj {x y : PySem.Str} (h : codesOf x = codesOf y) : x = y := by
  unfold codesOf at h
  have h2 : x.cps.toList = y.cps.toList := by
    have hinj : Function.Injective (fun (c : Nat) => (c : Int)) := fun a b e => by
      have : (a : Int) = (b : Int) := e
      omega
    exact (List.map_inj_right (fun a b e => hinj e)).mp h
  cases x; cases y
  simp only [Array.toList_inj] at h2
  rw [h2]
theorem tab_bd (cs : List Int) (k : Nat) : 0 ≤ tabF cs k ∧ tabF cs k ≤ 4 := fd7 _
theorem tab_of_codes {cs : List Int} {a b : Nat} (h : codF cs a = codF cs b) : tabF cs a = tabF cs b := by
  have e : labF cs a = labF cs b := codes_inj h
  have e1 := labF_last cs a
  have e2 := labF_last cs b
  rw [e] at e1
  have e3 := e1.symm.trans e2
  have e4 : (sgn (tabF cs a) (prtV cs a)).toNat = (sgn (tabF cs b) (prtV cs b)).toNat := by
    have h5 : (⟨#[(sgn (tabF cs a) (prtV cs a)).toNat]⟩ : PySem.Str).cps.toList = (⟨#[(sgn (tabF cs b) (prtV cs b)).toNat]⟩ : PySem.Str).cps.toList := by rw [e3]
    simpa using h5
  rw [← (tbl_sgn (tabF cs a) (prtV cs a) (tab_bd cs a).1 (tab_bd cs a).2).2, ← (tbl_sgn (tabF cs b) (prtV cs b) (tab_bd cs b).1 (tab_bd cs b).2).2, e4]
theorem worth_mono {cs : List Int} {a b : Nat} (ha : a < 8) (hb : b < 8) (h : rankV cs a ≤ rankV cs b) : worF cs a ≤ worF cs b := by
  rw [rankV_eq, rankV_eq] at h
  rw [worF_eq, worF_eq]
  rcases Nat.lt_or_ge (cntF cs a) (cntF cs b) with hlt | hge
  · have h1 : (if even024 (tabF cs a) = true then (1 : Int) else 0) ≤ 1 := by split <;> decide
    have h2 : (0 : Int) ≤ (if even024 (tabF cs b) = true then (1 : Int) else 0) := by split <;> decide
    omega
  · have he : codF cs a = codF cs b := by
      refine ltL_tri _ _ ?_ ?_
      · cases e : ltL (codF cs a) (codF cs b)
        · rfl
        · have := cnt_lt ha e; omega
      · cases e : ltL (codF cs b) (codF cs a)
        · rfl
        · have := cnt_lt hb e; omega
    rw [tab_of_codes he]
    omega
theorem even_iff {t : Int} (h0 : 0 ≤ t) (h4 : t ≤ 4) : even024 t = true ↔ t.fmod 2 = 0 := by
  have : t = 0 ∨ t = 1 ∨ t = 2 ∨ t = 3 ∨ t = 4 := by omega
  rcases this with rfl | rfl | rfl | rfl | rfl <;> decide
theorem worth_par (cs : List Int) (a : Nat) : (tabF cs a).fmod 2 = 0 ↔ (worF cs a).fmod 2 = 1 := by
  rw [worF_eq, ← even_iff (tab_bd cs a).1 (tab_bd cs a).2]
  rw [Int.fmod_eq_emod_of_nonneg _ (by decide)]
  by_cases h : even024 (tabF cs a) = true
  · rw [if_pos h]; constructor
    · intro _; omega
    · intro _; exact h
  · rw [if_neg h]; constructor
    · intro h'; exact absurd h' h
    · intro h'; omega
theorem getD_rangeMap {f : Nat → Int} {n a : Nat} (h : a < n) : ((List.range n).map f).getD a 0 = f a := by
  rw [List.getD_eq_getElem?_getD, List.getElem?_map, List.getElem?_range h]; rfl
theorem worF_nonneg (cs : List Int) (a : Nat) : 0 ≤ worF cs a := by
  rw [worF_eq]
  have h2 : (0 : Int) ≤ (if even024 (tabF cs a) = true then (1 : Int) else 0) := by split <;> decide
  omega
theorem R16_eq : R16 = (List.range 16).map fun (c : Nat) => (c : Int) := by decide +kernel
theorem won_eq (rd rv tb : List Int) : ((List.range 16).map fun (c : Nat) => msk (herV rd rv tb (c : Int))) = wonV rd rv tb := by
  unfold wonV; rw [R16_eq, List.map_map]; rfl
theorem plain_law {cs rd : List Int} {o : Int} (hl : rd.length = 8) (hb : ∀ v ∈ rd, 0 ≤ v ∧ v < 4) (ho : 0 ≤ o ∧ o < 16) :
    dueV rd ((List.range 8).map (worF cs)) o ∈ sureOf (wonV rd ((List.range 8).map (rankV cs)) ((List.range 8).map (tabF cs))) o R16 R16 ∧ 15 - dueV rd ((List.range 8).map (worF cs)) o ∈ sureOf ((wonV rd ((List.range 8).map (rankV cs)) ((List.range 8).map (tabF cs))).map fun v => 15 - v) (15 - o) R16 R16 := by
  refine plain hl hb ho ?_ ?_ ?_
  · intro v hv
    obtain ⟨k, hk, rfl⟩ := List.mem_map.mp hv
    exact worF_nonneg cs k
  · intro a b ha hb'
    rw [getD_rangeMap ha, getD_rangeMap hb', getD_rangeMap ha, getD_rangeMap hb']
    exact worth_mono ha hb'
  · intro a ha
    rw [getD_rangeMap ha, getD_rangeMap ha]
    exact worth_par cs a
end
-- KLI
noncomputable section
open PySem PySem.W PyProof.Rows PySem.Calls PySem.Spec
set_option Elab.async false
set_option maxRecDepth 100000
set_option maxHeartbeats 8000000
set_option linter.unusedVariables false
open LCg LCt
theorem any_isInt {vs : List Value} {ns : List Int} {x : Int} (h : IntsAre vs ns) (hx : x ∈ ns) : vs.any (isInt x) = true := by
  obtain ⟨i, hi, e⟩ := List.getElem_of_mem hx
  obtain ⟨t, ht⟩ := h.get i x (by rw [List.getElem?_eq_getElem hi, e])
  rw [List.any_eq_true]
  exact ⟨_, List.mem_of_getElem? ht, by simp [isInt]⟩
theorem newsTail1 {h₀ h : Heap} {L : Addr} {a : Addr × Obj} {l : List (Addr × Obj)} (N : News h₀ L h (a :: l)) : News h₀ L h l := fun p hp => N p (.tail _ hp)
theorem due_b : ∀ a b c d : Bool, ((if a then [(1 : Int) * 2 ^ ((0 : Int) + ((0 : Nat) : Int)).toNat] else []) ++ ((if b then [(1 : Int) * 2 ^ ((0 : Int) + ((1 : Nat) : Int)).toNat] else []) ++ ((if c then [(1 : Int) * 2 ^ ((0 : Int) + ((2 : Nat) : Int)).toNat] else []) ++ (if d then [(1 : Int) * 2 ^ ((0 : Int) + ((3 : Nat) : Int)).toNat] else [])))).sum = mskB a b c d := by decide +kernel
theorem due_sum (q : Nat → Bool) : (((List.range 4).filter q).map (fun (p : Nat) => (1 : Int) * 2 ^ ((0 : Int) + (p : Int)).toNat)).sum = mskB (q 0) (q 1) (q 2) (q 3) := by
  have e : ((List.range 4).filter q).map (fun (p : Nat) => (1 : Int) * 2 ^ ((0 : Int) + (p : Int)).toNat) = ((if q 0 then [(1 : Int) * 2 ^ ((0 : Int) + ((0 : Nat) : Int)).toNat] else []) ++ ((if q 1 then [(1 : Int) * 2 ^ ((0 : Int) + ((1 : Nat) : Int)).toNat] else []) ++ ((if q 2 then [(1 : Int) * 2 ^ ((0 : Int) + ((2 : Nat) : Int)).toNat] else []) ++ (if q 3 then [(1 : Int) * 2 ^ ((0 : Int) + ((3 : Nat) : Int)).toNat] else [])))) := by
    have e4 : List.range 4 = [0, 1, 2, 3] := rfl
    rw [e4]
    cases h0 : q 0 <;> cases h1 : q 1 <;> cases h2 : q 2 <;> cases h3 : q 3 <;> simp [List.filter, h0, h1, h2, h3]
  rw [e]; exact due_b _ _ _ _
theorem in_yes {prog : Program} {w : World} {A : Around} {E : Value → Shared → Prop} {s : Shared} {h₀ : Heap} {L : Addr} {news : List (Addr × Obj)} {l : Addr} {n : Nat} {vs : List Value} {ns : List Int} {x : Int} {tx : Tok} {Q : Value → Shared → Prop} (N : News h₀ L s.heap news) (hm : (l, W.listOf vs.toArray n) ∈ news) (hi : IntsAre vs ns) (hx : Kept (x ∈ ns)) (h : Q (.bool true) s) :
    wpAny (model prog w) A (compareOp .In (.int x tx) (.ref l)) Q E s := by
  refine PySem.SeqAt.in_listAt (isInt x) (isListOf N hm) (fun y hy => (eq_isInt x tx hi y (by simpa using hy)).at _ _) ?_
  have e : (vs.toArray.any (isInt x)) = true := by
    rw [List.any_toArray]; exact any_isInt hi hx.out
  rw [e]; exact h
section
local macro_rules | `(tactic| walk_at "eval Name") => `(tactic| (k_here; k_dflt (refine' nameX_L ?F ?v ?_ ?a ?b; (case F => k_asm); (case a => rfl); (case b => rfl); (case v => first | with_reducible assumption | ((try dsimp only); first | with_reducible assumption | (refine (if_neg (by decide)).trans ?_; with_reducible assumption) | (refine (if_neg (by decide)).trans ((if_neg (by decide)).trans ?_); with_reducible assumption) | (refine (if_neg (by decide)).trans ((if_neg (by decide)).trans ((if_neg (by decide)).trans ?_)); with_reducible assumption))); k_whole)))
theorem law_I (w : World) (mean : ExcName → Option Value) (mg mb : PySem.Str → Option Value) {g h : Heap} {L f : Addr} {cdv : Value} {m : PySem.Str → Option Value} {gens : Array GenState} {drawn : Drawn} {toks : Nat} {os : OsState} {Q : Flow → Shared → Prop} {E : Value → Shared → Prop} {lr lw lwt : Addr} {o1 : Obj} {o2 : Obj} {o3 : Obj} {o4 : Obj} {o5 : Obj} {o6 : Obj} {o7 : Obj} {o8 : Obj} {o9 : Obj} {o10 : Obj} {rvs wvs uvs : List Value} {rd wv wt : List Int} {ow : Int} {tow : Tok} {n6 n7 n0 : Nat}
   (B : Below callerA g [] g) (X : (KF w.params).In g) (T : Top vw LW mean mg mb g) (F : Fr g L h m) (N : News g L h ((lwt, W.listOf uvs.toArray n7) :: (lw, W.listOf wvs.toArray n6) :: (lr, W.listOf rvs.toArray n0) :: (L + 1 + 1 + 1 + 1 + 1 + 1 + 1 + 1 + 1 + 1, o10) :: (L + 1 + 1 + 1 + 1 + 1 + 1 + 1 + 1 + 1, o9) :: (L + 1 + 1 + 1 + 1 + 1 + 1 + 1 + 1, o8) :: (L + 1 + 1 + 1 + 1 + 1 + 1 + 1, o7) :: (L + 1 + 1 + 1 + 1 + 1 + 1, o6) :: (L + 1 + 1 + 1 + 1 + 1, o5) :: (L + 1 + 1 + 1 + 1, o4) :: (L + 1 + 1 + 1, o3) :: (L + 1 + 1, o2) :: (L + 1, o1) :: [])) (d3 : o3.data = .cell (some (.ref lr))) (d4 : o4.data = .cell (some (.int ow tow))) (d10 : o10.data = .cell (some (.ref lwt))) (hrt : m (PySem.Str.ofString "right") = some (.bool true)) (hwo : m (PySem.Str.ofString "won") = some (.ref lw)) (hI : IntsAre rvs rd) (hRl : rd.length = 8) (hRb : ∀ v ∈ rd, 0 ≤ v ∧ v < 4) (hW : IntsAre wvs wv) (hWl : wv.length = 16) (hU : IntsAre uvs wt) (hUl : wt.length = 8) (hUp : ∀ v ∈ wt, 0 ≤ v) (ho : 0 ≤ ow ∧ ow < 16) (hy1 : Kept (dueV rd wt ow ∈ sureOf wv ow R16 R16)) (hy2 : Kept (15 - dueV rd wt ow ∈ sureOf (wv.map fun v => 15 - v) (15 - ow) R16 R16))
   (hE : PassesOwn (model pwC w) (callerA.deeper (envOfC (PySem.Str.ofString "law") lawSc L f cdv)) (envOfC (PySem.Str.ofString "law") lawSc L f cdv) E)
   (use : ∀ (h' : Heap) (tk' : Nat) (m' : PySem.Str → Option Value) (nx : List (Addr × Obj)), Fr g L h' m' → News g L h' nx → Q (.ret (.bool true)) ⟨h', gens, drawn, tk', os⟩) : wpAny (model pwC w) (callerA.deeper (envOfC (PySem.Str.ofString "law") lawSc L f cdv)) (execs lawI (envOfC (PySem.Str.ofString "law") lawSc L f cdv)) Q E ⟨h, gens, drawn, toks, os⟩ := by
  have hfill : (PySem.Challenge.rw_yh0002_01 = PySem.Challenge.rw_yh0002_01) ∧ KF = KF := by k_fill; exact ⟨rfl, rfl⟩
  clear hfill
  unfold lawI
  unfold lawSc at *
  dsimp only at hE ⊢
  (repeat' (first | (k_unfold; (try dsimp only)) | (k_end; wrow_close) | (with_reducible ((with_reducible show wpAny _ _ (compareOp CmpOp.In (Value.int _ _) (Value.ref _)) _ _ _); refine Hold.out ?_)) | (with_reducible ((with_reducible show wpAny _ _ (call (Value.ref _) _ _) _ _ _); refine Hold.out ?_)) | (with_reducible ((with_reducible show wpAny _ _ (binaryOp Operator.LShift (Value.int _ _) (Value.int _ _)) _ _ _); k_dflt (refine' lshift_int_small ?zk19 ?zk29 ?zk39 ?_; (case zk19 => omega); (case zk29 => omega); (case zk39 => decide)))) | (with_reducible ((with_reducible show LCg.FinA _ _ _ _ _ _ _); (unfold LCg.FinA); intro D' h' tk' F' N' o1'; (refine nesSplit (off1K o1') ?_; dsimp only [NesArrow]; intros; (try (refine nesArrow_intro ?_; intro _))); clear o1'; (try simp only [List.nil_append, List.cons_append] at N'); (try dsimp only))) | (with_reducible ((with_reducible show LCg.FinE _ _ _ _ _ _ _); (unfold LCg.FinE); intro D' h' tk' F' N' o1'; (refine nesSplit (off1K o1') ?_; dsimp only [NesArrow]; intros; (try (refine nesArrow_intro ?_; intro _))); clear o1'; (try simp only [List.nil_append, List.cons_append] at N'); (try dsimp only))) | (with_reducible ((with_reducible show wpAny _ _ (eval (PySem.Expr.ListComp _ _ _ _) _) _ _ _); (with_reducible show wpAny _ _ (eval (PySem.Expr.ListComp _ [⟨_, _, [], _⟩] _ _) _) _ _ _); k_dflt (refine LCg.ListComp_U (F₀ := by k_asm) (by with_unfolding_all rfl) (by decide) (by rfl) (by decide) (by rfl) ?_); k_dflt lcg_toSrc)) | (with_reducible ((with_reducible show wpAny _ _ (eval (PySem.Expr.ListComp _ _ _ _) _) _ _ _); (with_reducible show wpAny _ _ (eval (PySem.Expr.ListComp _ [⟨_, _, [_], _⟩] _ _) _) _ _ _); k_dflt (refine LCt.ListComp_T (F₀ := by k_asm) (by with_unfolding_all rfl) (by decide) (by rfl) (by decide) (by rfl) ?_); k_dflt lct_toSrc)) | (with_reducible ((with_reducible show wpAny _ _ (exec (Stmt.For _ _ _ _ _) _) _ _ _); (rename Fr _ _ _ _ => lF'); (with_unfolding_all refine' For_turns lF' ?_ ?zhs99 ?zhE99; (case zhs99 => (intro _; rfl)); (case zhE99 => assumption); k_whole))) | walk1 | (dsimp only; walk1) | (leave1; walk_say "STEP leave1"; try dsimp only) | fail "no step"))
  refine Hold.mk ?_
  have say1 : Say 1 (fun (p : Nat) => firstV rd wt ow 4 [] ((0 : Int) + (p : Int))) := ⟨⟩
  have say2 : Say 1 (fun (p : Nat) (y : Value) => ∃ t, y = Value.int (1 * 2 ^ (((0 : Int) + (p : Int))).toNat) t) := ⟨⟩
  refine' LCt.CompSrcT.range (n := 4) (by rfl) (by k_asm) (by k_asm) (by assumption) ?hsm2 ?hn2 ?hsz2 ?hrest2
  case hsm2 => decide
  case hn2 => rfl
  case hsz2 => exact Nat.le_of_ble_eq_true rfl
  intro g'
  refine restT_say 1 (by assumption) (by assumption) trivial ?step ?fin
  case step =>
    refine Hold.mk ?_
    intro i' v' I' oI' C' oC' D' ys' m' h' tk' E' hi2 hv' hC' hx' F' N' off' ne'
    obtain ⟨t', e'⟩ := hv'; subst e'
    (repeat' (first | (k_unfold; (try dsimp only)) | (k_end; wrow_close) | (with_reducible ((with_reducible show wpAny _ _ (compareOp CmpOp.In (Value.int _ _) (Value.ref _)) _ _ _); refine Hold.out ?_)) | (with_reducible ((with_reducible show wpAny _ _ (call (Value.ref _) _ _) _ _ _); refine Hold.out ?_)) | (with_reducible ((with_reducible show wpAny _ _ (binaryOp Operator.LShift (Value.int _ _) (Value.int _ _)) _ _ _); k_dflt (refine' lshift_int_small ?zk19 ?zk29 ?zk39 ?_; (case zk19 => omega); (case zk29 => omega); (case zk39 => decide)))) | (with_reducible ((with_reducible show LCg.FinA _ _ _ _ _ _ _); (unfold LCg.FinA); intro D' h' tk' F' N' o1'; (refine nesSplit (off1K o1') ?_; dsimp only [NesArrow]; intros; (try (refine nesArrow_intro ?_; intro _))); clear o1'; (try simp only [List.nil_append, List.cons_append] at N'); (try dsimp only))) | (with_reducible ((with_reducible show LCg.FinE _ _ _ _ _ _ _); (unfold LCg.FinE); intro D' h' tk' F' N' o1'; (refine nesSplit (off1K o1') ?_; dsimp only [NesArrow]; intros; (try (refine nesArrow_intro ?_; intro _))); clear o1'; (try simp only [List.nil_append, List.cons_append] at N'); (try dsimp only))) | (with_reducible ((with_reducible show wpAny _ _ (eval (PySem.Expr.ListComp _ _ _ _) _) _ _ _); (with_reducible show wpAny _ _ (eval (PySem.Expr.ListComp _ [⟨_, _, [], _⟩] _ _) _) _ _ _); k_dflt (refine LCg.ListComp_U (F₀ := by k_asm) (by with_unfolding_all rfl) (by decide) (by rfl) (by decide) (by rfl) ?_); k_dflt lcg_toSrc)) | (with_reducible ((with_reducible show wpAny _ _ (eval (PySem.Expr.ListComp _ _ _ _) _) _ _ _); (with_reducible show wpAny _ _ (eval (PySem.Expr.ListComp _ [⟨_, _, [_], _⟩] _ _) _) _ _ _); k_dflt (refine LCt.ListComp_T (F₀ := by k_asm) (by with_unfolding_all rfl) (by decide) (by rfl) (by decide) (by rfl) ?_); k_dflt lct_toSrc)) | (with_reducible ((with_reducible show wpAny _ _ (exec (Stmt.For _ _ _ _ _) _) _ _ _); (rename Fr _ _ _ _ => lF'); (with_unfolding_all refine' For_turns lF' ?_ ?zhs99 ?zhE99; (case zhs99 => (intro _; rfl)); (case zhE99 => assumption); k_whole))) | walk1 | (dsimp only; walk1) | (leave1; walk_say "STEP leave1"; try dsimp only) | fail "no step"))
    refine Hold.mk ?_
    refine' cvUse (f_first w mean mg mb ow rd wt rvs uvs tow lr lwt ho hRl hRb hUl hUp hI hU 4 ((0 : Int) + (i' : Int)) [] [] t' _ rfl (Kept.mk ⟨fun v hv => absurd hv List.not_mem_nil, ⟨by omega, by omega⟩, by simp⟩) .nil) ?B ?F ?X ?N ?T ?hk ?hy ?hd ?hu ?_
    case F => k_asm
    case T => k_asm
    case B => k_asm
    case X => k_asm
    case N => k_asm
    case hk => first | exact rfl | assumption
    case hd => ktr_room
    case hu => ktr_units
    case hy => (dsimp only; refine And.intro ?_ (And.intro ?_ ?_) <;> is_list)
    intro v' h' tk' F' N' k' p'; subst p'
    (try dsimp only)
    (try k_fold)
    (repeat' (first | (k_unfold; (try dsimp only)) | (k_end; wrow_close) | (with_reducible ((with_reducible show wpAny _ _ (compareOp CmpOp.In (Value.int _ _) (Value.ref _)) _ _ _); refine Hold.out ?_)) | (with_reducible ((with_reducible show wpAny _ _ (call (Value.ref _) _ _) _ _ _); refine Hold.out ?_)) | (with_reducible ((with_reducible show wpAny _ _ (binaryOp Operator.LShift (Value.int _ _) (Value.int _ _)) _ _ _); k_dflt (refine' lshift_int_small ?zk19 ?zk29 ?zk39 ?_; (case zk19 => omega); (case zk29 => omega); (case zk39 => decide)))) | (with_reducible ((with_reducible show LCg.FinA _ _ _ _ _ _ _); (unfold LCg.FinA); intro D' h' tk' F' N' o1'; (refine nesSplit (off1K o1') ?_; dsimp only [NesArrow]; intros; (try (refine nesArrow_intro ?_; intro _))); clear o1'; (try simp only [List.nil_append, List.cons_append] at N'); (try dsimp only))) | (with_reducible ((with_reducible show LCg.FinE _ _ _ _ _ _ _); (unfold LCg.FinE); intro D' h' tk' F' N' o1'; (refine nesSplit (off1K o1') ?_; dsimp only [NesArrow]; intros; (try (refine nesArrow_intro ?_; intro _))); clear o1'; (try simp only [List.nil_append, List.cons_append] at N'); (try dsimp only))) | (with_reducible ((with_reducible show wpAny _ _ (eval (PySem.Expr.ListComp _ _ _ _) _) _ _ _); (with_reducible show wpAny _ _ (eval (PySem.Expr.ListComp _ [⟨_, _, [], _⟩] _ _) _) _ _ _); k_dflt (refine LCg.ListComp_U (F₀ := by k_asm) (by with_unfolding_all rfl) (by decide) (by rfl) (by decide) (by rfl) ?_); k_dflt lcg_toSrc)) | (with_reducible ((with_reducible show wpAny _ _ (eval (PySem.Expr.ListComp _ _ _ _) _) _ _ _); (with_reducible show wpAny _ _ (eval (PySem.Expr.ListComp _ [⟨_, _, [_], _⟩] _ _) _) _ _ _); k_dflt (refine LCt.ListComp_T (F₀ := by k_asm) (by with_unfolding_all rfl) (by decide) (by rfl) (by decide) (by rfl) ?_); k_dflt lct_toSrc)) | (with_reducible ((with_reducible show wpAny _ _ (exec (Stmt.For _ _ _ _ _) _) _ _ _); (rename Fr _ _ _ _ => lF'); (with_unfolding_all refine' For_turns lF' ?_ ?zhs99 ?zhE99; (case zhs99 => (intro _; rfl)); (case zhE99 => assumption); k_whole))) | walk1 | (dsimp only; walk1) | (leave1; walk_say "STEP leave1"; try dsimp only) | fail "no step"))
    all_goals (refine ⟨_, _, rfl, by with_reducible assumption, newsTail1 (by with_reducible assumption), rfl, fun hq => ?_⟩; clear hq; (repeat' (first | (k_unfold; (try dsimp only)) | (k_end; wrow_close) | (with_reducible ((with_reducible show wpAny _ _ (compareOp CmpOp.In (Value.int _ _) (Value.ref _)) _ _ _); refine Hold.out ?_)) | (with_reducible ((with_reducible show wpAny _ _ (call (Value.ref _) _ _) _ _ _); refine Hold.out ?_)) | (with_reducible ((with_reducible show wpAny _ _ (binaryOp Operator.LShift (Value.int _ _) (Value.int _ _)) _ _ _); k_dflt (refine' lshift_int_small ?zk19 ?zk29 ?zk39 ?_; (case zk19 => omega); (case zk29 => omega); (case zk39 => decide)))) | (with_reducible ((with_reducible show LCg.FinA _ _ _ _ _ _ _); (unfold LCg.FinA); intro D' h' tk' F' N' o1'; (refine nesSplit (off1K o1') ?_; dsimp only [NesArrow]; intros; (try (refine nesArrow_intro ?_; intro _))); clear o1'; (try simp only [List.nil_append, List.cons_append] at N'); (try dsimp only))) | (with_reducible ((with_reducible show LCg.FinE _ _ _ _ _ _ _); (unfold LCg.FinE); intro D' h' tk' F' N' o1'; (refine nesSplit (off1K o1') ?_; dsimp only [NesArrow]; intros; (try (refine nesArrow_intro ?_; intro _))); clear o1'; (try simp only [List.nil_append, List.cons_append] at N'); (try dsimp only))) | (with_reducible ((with_reducible show wpAny _ _ (eval (PySem.Expr.ListComp _ _ _ _) _) _ _ _); (with_reducible show wpAny _ _ (eval (PySem.Expr.ListComp _ [⟨_, _, [], _⟩] _ _) _) _ _ _); k_dflt (refine LCg.ListComp_U (F₀ := by k_asm) (by with_unfolding_all rfl) (by decide) (by rfl) (by decide) (by rfl) ?_); k_dflt lcg_toSrc)) | (with_reducible ((with_reducible show wpAny _ _ (eval (PySem.Expr.ListComp _ _ _ _) _) _ _ _); (with_reducible show wpAny _ _ (eval (PySem.Expr.ListComp _ [⟨_, _, [_], _⟩] _ _) _) _ _ _); k_dflt (refine LCt.ListComp_T (F₀ := by k_asm) (by with_unfolding_all rfl) (by decide) (by rfl) (by decide) (by rfl) ?_); k_dflt lct_toSrc)) | (with_reducible ((with_reducible show wpAny _ _ (exec (Stmt.For _ _ _ _ _) _) _ _ _); (rename Fr _ _ _ _ => lF'); (with_unfolding_all refine' For_turns lF' ?_ ?zhs99 ?zhE99; (case zhs99 => (intro _; rfl)); (case zhE99 => assumption); k_whole))) | walk1 | (dsimp only; walk1) | (leave1; walk_say "STEP leave1"; try dsimp only) | fail "no step")); exact ⟨_, _, rfl, by with_reducible assumption, newsTail1 (by with_reducible assumption), ⟨_, rfl⟩⟩)
  clear say1 say2
  refine Hold.mk ?_
  intro ys' hT'; have hI' := intsTwo hT'; clear hT'
  obtain ⟨pl, hpl⟩ : ∃ pl : List Int, Kept (pl = ((List.range 4).filter (fun (p : Nat) => firstV rd wt ow 4 [] ((0 : Int) + (p : Int)))).map (fun (p : Nat) => (1 : Int) * 2 ^ ((0 : Int) + (p : Int)).toNat)) := ⟨_, ⟨rfl⟩⟩
  rw [← hpl.out] at hI'
  have hsm : Kept (pl.sum = dueV rd wt ow) := ⟨by rw [hpl.out]; exact due_sum _⟩
  rw [← hsm.out] at hy1 hy2
  (repeat' (first | (k_unfold; (try dsimp only)) | (k_end; wrow_close) | (with_reducible ((with_reducible show wpAny _ _ (compareOp CmpOp.In (Value.int _ _) (Value.ref _)) _ _ _); refine Hold.out ?_)) | (with_reducible ((with_reducible show wpAny _ _ (call (Value.ref _) _ _) _ _ _); refine Hold.out ?_)) | (with_reducible ((with_reducible show wpAny _ _ (binaryOp Operator.LShift (Value.int _ _) (Value.int _ _)) _ _ _); k_dflt (refine' lshift_int_small ?zk19 ?zk29 ?zk39 ?_; (case zk19 => omega); (case zk29 => omega); (case zk39 => decide)))) | (with_reducible ((with_reducible show LCg.FinA _ _ _ _ _ _ _); (unfold LCg.FinA); intro D' h' tk' F' N' o1'; (refine nesSplit (off1K o1') ?_; dsimp only [NesArrow]; intros; (try (refine nesArrow_intro ?_; intro _))); clear o1'; (try simp only [List.nil_append, List.cons_append] at N'); (try dsimp only))) | (with_reducible ((with_reducible show LCg.FinE _ _ _ _ _ _ _); (unfold LCg.FinE); intro D' h' tk' F' N' o1'; (refine nesSplit (off1K o1') ?_; dsimp only [NesArrow]; intros; (try (refine nesArrow_intro ?_; intro _))); clear o1'; (try simp only [List.nil_append, List.cons_append] at N'); (try dsimp only))) | (with_reducible ((with_reducible show wpAny _ _ (eval (PySem.Expr.ListComp _ _ _ _) _) _ _ _); (with_reducible show wpAny _ _ (eval (PySem.Expr.ListComp _ [⟨_, _, [], _⟩] _ _) _) _ _ _); k_dflt (refine LCg.ListComp_U (F₀ := by k_asm) (by with_unfolding_all rfl) (by decide) (by rfl) (by decide) (by rfl) ?_); k_dflt lcg_toSrc)) | (with_reducible ((with_reducible show wpAny _ _ (eval (PySem.Expr.ListComp _ _ _ _) _) _ _ _); (with_reducible show wpAny _ _ (eval (PySem.Expr.ListComp _ [⟨_, _, [_], _⟩] _ _) _) _ _ _); k_dflt (refine LCt.ListComp_T (F₀ := by k_asm) (by with_unfolding_all rfl) (by decide) (by rfl) (by decide) (by rfl) ?_); k_dflt lct_toSrc)) | (with_reducible ((with_reducible show wpAny _ _ (exec (Stmt.For _ _ _ _ _) _) _ _ _); (rename Fr _ _ _ _ => lF'); (with_unfolding_all refine' For_turns lF' ?_ ?zhs99 ?zhE99; (case zhs99 => (intro _; rfl)); (case zhE99 => assumption); k_whole))) | walk1 | (dsimp only; walk1) | (leave1; walk_say "STEP leave1"; try dsimp only) | fail "no step"))
  refine Hold.mk ?_
  refine' cvnUse (f_sure w mean mg mb ow wv wvs _ lw ho hWl hW) ?B2 ?F2 ?X2 ?N2 ?T2 ?hk2 ?hy2 ?hd2 ?hu2 ?_
  case F2 => k_asm
  case T2 => k_asm
  case B2 => k_asm
  case X2 => k_asm
  case N2 => k_asm
  case hk2 => first | exact rfl | assumption
  case hd2 => ktr_room
  case hu2 => ktr_units
  case hy2 => (dsimp only; is_list)
  intro D9 o9' h' tk' F' N' l1' k' p'
  obtain ⟨vs9, n9, rfl, hi9⟩ := p'
  (refine nesSplit (nesK l1') ?_; dsimp only [NesArrow]; intros; (try (refine nesArrow_intro ?_; intro _)))
  clear l1'
  (try dsimp only)
  (try k_fold)
  (repeat' (first | (k_unfold; (try dsimp only)) | (k_end; wrow_close) | (with_reducible ((with_reducible show wpAny _ _ (compareOp CmpOp.In (Value.int _ _) (Value.ref _)) _ _ _); refine Hold.out ?_)) | (with_reducible ((with_reducible show wpAny _ _ (call (Value.ref _) _ _) _ _ _); refine Hold.out ?_)) | (with_reducible ((with_reducible show wpAny _ _ (binaryOp Operator.LShift (Value.int _ _) (Value.int _ _)) _ _ _); k_dflt (refine' lshift_int_small ?zk19 ?zk29 ?zk39 ?_; (case zk19 => omega); (case zk29 => omega); (case zk39 => decide)))) | (with_reducible ((with_reducible show LCg.FinA _ _ _ _ _ _ _); (unfold LCg.FinA); intro D' h' tk' F' N' o1'; (refine nesSplit (off1K o1') ?_; dsimp only [NesArrow]; intros; (try (refine nesArrow_intro ?_; intro _))); clear o1'; (try simp only [List.nil_append, List.cons_append] at N'); (try dsimp only))) | (with_reducible ((with_reducible show LCg.FinE _ _ _ _ _ _ _); (unfold LCg.FinE); intro D' h' tk' F' N' o1'; (refine nesSplit (off1K o1') ?_; dsimp only [NesArrow]; intros; (try (refine nesArrow_intro ?_; intro _))); clear o1'; (try simp only [List.nil_append, List.cons_append] at N'); (try dsimp only))) | (with_reducible ((with_reducible show wpAny _ _ (eval (PySem.Expr.ListComp _ _ _ _) _) _ _ _); (with_reducible show wpAny _ _ (eval (PySem.Expr.ListComp _ [⟨_, _, [], _⟩] _ _) _) _ _ _); k_dflt (refine LCg.ListComp_U (F₀ := by k_asm) (by with_unfolding_all rfl) (by decide) (by rfl) (by decide) (by rfl) ?_); k_dflt lcg_toSrc)) | (with_reducible ((with_reducible show wpAny _ _ (eval (PySem.Expr.ListComp _ _ _ _) _) _ _ _); (with_reducible show wpAny _ _ (eval (PySem.Expr.ListComp _ [⟨_, _, [_], _⟩] _ _) _) _ _ _); k_dflt (refine LCt.ListComp_T (F₀ := by k_asm) (by with_unfolding_all rfl) (by decide) (by rfl) (by decide) (by rfl) ?_); k_dflt lct_toSrc)) | (with_reducible ((with_reducible show wpAny _ _ (exec (Stmt.For _ _ _ _ _) _) _ _ _); (rename Fr _ _ _ _ => lF'); (with_unfolding_all refine' For_turns lF' ?_ ?zhs99 ?zhE99; (case zhs99 => (intro _; rfl)); (case zhE99 => assumption); k_whole))) | walk1 | (dsimp only; walk1) | (leave1; walk_say "STEP leave1"; try dsimp only) | fail "no step"))
  refine Hold.mk ?_
  refine in_yes N' (.head _) hi9 hy1 ?_
  (repeat' (first | (k_unfold; (try dsimp only)) | (k_end; wrow_close) | (with_reducible ((with_reducible show wpAny _ _ (compareOp CmpOp.In (Value.int _ _) (Value.ref _)) _ _ _); refine Hold.out ?_)) | (with_reducible ((with_reducible show wpAny _ _ (call (Value.ref _) _ _) _ _ _); refine Hold.out ?_)) | (with_reducible ((with_reducible show wpAny _ _ (binaryOp Operator.LShift (Value.int _ _) (Value.int _ _)) _ _ _); k_dflt (refine' lshift_int_small ?zk19 ?zk29 ?zk39 ?_; (case zk19 => omega); (case zk29 => omega); (case zk39 => decide)))) | (with_reducible ((with_reducible show LCg.FinA _ _ _ _ _ _ _); (unfold LCg.FinA); intro D' h' tk' F' N' o1'; (refine nesSplit (off1K o1') ?_; dsimp only [NesArrow]; intros; (try (refine nesArrow_intro ?_; intro _))); clear o1'; (try simp only [List.nil_append, List.cons_append] at N'); (try dsimp only))) | (with_reducible ((with_reducible show LCg.FinE _ _ _ _ _ _ _); (unfold LCg.FinE); intro D' h' tk' F' N' o1'; (refine nesSplit (off1K o1') ?_; dsimp only [NesArrow]; intros; (try (refine nesArrow_intro ?_; intro _))); clear o1'; (try simp only [List.nil_append, List.cons_append] at N'); (try dsimp only))) | (with_reducible ((with_reducible show wpAny _ _ (eval (PySem.Expr.ListComp _ _ _ _) _) _ _ _); (with_reducible show wpAny _ _ (eval (PySem.Expr.ListComp _ [⟨_, _, [], _⟩] _ _) _) _ _ _); k_dflt (refine LCg.ListComp_U (F₀ := by k_asm) (by with_unfolding_all rfl) (by decide) (by rfl) (by decide) (by rfl) ?_); k_dflt lcg_toSrc)) | (with_reducible ((with_reducible show wpAny _ _ (eval (PySem.Expr.ListComp _ _ _ _) _) _ _ _); (with_reducible show wpAny _ _ (eval (PySem.Expr.ListComp _ [⟨_, _, [_], _⟩] _ _) _) _ _ _); k_dflt (refine LCt.ListComp_T (F₀ := by k_asm) (by with_unfolding_all rfl) (by decide) (by rfl) (by decide) (by rfl) ?_); k_dflt lct_toSrc)) | (with_reducible ((with_reducible show wpAny _ _ (exec (Stmt.For _ _ _ _ _) _) _ _ _); (rename Fr _ _ _ _ => lF'); (with_unfolding_all refine' For_turns lF' ?_ ?zhs99 ?zhE99; (case zhs99 => (intro _; rfl)); (case zhE99 => assumption); k_whole))) | walk1 | (dsimp only; walk1) | (leave1; walk_say "STEP leave1"; try dsimp only) | fail "no step"))
  refine Hold.mk ?_
  have say2 : Say 1 (fun (p : Nat) (y : Value) => ∃ t, y = Value.int (15 - wv.getD p 0) t) := ⟨⟩
  refine' LCg.CompSrc.ledger (by rfl) (by k_asm) (by k_asm) ?hmm3 ?hsz3 ?hrest3
  case hmm3 => (repeat (first | exact List.Mem.head _ | apply List.Mem.tail))
  case hsz3 => (rw [sizeLine_eq, List.size_toArray, hW.length, hWl]; decide)
  intro g3'
  refine restU_say 1 (by assumption) (Or.inr ⟨_, by (repeat (first | exact List.Mem.head _ | apply List.Mem.tail)), rfl, _, rfl⟩) ?step3 ?fin3
  case step3 =>
    refine Hold.mk ?_
    intro i' v' I' oI' C' oC' D' ys' m' h' tk' E' hi2 hv' hC' hx' F' N' off' ne'
    obtain ⟨t', e'⟩ := IntsAre.int_at hW i' v' (by rw [List.getElem?_toArray] at hv'; exact hv'); subst e'
    clear hv'
    (repeat' (first | (k_unfold; (try dsimp only)) | (k_end; wrow_close) | (with_reducible ((with_reducible show wpAny _ _ (compareOp CmpOp.In (Value.int _ _) (Value.ref _)) _ _ _); refine Hold.out ?_)) | (with_reducible ((with_reducible show wpAny _ _ (call (Value.ref _) _ _) _ _ _); refine Hold.out ?_)) | (with_reducible ((with_reducible show wpAny _ _ (binaryOp Operator.LShift (Value.int _ _) (Value.int _ _)) _ _ _); k_dflt (refine' lshift_int_small ?zk19 ?zk29 ?zk39 ?_; (case zk19 => omega); (case zk29 => omega); (case zk39 => decide)))) | (with_reducible ((with_reducible show LCg.FinA _ _ _ _ _ _ _); (unfold LCg.FinA); intro D' h' tk' F' N' o1'; (refine nesSplit (off1K o1') ?_; dsimp only [NesArrow]; intros; (try (refine nesArrow_intro ?_; intro _))); clear o1'; (try simp only [List.nil_append, List.cons_append] at N'); (try dsimp only))) | (with_reducible ((with_reducible show LCg.FinE _ _ _ _ _ _ _); (unfold LCg.FinE); intro D' h' tk' F' N' o1'; (refine nesSplit (off1K o1') ?_; dsimp only [NesArrow]; intros; (try (refine nesArrow_intro ?_; intro _))); clear o1'; (try simp only [List.nil_append, List.cons_append] at N'); (try dsimp only))) | (with_reducible ((with_reducible show wpAny _ _ (eval (PySem.Expr.ListComp _ _ _ _) _) _ _ _); (with_reducible show wpAny _ _ (eval (PySem.Expr.ListComp _ [⟨_, _, [], _⟩] _ _) _) _ _ _); k_dflt (refine LCg.ListComp_U (F₀ := by k_asm) (by with_unfolding_all rfl) (by decide) (by rfl) (by decide) (by rfl) ?_); k_dflt lcg_toSrc)) | (with_reducible ((with_reducible show wpAny _ _ (eval (PySem.Expr.ListComp _ _ _ _) _) _ _ _); (with_reducible show wpAny _ _ (eval (PySem.Expr.ListComp _ [⟨_, _, [_], _⟩] _ _) _) _ _ _); k_dflt (refine LCt.ListComp_T (F₀ := by k_asm) (by with_unfolding_all rfl) (by decide) (by rfl) (by decide) (by rfl) ?_); k_dflt lct_toSrc)) | (with_reducible ((with_reducible show wpAny _ _ (exec (Stmt.For _ _ _ _ _) _) _ _ _); (rename Fr _ _ _ _ => lF'); (with_unfolding_all refine' For_turns lF' ?_ ?zhs99 ?zhE99; (case zhs99 => (intro _; rfl)); (case zhE99 => assumption); k_whole))) | walk1 | (dsimp only; walk1) | (leave1; walk_say "STEP leave1"; try dsimp only) | fail "no step"))
    all_goals exact ⟨_, _, rfl, by with_reducible assumption, by with_reducible assumption, ⟨_, rfl⟩⟩
  clear say2
  refine Hold.mk ?_
  intro ys3 hT'; have hI3 := intsTwo hT'; clear hT'
  rw [map_range_getD (fun (x : Int) => 15 - x) wv (by rw [List.size_toArray]; exact hW.length)] at hI3
  (repeat' (first | (k_unfold; (try dsimp only)) | (k_end; wrow_close) | (with_reducible ((with_reducible show wpAny _ _ (compareOp CmpOp.In (Value.int _ _) (Value.ref _)) _ _ _); refine Hold.out ?_)) | (with_reducible ((with_reducible show wpAny _ _ (call (Value.ref _) _ _) _ _ _); refine Hold.out ?_)) | (with_reducible ((with_reducible show wpAny _ _ (binaryOp Operator.LShift (Value.int _ _) (Value.int _ _)) _ _ _); k_dflt (refine' lshift_int_small ?zk19 ?zk29 ?zk39 ?_; (case zk19 => omega); (case zk29 => omega); (case zk39 => decide)))) | (with_reducible ((with_reducible show LCg.FinA _ _ _ _ _ _ _); (unfold LCg.FinA); intro D' h' tk' F' N' o1'; (refine nesSplit (off1K o1') ?_; dsimp only [NesArrow]; intros; (try (refine nesArrow_intro ?_; intro _))); clear o1'; (try simp only [List.nil_append, List.cons_append] at N'); (try dsimp only))) | (with_reducible ((with_reducible show LCg.FinE _ _ _ _ _ _ _); (unfold LCg.FinE); intro D' h' tk' F' N' o1'; (refine nesSplit (off1K o1') ?_; dsimp only [NesArrow]; intros; (try (refine nesArrow_intro ?_; intro _))); clear o1'; (try simp only [List.nil_append, List.cons_append] at N'); (try dsimp only))) | (with_reducible ((with_reducible show wpAny _ _ (eval (PySem.Expr.ListComp _ _ _ _) _) _ _ _); (with_reducible show wpAny _ _ (eval (PySem.Expr.ListComp _ [⟨_, _, [], _⟩] _ _) _) _ _ _); k_dflt (refine LCg.ListComp_U (F₀ := by k_asm) (by with_unfolding_all rfl) (by decide) (by rfl) (by decide) (by rfl) ?_); k_dflt lcg_toSrc)) | (with_reducible ((with_reducible show wpAny _ _ (eval (PySem.Expr.ListComp _ _ _ _) _) _ _ _); (with_reducible show wpAny _ _ (eval (PySem.Expr.ListComp _ [⟨_, _, [_], _⟩] _ _) _) _ _ _); k_dflt (refine LCt.ListComp_T (F₀ := by k_asm) (by with_unfolding_all rfl) (by decide) (by rfl) (by decide) (by rfl) ?_); k_dflt lct_toSrc)) | (with_reducible ((with_reducible show wpAny _ _ (exec (Stmt.For _ _ _ _ _) _) _ _ _); (rename Fr _ _ _ _ => lF'); (with_unfolding_all refine' For_turns lF' ?_ ?zhs99 ?zhE99; (case zhs99 => (intro _; rfl)); (case zhE99 => assumption); k_whole))) | walk1 | (dsimp only; walk1) | (leave1; walk_say "STEP leave1"; try dsimp only) | fail "no step"))
  refine Hold.mk ?_
  refine' cvnUse (f_sure w mean mg mb (15 - ow) (wv.map fun v => 15 - v) ys3 _ _ ⟨by omega, by omega⟩ (by rw [List.length_map, hWl]) hI3) ?B4 ?F4 ?X4 ?N4 ?T4 ?hk4 ?hy4 ?hd4 ?hu4 ?_
  case F4 => k_asm
  case T4 => k_asm
  case B4 => k_asm
  case X4 => k_asm
  case N4 => k_asm
  case hk4 => first | exact rfl | assumption
  case hd4 => ktr_room
  case hu4 => ktr_units
  case hy4 => (dsimp only; is_list)
  intro D8 o8' h' tk' F' N' l1' k' p'
  obtain ⟨vs8, n8, rfl, hi8⟩ := p'
  (try dsimp only)
  (try k_fold)
  (repeat' (first | (k_unfold; (try dsimp only)) | (k_end; wrow_close) | (with_reducible ((with_reducible show wpAny _ _ (compareOp CmpOp.In (Value.int _ _) (Value.ref _)) _ _ _); refine Hold.out ?_)) | (with_reducible ((with_reducible show wpAny _ _ (call (Value.ref _) _ _) _ _ _); refine Hold.out ?_)) | (with_reducible ((with_reducible show wpAny _ _ (binaryOp Operator.LShift (Value.int _ _) (Value.int _ _)) _ _ _); k_dflt (refine' lshift_int_small ?zk19 ?zk29 ?zk39 ?_; (case zk19 => omega); (case zk29 => omega); (case zk39 => decide)))) | (with_reducible ((with_reducible show LCg.FinA _ _ _ _ _ _ _); (unfold LCg.FinA); intro D' h' tk' F' N' o1'; (refine nesSplit (off1K o1') ?_; dsimp only [NesArrow]; intros; (try (refine nesArrow_intro ?_; intro _))); clear o1'; (try simp only [List.nil_append, List.cons_append] at N'); (try dsimp only))) | (with_reducible ((with_reducible show LCg.FinE _ _ _ _ _ _ _); (unfold LCg.FinE); intro D' h' tk' F' N' o1'; (refine nesSplit (off1K o1') ?_; dsimp only [NesArrow]; intros; (try (refine nesArrow_intro ?_; intro _))); clear o1'; (try simp only [List.nil_append, List.cons_append] at N'); (try dsimp only))) | (with_reducible ((with_reducible show wpAny _ _ (eval (PySem.Expr.ListComp _ _ _ _) _) _ _ _); (with_reducible show wpAny _ _ (eval (PySem.Expr.ListComp _ [⟨_, _, [], _⟩] _ _) _) _ _ _); k_dflt (refine LCg.ListComp_U (F₀ := by k_asm) (by with_unfolding_all rfl) (by decide) (by rfl) (by decide) (by rfl) ?_); k_dflt lcg_toSrc)) | (with_reducible ((with_reducible show wpAny _ _ (eval (PySem.Expr.ListComp _ _ _ _) _) _ _ _); (with_reducible show wpAny _ _ (eval (PySem.Expr.ListComp _ [⟨_, _, [_], _⟩] _ _) _) _ _ _); k_dflt (refine LCt.ListComp_T (F₀ := by k_asm) (by with_unfolding_all rfl) (by decide) (by rfl) (by decide) (by rfl) ?_); k_dflt lct_toSrc)) | (with_reducible ((with_reducible show wpAny _ _ (exec (Stmt.For _ _ _ _ _) _) _ _ _); (rename Fr _ _ _ _ => lF'); (with_unfolding_all refine' For_turns lF' ?_ ?zhs99 ?zhE99; (case zhs99 => (intro _; rfl)); (case zhE99 => assumption); k_whole))) | walk1 | (dsimp only; walk1) | (leave1; walk_say "STEP leave1"; try dsimp only) | fail "no step"))
  refine Hold.mk ?_
  refine in_yes N' (.head _) hi8 hy2 ?_
  (repeat' (first | (k_unfold; (try dsimp only)) | (k_end; wrow_close) | (with_reducible ((with_reducible show wpAny _ _ (compareOp CmpOp.In (Value.int _ _) (Value.ref _)) _ _ _); refine Hold.out ?_)) | (with_reducible ((with_reducible show wpAny _ _ (call (Value.ref _) _ _) _ _ _); refine Hold.out ?_)) | (with_reducible ((with_reducible show wpAny _ _ (binaryOp Operator.LShift (Value.int _ _) (Value.int _ _)) _ _ _); k_dflt (refine' lshift_int_small ?zk19 ?zk29 ?zk39 ?_; (case zk19 => omega); (case zk29 => omega); (case zk39 => decide)))) | (with_reducible ((with_reducible show LCg.FinA _ _ _ _ _ _ _); (unfold LCg.FinA); intro D' h' tk' F' N' o1'; (refine nesSplit (off1K o1') ?_; dsimp only [NesArrow]; intros; (try (refine nesArrow_intro ?_; intro _))); clear o1'; (try simp only [List.nil_append, List.cons_append] at N'); (try dsimp only))) | (with_reducible ((with_reducible show LCg.FinE _ _ _ _ _ _ _); (unfold LCg.FinE); intro D' h' tk' F' N' o1'; (refine nesSplit (off1K o1') ?_; dsimp only [NesArrow]; intros; (try (refine nesArrow_intro ?_; intro _))); clear o1'; (try simp only [List.nil_append, List.cons_append] at N'); (try dsimp only))) | (with_reducible ((with_reducible show wpAny _ _ (eval (PySem.Expr.ListComp _ _ _ _) _) _ _ _); (with_reducible show wpAny _ _ (eval (PySem.Expr.ListComp _ [⟨_, _, [], _⟩] _ _) _) _ _ _); k_dflt (refine LCg.ListComp_U (F₀ := by k_asm) (by with_unfolding_all rfl) (by decide) (by rfl) (by decide) (by rfl) ?_); k_dflt lcg_toSrc)) | (with_reducible ((with_reducible show wpAny _ _ (eval (PySem.Expr.ListComp _ _ _ _) _) _ _ _); (with_reducible show wpAny _ _ (eval (PySem.Expr.ListComp _ [⟨_, _, [_], _⟩] _ _) _) _ _ _); k_dflt (refine LCt.ListComp_T (F₀ := by k_asm) (by with_unfolding_all rfl) (by decide) (by rfl) (by decide) (by rfl) ?_); k_dflt lct_toSrc)) | (with_reducible ((with_reducible show wpAny _ _ (exec (Stmt.For _ _ _ _ _) _) _ _ _); (rename Fr _ _ _ _ => lF'); (with_unfolding_all refine' For_turns lF' ?_ ?zhs99 ?zhE99; (case zhs99 => (intro _; rfl)); (case zhE99 => assumption); k_whole))) | walk1 | (dsimp only; walk1) | (leave1; walk_say "STEP leave1"; try dsimp only) | fail "no step"))
  exact use _ _ _ _ F' N'
end
end
end
end
-- KLJ
noncomputable section
open PySem PySem.W PyProof.Rows PySem.Calls PySem.Spec
set_option Elab.async false
set_option maxRecDepth 100000
set_option maxHeartbeats 8000000
set_option linter.unusedVariables false
open LCg LCt
theorem roads_len (c : Int) : (roadsV c).length = 8 := by unfold roadsV; rw [List.length_map, List.length_range]
theorem roads_bd (c : Int) : ∀ v ∈ roadsV c, 0 ≤ v ∧ v < 4 := by
  intro v hv
  obtain ⟨i, hi, rfl⟩ := List.mem_map.mp hv
  exact ⟨Int.fmod_nonneg_of_pos _ (by decide), Int.fmod_lt_of_pos _ (by decide)⟩
theorem map_getD_id {rd : List Int} (h : rd.length = 8) : ((List.range 8).map fun k => rd.getD k 0) = rd := by
  have e := map_range_getD (fun x : Int => x) rd h.symm
  rw [e, List.map_id']
theorem toA {α : Type} (a : Array α) : a.toList.toArray = a := Array.toArray_toList
theorem law_body (w : World) (mean : ExcName → Option Value) (mg mb : PySem.Str → Option Value) {g h : Heap} {L f : Addr} {cdv : Value} {m : PySem.Str → Option Value} {gens : Array GenState} {drawn : Drawn} {toks : Nat} {os : OsState} {Q : Flow → Shared → Prop} {E : Value → Shared → Prop} {sa : Addr} {svs : List Value} {ss : List Int} {o1 : Obj} {o2 : Obj} {o3 : Obj} {o4 : Obj} {o5 : Obj} {o6 : Obj} {o7 : Obj} {o8 : Obj} {o9 : Obj} {o10 : Obj}
   (B : Below callerA g [] g) (X : (KF w.params).In g) (T : Top vw LW mean mg mb g) (F : Fr g L h m) (N : News g L h [(L + 1 + 1 + 1 + 1 + 1 + 1 + 1 + 1 + 1 + 1, o10), (L + 1 + 1 + 1 + 1 + 1 + 1 + 1 + 1 + 1, o9), (L + 1 + 1 + 1 + 1 + 1 + 1 + 1 + 1, o8), (L + 1 + 1 + 1 + 1 + 1 + 1 + 1, o7), (L + 1 + 1 + 1 + 1 + 1 + 1, o6), (L + 1 + 1 + 1 + 1 + 1, o5), (L + 1 + 1 + 1 + 1, o4), (L + 1 + 1 + 1, o3), (L + 1 + 1, o2), (L + 1, o1)]) (d1 : o1.data = .cell none) (d2 : o2.data = .cell none) (d3 : o3.data = .cell none) (d4 : o4.data = .cell none) (d5 : o5.data = .cell none) (d6 : o6.data = .cell none) (d7 : o7.data = .cell none) (d8 : o8.data = .cell none) (d9 : o9.data = .cell none) (d10 : o10.data = .cell none) (hm : m (PySem.Str.ofString "script") = some (.ref sa)) (hs : g.IsList sa svs.toArray) (hi : IntsAre svs ss) (hl : ss.length ≤ 63)
   (hE : PassesOwn (model pwC w) (callerA.deeper (envOfC (PySem.Str.ofString "law") lawSc L f cdv)) (envOfC (PySem.Str.ofString "law") lawSc L f cdv) E)
   (use : ∀ (h' : Heap) (tk' : Nat) (m' : PySem.Str → Option Value) (nx : List (Addr × Obj)), Fr g L h' m' → News g L h' nx → Q (.ret (.bool true)) ⟨h', gens, drawn, tk', os⟩) : wpAny (model pwC w) (callerA.deeper (envOfC (PySem.Str.ofString "law") lawSc L f cdv)) (execs (fb 26) (envOfC (PySem.Str.ofString "law") lawSc L f cdv)) Q E ⟨h, gens, drawn, toks, os⟩ := by
  rw [law_parts]
  refine ex_app ?_
  refine @law_A w mean mg mb g h L f cdv m gens drawn toks os _ E sa svs ss o1 o2 o3 o4 o5 o6 o7 o8 o9 o10 B X T F N d1 d2 d3 d4 d5 d6 d7 d8 d9 d10 hm hs hi hl hE ?_
  intro h₁ tk₁ p1 p2 cs cvs l kv F₁ N₁ e1 e2 hI hlen hlt
  dsimp only
  refine ex_app ?_
  refine @law_B w mean mg mb g h₁ L f cdv m gens drawn tk₁ os _ E l cs cvs kv p1 p2 o3 o4 o5 o6 o7 o8 o9 o10 B X T F₁ N₁ e1 e2 d3 d4 d5 d6 d7 d8 d9 d10 hI hlen hlt hE ?_
  intro h₂ tk₂ p3 p4 rvs lr tow F₂ N₂ e3 e4 hR hD₂
  dsimp only
  refine ex_app ?_
  refine @law_C w mean mg mb g h₂ L f cdv m gens drawn tk₂ os _ E l lr cvs rvs p1 p2 p3 p4 o5 o6 o7 o8 o9 o10 B X T F₂ N₂ hD₂ hE ?_
  intro h₃ tk₃ m₃ F₃ hrt₃ N₃
  dsimp only
  refine ex_app ?_
  refine @law_D w mean mg mb g h₃ L f cdv m₃ gens drawn tk₃ os _ E l lr cvs rvs p1 p2 p3 p4 o5 o6 o7 o8 o9 o10 B X T F₃ N₃ d5 d6 d7 hD₂ hE ?_
  intro h₄ tk₄ m₄ ltb lle lla lco p5 p6 p7 F₄ hls₄ em₄ N₄ e5 e6 e7 hD₄ q1 q2 q3
  dsimp only
  refine ex_app ?_
  have hRl := roads_len (cs.getD 0 0)
  have hRb := roads_bd (cs.getD 0 0)
  generalize hrd : roadsV (cs.getD 0 0) = rd at hR hRl hRb
  refine @law_E w mean mg mb g h₄ L f cdv m₄ gens drawn tk₄ os _ E ltb lle lla lco lr l p1 p2 p3 p4 p5 p6 p7 o8 o9 o10 cvs rvs cs rd kv B X T F₄ N₄ e1 e2 e3 e5 e6 e7 hI hlen hR hRl hRb ((em₄ _ (by decide)).trans hrt₃) hls₄ hD₄ q1 q2 q3 hE ?_
  intro h₅ tk₅ m₅ p2' kv' tabA ledA labA codA n1 n2 n3 n4 inn F₅ N₅ e2' hrt₅ hls₅ s1 s2 s3 s4 hT hLd hLb hC hin
  dsimp only
  rw [map_getD_id hRl] at hLd
  refine ex_app ?_
  refine @law_F w mean mg mb g h₅ L f cdv m₅ gens drawn tk₅ os _ E ltb lle lla lco lr l p1 p2' p3 p4 p5 p6 p7 o8 o9 o10 kv' none cvs rvs cs tabA ledA labA codA n1 n2 n3 n4 inn B X T F₅ N₅ e2' e5 d8 hls₅ hrt₅ hD₄ hin hLb hC hE ?_
  intro h₆ tk₆ m₆ lrk p2'' p8 kv'' rkA n5 F₆ N₆ e2'' e8 hrt₆ s5 hRk NK₆
  dsimp only
  refine ex_app ?_
  rw [← toA rkA, ← toA tabA, ← toA ledA] at N₆
  refine @law_G w mean mg mb g h₆ L f cdv m₆ gens drawn tk₆ os _ E ltb lle lla lco lr l lrk p1 p2'' p3 p4 p5 p6 p7 p8 o9 o10 none cvs rvs tabA.toList ledA.toList rkA.toList _ rd _ labA codA n1 n2 n3 n4 n5 inn B X T F₆ N₆ e6 e7 e8 d9 hrt₆ ⟨⟨NK₆.1.out.symm, NK₆.2.1.out.symm, NK₆.2.2.1.out.symm, NK₆.2.2.2.1.out.symm, NK₆.2.2.2.2.1.out.symm, NK₆.2.2.2.2.2.1.out.symm, NK₆.2.2.2.2.2.2.1.out.symm, NK₆.2.2.2.2.2.2.2.1.out.symm, NK₆.2.2.2.2.2.2.2.2.1.out.symm, NK₆.2.2.2.2.2.2.2.2.2.1.out.symm, NK₆.2.2.2.2.2.2.2.2.2.2.1.out.symm, NK₆.2.2.2.2.2.2.2.2.2.2.2.1.out.symm, NK₆.2.2.2.2.2.2.2.2.2.2.2.2.1.out.symm, NK₆.2.2.2.2.2.2.2.2.2.2.2.2.2.1.out.symm, NK₆.2.2.2.2.2.2.2.2.2.2.2.2.2.2.1.out.symm, NK₆.2.2.2.2.2.2.2.2.2.2.2.2.2.2.2.1.out.symm, trivial⟩, hD₄⟩ hin (nesKTo NK₆.2.2.2.2.2.2.2.2.2.2.2.2.2.2.2.2) hT (by rw [List.length_map, List.length_range]) hLd hRl hRb hRk (by rw [List.length_map, List.length_range]) hE ?_
  intro h₇ tk₇ m₇ lw p9 kv9 wA n6 F₇ N₇ e9 hrt₇ hwo₇ s6 hW NK₇
  dsimp only
  refine ex_app ?_
  rw [won_eq] at hW
  have N₇' := newsSub (l' := (lw, W.listOf wA n6) :: (lco, W.listOf codA n4) :: (lr, lst rvs) :: (l, W.listOf cvs.toArray 0) :: (L + 1 + 1 + 1 + 1 + 1 + 1 + 1 + 1 + 1 + 1, o10) :: (L + 1 + 1 + 1 + 1 + 1 + 1 + 1 + 1 + 1, p9) :: (L + 1 + 1 + 1 + 1 + 1 + 1 + 1 + 1, p8) :: (L + 1 + 1 + 1 + 1 + 1 + 1 + 1, p7) :: (L + 1 + 1 + 1 + 1 + 1 + 1, p6) :: (L + 1 + 1 + 1 + 1 + 1, p5) :: (L + 1 + 1 + 1 + 1, p4) :: (L + 1 + 1 + 1, p3) :: (L + 1 + 1, p2'') :: (L + 1, p1) :: inn) N₇ (fun p hp => by
    rcases List.mem_cons.mp hp with rfl | hp
    · exact .head _
    · exact .tail _ (.tail _ (.tail _ (.tail _ (.tail _ hp)))))
  refine @law_H w mean mg mb g h₇ L f cdv m₇ gens drawn tk₇ os _ E lco lr l lw p1 p2'' p3 p4 p5 p6 p7 p8 p9 o10 kv'' none cvs rvs cs codA wA n4 n6 inn B X T F₇ N₇' e1 e2'' e5 d10 hI hlen hrt₇ hwo₇ ⟨⟨NK₇.2.2.2.2.1.out.symm, NK₇.2.2.2.2.2.1.out.symm, NK₇.2.2.2.2.2.2.1.out.symm, NK₇.2.2.2.2.2.2.2.1.out.symm, NK₇.2.2.2.2.2.2.2.2.1.out.symm, NK₇.2.2.2.2.2.2.2.2.2.1.out.symm, NK₇.2.2.2.2.2.2.2.2.2.2.1.out.symm, NK₇.2.2.2.2.2.2.2.2.2.2.2.1.out.symm, NK₇.2.2.2.2.2.2.2.2.2.2.2.2.1.out.symm, NK₇.2.2.2.2.2.2.2.2.2.2.2.2.2.1.out.symm, NK₇.2.2.2.2.2.2.2.2.2.2.2.2.2.2.1.out.symm, NK₇.2.2.2.2.2.2.2.2.2.2.2.2.2.2.2.1.out.symm, NK₇.2.2.2.2.2.2.2.2.2.2.2.2.2.2.2.2.1.out.symm, trivial⟩, hD₄.2.2.2⟩ (fun p hp => ⟨nesKTo NK₇.2.2.2.2.2.2.2.2.2.2.2.2.2.2.2.2.2 p hp, (hin p hp).2.2.2⟩) hC s4 hE ?_
  intro h₈ tk₈ m₈ lwt p2q p10 wtA n7 F₈ N₈ e10 hrt₈ hwo₈ s7 hU NK₈
  dsimp only
  have N₈' := newsSub (l' := (lwt, W.listOf wtA n7) :: (lw, W.listOf wA n6) :: (lr, lst rvs) :: (L + 1 + 1 + 1 + 1 + 1 + 1 + 1 + 1 + 1 + 1, p10) :: (L + 1 + 1 + 1 + 1 + 1 + 1 + 1 + 1 + 1, p9) :: (L + 1 + 1 + 1 + 1 + 1 + 1 + 1 + 1, p8) :: (L + 1 + 1 + 1 + 1 + 1 + 1 + 1, p7) :: (L + 1 + 1 + 1 + 1 + 1 + 1, p6) :: (L + 1 + 1 + 1 + 1 + 1, p5) :: (L + 1 + 1 + 1 + 1, p4) :: (L + 1 + 1 + 1, p3) :: (L + 1 + 1, p2q) :: (L + 1, p1) :: []) N₈ (fun p hp => by
    simp only [List.mem_cons, List.not_mem_nil, or_false] at hp ⊢
    rcases hp with h | h | h | h | h | h | h | h | h | h | h | h | h <;> simp [h])
  rw [← toA wtA, ← toA wA] at N₈'
  have ho : 0 ≤ ((cs.getD 0 0).fdiv 65536).fmod 16 ∧ ((cs.getD 0 0).fdiv 65536).fmod 16 < 16 := ⟨Int.fmod_nonneg_of_pos _ (by decide), Int.fmod_lt_of_pos _ (by decide)⟩
  have hy := plain_law (cs := cs) hRl hRb ho
  refine @law_I w mean mg mb g h₈ L f cdv m₈ gens drawn tk₈ os _ E lr lw lwt p1 p2q p3 p4 p5 p6 p7 p8 p9 p10 rvs wA.toList wtA.toList rd _ _ _ tow n6 n7 rvs.length B X T F₈ N₈' e3 e4 e10 hrt₈ hwo₈ hR hRl hRb hW (by rw [show (wonV rd ((List.range 8).map (rankV cs)) ((List.range 8).map (tabF cs))).length = R16.length from List.length_map ..]; rfl) hU (by rw [List.length_map, List.length_range]) ?_ ho ⟨hy.1⟩ ⟨hy.2⟩ hE ?_
  · intro v hv
    obtain ⟨k, hk, rfl⟩ := List.mem_map.mp hv
    exact worF_nonneg cs k
  · exact use
end
-- KFin0
noncomputable section
open PySem PySem.W PyProof.Rows PySem.Calls PySem.Spec
set_option Elab.async false
set_option maxRecDepth 100000
set_option maxHeartbeats 8000000
set_option linter.unusedVariables false
noncomputable section
noncomputable def lawBody : List Stmt := by
  refine (fun (o : List Stmt) (_ : fb 26 = o) => o) ?b ?h
  case h =>
    dsimp only [fb, pw, PySem.Challenge.pw_yh0002_01, List.getElem?_cons_succ, List.getElem?_cons_zero]
    exact rfl
theorem lawBody_eq : lawBody = fb 26 := by kernel_rfl
end
theorem law_all (w : World) (mean : ExcName → Option Value) (mg mb : PySem.Str → Option Value) {g h : Heap} {L f : Addr} {cdv : Value} {m : PySem.Str → Option Value} {gens : Array GenState} {drawn : Drawn} {toks : Nat} {os : OsState} {Q : Flow → Shared → Prop} {E : Value → Shared → Prop} {sa : Addr} {svs : List Value} {ss : List Int} {o1 : Obj} {o2 : Obj} {o3 : Obj} {o4 : Obj} {o5 : Obj} {o6 : Obj} {o7 : Obj} {o8 : Obj} {o9 : Obj} {o10 : Obj}
   (B : Below callerA g [] g) (X : (KF w.params).In g) (T : Top vw LW mean mg mb g) (F : Fr g L h m) (N : News g L h [(L + 1 + 1 + 1 + 1 + 1 + 1 + 1 + 1 + 1 + 1, o10), (L + 1 + 1 + 1 + 1 + 1 + 1 + 1 + 1 + 1, o9), (L + 1 + 1 + 1 + 1 + 1 + 1 + 1 + 1, o8), (L + 1 + 1 + 1 + 1 + 1 + 1 + 1, o7), (L + 1 + 1 + 1 + 1 + 1 + 1, o6), (L + 1 + 1 + 1 + 1 + 1, o5), (L + 1 + 1 + 1 + 1, o4), (L + 1 + 1 + 1, o3), (L + 1 + 1, o2), (L + 1, o1)]) (d1 : o1.data = .cell none) (d2 : o2.data = .cell none) (d3 : o3.data = .cell none) (d4 : o4.data = .cell none) (d5 : o5.data = .cell none) (d6 : o6.data = .cell none) (d7 : o7.data = .cell none) (d8 : o8.data = .cell none) (d9 : o9.data = .cell none) (d10 : o10.data = .cell none) (hm : m (PySem.Str.ofString "script") = some (.ref sa)) (hs : g.IsList sa svs.toArray) (hi : IntsAre svs ss) (hl : ss.length ≤ 63)
   (hE : PassesOwn (model pwC w) (callerA.deeper (envOfC (PySem.Str.ofString "law") lawSc L f cdv)) (envOfC (PySem.Str.ofString "law") lawSc L f cdv) E)
   (use : ∀ (h' : Heap) (tk' : Nat) (m' : PySem.Str → Option Value) (nx : List (Addr × Obj)), Fr g L h' m' → News g L h' nx → Q (.ret (.bool true)) ⟨h', gens, drawn, tk', os⟩) : wpAny (model pwC w) (callerA.deeper (envOfC (PySem.Str.ofString "law") lawSc L f cdv)) (execs lawBody (envOfC (PySem.Str.ofString "law") lawSc L f cdv)) Q E ⟨h, gens, drawn, toks, os⟩ := by
  rw [lawBody_eq]
  exact law_body w mean mg mb B X T F N d1 d2 d3 d4 d5 d6 d7 d8 d9 d10 hm hs hi hl hE use
end
-- KFin
noncomputable section
open PySem PySem.W PyProof.Rows
set_option Elab.async false
set_option maxRecDepth 100000
set_option maxHeartbeats 8000000
theorem and_tt {a b : Bool} (h : a = true) (k : b = true) : (a && b) = true := by rw [h, k]; rfl
theorem saidAll : (PySem.Challenge.rw_yh0002_01).wellSaid = true := by
  unfold OpenLaw.wellSaid
  repeat' (with_reducible refine and_tt ?_ ?_)
  all_goals (try unfold OpenRow.wellSaid)
  repeat' (with_reducible refine and_tt ?_ ?_)
  all_goals (try unfold OpenRow.partSaid)
  repeat' (with_reducible refine and_tt ?_ ?_)
  all_goals (try unfold looksOpen)
  repeat' (with_reducible refine and_tt ?_ ?_)
  all_goals decide +kernel
section
local macro_rules | `(tactic| cells_open $Y) => `(tactic| (refine kc_tenK $Y ?_; intro _ _ _ _ _ _ _ _ _ _ _ _ _ _ _ _ _ _ _ _ _))
theorem skel : PySem.Challenge.rw_yh0002_01.Holds := by
  w_on
  refine holds_law saidAll fun said => ?_
  refine holds_open (q := vw) (loose := loo) (Xt := XtR) (XP := XL vw []) (Yf := Hook.obs HK) (Ya := Hook.val HK) (YP := Hook.says HK) (N := 13000) leftAll (Hook.of HK) (Hook.keeps HK) (fun s e => xl_of s (Bool.and_eq_true_iff.mp e).1) XL.keeps (by rfl) (by rfl) (by rfl) (fun s e => recFacts_of (Bool.and_eq_true_iff.mp e).2) (by rfl) said (and_tt (and_tt (by decide +kernel) (by decide +kernel)) (by decide +kernel)) ⟨rfl,rfl,rfl,rfl,rfl, by decide +kernel⟩ ?hw ?hc
  case hw => w_witness2
  case hc =>
    w_strict ((
      k_fill
      intro w s₀ s₁ mg mb G Y fa o pm cd doc dV kV ho hd hcd hD hmg hg args vals as hpre hlay hrd hwl hlo
      have KX := kIn_of Y
      have X := (Ground.X G).1
      have V := (Ground.X G).2
      refine Ground.open G ?_
      intro T B D TE TW
      try (refine guard_noD D (by decide +kernel) ?_; clear D)
      obtain ⟨_, _, M⟩ := bmod_of_top T
      have TA := at_of_top T
      try (obtain ⟨_, _, he, B0⟩ := based_of_top T rfl hmg ho hd; have he' : cd = _ := he; subst he'; clear he)
      clear hmg
      wrow_args hpre hlay hrd hwl hlo
      all_goals (
        first | refine callC_kw (enter_call ?_) | refine enter_call ?_ | refine callC_kw (enter_callW ?_) | refine enter_callW ?_ | w_how
        w_top on
        try refine codeAny_mono ?_ (fun _ _ g => GoodW.toG g)
        have K0 := below_caller (Top.heap T)
        w_call any ho hd hcd hD T F
        clear hd TA
        k_drop
        skip)))
    rename_i o1 o2 o3 o4 o5 o6 o7 o8 o9 o10 hcl d1 d2 d3 d4 d5 d6 d7 d8 d9 d10
    subst hcl
    rename Fr _ _ _ _ => F0
    rename News _ _ _ _ => N0
    rename Below _ _ _ _ => B0
    rename Frag.In _ _ => X0
    rename IntsAre _ _ => I0
    rename Heap.IsList _ _ _ => L0
    rename Top _ _ _ _ _ _ => T0
    rename ¬ _ < _ => c0
    have q1 := d1.trans (show _ = Data.cell none from rfl)
    have q2 := d2.trans (show _ = Data.cell none from rfl)
    have q3 := d3.trans (show _ = Data.cell none from rfl)
    have q4 := d4.trans (show _ = Data.cell none from rfl)
    have q5 := d5.trans (show _ = Data.cell none from rfl)
    have q6 := d6.trans (show _ = Data.cell none from rfl)
    have q7 := d7.trans (show _ = Data.cell none from rfl)
    have q8 := d8.trans (show _ = Data.cell none from rfl)
    have q9 := d9.trans (show _ = Data.cell none from rfl)
    have q10 := d10.trans (show _ = Data.cell none from rfl)
    refine law_all _ _ _ _ B0 X0 T0 F0 N0 q10 q9 q8 q7 q6 q5 q4 q3 q2 q1 rfl L0 I0 (by omega) PassesOwn.leaving ?_
    intro h' tk' m' nx F' N'
    dsimp only
    k_steps
end
end
end Mine
theorem PySem.Challenge.cw_yh0002_01_holds : PySem.Challenge.rw_yh0002_01.Holds := by
  exact Mine.skel
