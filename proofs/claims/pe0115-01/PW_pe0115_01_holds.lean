import PyProof.Rows.All
import Wide.All
import OpenK.AllK
import Wide.FinOn
import PySem.Challenge.RW_pe0115_01
section
open PySem PySem.W PyProof.Rows
set_option Elab.async false
set_option maxRecDepth 100000
namespace Mine
/-! the head, laid by hand: no twins of the program are made (they cost 11 MB compiled) -/
def defParts : Stmt → Option (Arguments × List Stmt × Scope)
  | .FunctionDef _ a b _ _ _ c _ _ _ => some (a, b, c)
  | _ => none
set_option maxHeartbeats 8000000 in
/-- the objects that the walk reads (written by tools/gen.lean); a def's parts are read off the given row -/
noncomputable def hd.heap_39 : Params → Frag := fun P =>
  (fun (a21 : Arguments) (b21 : List Stmt) (c21 : Scope) (a28 : Arguments) (b28 : List Stmt) (c28 : Scope) (a35 : Arguments) (b35 : List Stmt) (c35 : Scope) (a42 : Arguments) (b42 : List Stmt) (c42 : Scope) (a49 : Arguments) (b49 : List Stmt) (c49 : Scope) (a56 : Arguments) (b56 : List Stmt) (c56 : Scope) (a63 : Arguments) (b63 : List Stmt) (c63 : Scope) (a70 : Arguments) (b70 : List Stmt) (c70 : Scope) (a77 : Arguments) (b77 : List Stmt) (c77 : Scope) (a84 : Arguments) (b84 : List Stmt) (c84 : Scope) (a91 : Arguments) (b91 : List Stmt) (c91 : Scope) (a98 : Arguments) (b98 : List Stmt) (c98 : Scope) (a105 : Arguments) (b105 : List Stmt) (c105 : Scope) (a112 : Arguments) (b112 : List Stmt) (c112 : Scope) (a119 : Arguments) (b119 : List Stmt) (c119 : Scope) (a126 : Arguments) (b126 : List Stmt) (c126 : Scope) (a133 : Arguments) (b133 : List Stmt) (c133 : Scope) (a138 : Arguments) (b138 : List Stmt) (c138 : Scope) (a145 : Arguments) (b145 : List Stmt) (c145 : Scope) (a152 : Arguments) (b152 : List Stmt) (c152 : Scope) (a157 : Arguments) (b157 : List Stmt) (c157 : Scope) (_ : PySem.Challenge.pw_pe0115_01.main.body.map defParts = [none, none, none, none, some (a21, b21, c21), some (a28, b28, c28), some (a35, b35, c35), some (a42, b42, c42), some (a49, b49, c49), none, some (a56, b56, c56), some (a63, b63, c63), some (a70, b70, c70), some (a77, b77, c77), some (a84, b84, c84), some (a91, b91, c91), some (a98, b98, c98), some (a105, b105, c105), some (a112, b112, c112), some (a119, b119, c119), some (a126, b126, c126), none, some (a133, b133, c133), some (a138, b138, c138), some (a145, b145, c145), some (a152, b152, c152), some (a157, b157, c157)]) =>
    (nat_lit 2, { cls := Value.none, data := Data.dict #[] }) ::
     (nat_lit 3, { cls := Value.type "dict", data := Data.dict #[{ hash := PyData.keyHash P (Str.ofString "__name__"), key := Value.str (Str.ofString "__name__") 165, val := Value.str (Str.ofString "law_pe0115_01") 362 }, { hash := PyData.keyHash P (Str.ofString "__doc__"), key := Value.str (Str.ofString "__doc__") 166, val := Value.none }, { hash := PyData.keyHash P (Str.ofString "__package__"), key := Value.str (Str.ofString "__package__") 167, val := Value.none }, { hash := PyData.keyHash P (Str.ofString "__loader__"), key := Value.str (Str.ofString "__loader__") 168, val := Value.builtin "__main__.__loader__#opaque" }, { hash := PyData.keyHash P (Str.ofString "__spec__"), key := Value.str (Str.ofString "__spec__") 169, val := Value.none }, { hash := PyData.keyHash P (Str.ofString "__annotations__"), key := Value.str (Str.ofString "__annotations__") 170, val := Value.ref 6 }, { hash := PyData.keyHash P (Str.ofString "__builtins__"), key := Value.str (Str.ofString "__builtins__") 171, val := Value.ref 4 }, { hash := PyData.keyHash P (Str.ofString "__file__"), key := Value.str (Str.ofString "__file__") 173, val := Value.str (Str.ofString "/claim/cut.py") 172 }, { hash := PyData.keyHash P (Str.ofString "__cached__"), key := Value.str (Str.ofString "__cached__") 174, val := Value.none }, { hash := PyData.keyHash P (Str.ofString "ONE_THIRD"), key := Value.str (Str.ofString "ONE_THIRD") 192, val := Value.float 4599676419421066581 191 }, { hash := PyData.keyHash P (Str.ofString "ONE_SIXTH"), key := Value.str (Str.ofString "ONE_SIXTH") 196, val := Value.float 4595172819793696085 195 }, { hash := PyData.keyHash P (Str.ofString "TWO_THIRD"), key := Value.str (Str.ofString "TWO_THIRD") 200, val := Value.float 4604180019048437077 199 }, { hash := PyData.keyHash P (Str.ofString "rgb_to_hls"), key := Value.str (Str.ofString "rgb_to_hls") 219, val := Value.ref 21 }, { hash := PyData.keyHash P (Str.ofString "hls_to_rgb"), key := Value.str (Str.ofString "hls_to_rgb") 230, val := Value.ref 28 }, { hash := PyData.keyHash P (Str.ofString "_v"), key := Value.str (Str.ofString "_v") 239, val := Value.ref 35 }, { hash := PyData.keyHash P (Str.ofString "rgb_to_hsv"), key := Value.str (Str.ofString "rgb_to_hsv") 257, val := Value.ref 42 }, { hash := PyData.keyHash P (Str.ofString "hsv_to_rgb"), key := Value.str (Str.ofString "hsv_to_rgb") 271, val := Value.ref 49 }, { hash := PyData.keyHash P (Str.ofString "ge"), key := Value.str (Str.ofString "ge") 281, val := Value.ref 56 }, { hash := PyData.keyHash P (Str.ofString "and_"), key := Value.str (Str.ofString "and_") 289, val := Value.ref 63 }, { hash := PyData.keyHash P (Str.ofString "inv"), key := Value.str (Str.ofString "inv") 296, val := Value.ref 70 }, { hash := PyData.keyHash P (Str.ofString "lshift"), key := Value.str (Str.ofString "lshift") 304, val := Value.ref 77 }, { hash := PyData.keyHash P (Str.ofString "mul"), key := Value.str (Str.ofString "mul") 312, val := Value.ref 84 }, { hash := PyData.keyHash P (Str.ofString "neg"), key := Value.str (Str.ofString "neg") 319, val := Value.ref 91 }, { hash := PyData.keyHash P (Str.ofString "or_"), key := Value.str (Str.ofString "or_") 327, val := Value.ref 98 }, { hash := PyData.keyHash P (Str.ofString "rshift"), key := Value.str (Str.ofString "rshift") 335, val := Value.ref 105 }, { hash := PyData.keyHash P (Str.ofString "sub"), key := Value.str (Str.ofString "sub") 343, val := Value.ref 112 }, { hash := PyData.keyHash P (Str.ofString "getitem"), key := Value.str (Str.ofString "getitem") 351, val := Value.ref 119 }, { hash := PyData.keyHash P (Str.ofString "indexOf"), key := Value.str (Str.ofString "indexOf") 361, val := Value.ref 126 }, { hash := PyData.keyHash P (Str.ofString "_law_boxes"), key := Value.str (Str.ofString "_law_boxes") 377, val := Value.ref 133 }, { hash := PyData.keyHash P (Str.ofString "_law_falling"), key := Value.str (Str.ofString "_law_falling") 383, val := Value.ref 138 }, { hash := PyData.keyHash P (Str.ofString "_law_run"), key := Value.str (Str.ofString "_law_run") 398, val := Value.ref 145 }, { hash := PyData.keyHash P (Str.ofString "_law_words"), key := Value.str (Str.ofString "_law_words") 414, val := Value.ref 152 }, { hash := PyData.keyHash P (Str.ofString "law"), key := Value.str (Str.ofString "law") 420, val := Value.ref 157 }] 33 }) ::
     (nat_lit 20, { cls := Value.type "code", data := Data.fields #[Value.str (Str.ofString "rgb_to_hls") 201, Value.str (Str.ofString "rgb_to_hls") 202, Value.str (Str.ofString "/claim/cut.py") 203, Value.int 5 0, Value.int 3 0, Value.int 0 0, Value.int 0 0, Value.int 3 0, Value.ref 15, Value.bool true, Value.int 181 0, Value.ref 16, Value.none, Value.ref 17, Value.ref 18, Value.ref 19, Value.int 217 0, Value.int 5 0, Value.str (Str.ofString "/claim/cut.py") 218] }) ::
     (nat_lit 21, { cls := Value.type "function", data := Data.func { name := Str.ofString "rgb_to_hls", qualname := Str.ofString "rgb_to_hls", params := a21, body := FuncBody.stmts b21, scope := c21, globals := 3, closure := [], defaults := Value.none, kwdefaults := Value.none, pyModule := Value.str (Str.ofString "cpy313.colorsys") 187, code := Value.ref 20 } }) ::
     (nat_lit 27, { cls := Value.type "code", data := Data.fields #[Value.str (Str.ofString "hls_to_rgb") 220, Value.str (Str.ofString "hls_to_rgb") 221, Value.str (Str.ofString "/claim/cut.py") 222, Value.int 28 0, Value.int 3 0, Value.int 0 0, Value.int 0 0, Value.int 3 0, Value.ref 22, Value.bool true, Value.int 181 0, Value.ref 23, Value.none, Value.ref 24, Value.ref 25, Value.ref 26, Value.int 228 0, Value.int 28 0, Value.str (Str.ofString "/claim/cut.py") 229] }) ::
     (nat_lit 28, { cls := Value.type "function", data := Data.func { name := Str.ofString "hls_to_rgb", qualname := Str.ofString "hls_to_rgb", params := a28, body := FuncBody.stmts b28, scope := c28, globals := 3, closure := [], defaults := Value.none, kwdefaults := Value.none, pyModule := Value.str (Str.ofString "cpy313.colorsys") 187, code := Value.ref 27 } }) ::
     (nat_lit 34, { cls := Value.type "code", data := Data.fields #[Value.str (Str.ofString "_v") 231, Value.str (Str.ofString "_v") 232, Value.str (Str.ofString "/claim/cut.py") 233, Value.int 37 0, Value.int 3 0, Value.int 0 0, Value.int 0 0, Value.int 3 0, Value.ref 29, Value.bool true, Value.int 181 0, Value.ref 30, Value.none, Value.ref 31, Value.ref 32, Value.ref 33, Value.int 237 0, Value.int 37 0, Value.str (Str.ofString "/claim/cut.py") 238] }) ::
     (nat_lit 35, { cls := Value.type "function", data := Data.func { name := Str.ofString "_v", qualname := Str.ofString "_v", params := a35, body := FuncBody.stmts b35, scope := c35, globals := 3, closure := [], defaults := Value.none, kwdefaults := Value.none, pyModule := Value.str (Str.ofString "cpy313.colorsys") 187, code := Value.ref 34 } }) ::
     (nat_lit 41, { cls := Value.type "code", data := Data.fields #[Value.str (Str.ofString "rgb_to_hsv") 240, Value.str (Str.ofString "rgb_to_hsv") 241, Value.str (Str.ofString "/claim/cut.py") 242, Value.int 46 0, Value.int 3 0, Value.int 0 0, Value.int 0 0, Value.int 3 0, Value.ref 36, Value.bool true, Value.int 181 0, Value.ref 37, Value.none, Value.ref 38, Value.ref 39, Value.ref 40, Value.int 255 0, Value.int 46 0, Value.str (Str.ofString "/claim/cut.py") 256] }) ::
     (nat_lit 42, { cls := Value.type "function", data := Data.func { name := Str.ofString "rgb_to_hsv", qualname := Str.ofString "rgb_to_hsv", params := a42, body := FuncBody.stmts b42, scope := c42, globals := 3, closure := [], defaults := Value.none, kwdefaults := Value.none, pyModule := Value.str (Str.ofString "cpy313.colorsys") 187, code := Value.ref 41 } }) ::
     (nat_lit 48, { cls := Value.type "code", data := Data.fields #[Value.str (Str.ofString "hsv_to_rgb") 258, Value.str (Str.ofString "hsv_to_rgb") 259, Value.str (Str.ofString "/claim/cut.py") 260, Value.int 65 0, Value.int 3 0, Value.int 0 0, Value.int 0 0, Value.int 3 0, Value.ref 43, Value.bool true, Value.int 181 0, Value.ref 44, Value.none, Value.ref 45, Value.ref 46, Value.ref 47, Value.int 269 0, Value.int 65 0, Value.str (Str.ofString "/claim/cut.py") 270] }) ::
     (nat_lit 49, { cls := Value.type "function", data := Data.func { name := Str.ofString "hsv_to_rgb", qualname := Str.ofString "hsv_to_rgb", params := a49, body := FuncBody.stmts b49, scope := c49, globals := 3, closure := [], defaults := Value.none, kwdefaults := Value.none, pyModule := Value.str (Str.ofString "cpy313.colorsys") 187, code := Value.ref 48 } }) ::
     (nat_lit 55, { cls := Value.type "code", data := Data.fields #[Value.str (Str.ofString "ge") 274, Value.str (Str.ofString "ge") 275, Value.str (Str.ofString "/claim/cut.py") 276, Value.int 87 0, Value.int 2 0, Value.int 0 0, Value.int 0 0, Value.int 3 0, Value.ref 50, Value.bool true, Value.int 181 0, Value.ref 51, Value.none, Value.ref 52, Value.ref 53, Value.ref 54, Value.int 279 0, Value.int 87 0, Value.str (Str.ofString "/claim/cut.py") 280] }) ::
     (nat_lit 56, { cls := Value.type "function", data := Data.func { name := Str.ofString "ge", qualname := Str.ofString "ge", params := a56, body := FuncBody.stmts b56, scope := c56, globals := 3, closure := [], defaults := Value.none, kwdefaults := Value.none, pyModule := Value.str (Str.ofString "cpy313.operator") 272, code := Value.ref 55 } }) ::
     (nat_lit 62, { cls := Value.type "code", data := Data.fields #[Value.str (Str.ofString "and_") 282, Value.str (Str.ofString "and_") 283, Value.str (Str.ofString "/claim/cut.py") 284, Value.int 89 0, Value.int 2 0, Value.int 0 0, Value.int 0 0, Value.int 3 0, Value.ref 57, Value.bool true, Value.int 181 0, Value.ref 58, Value.none, Value.ref 59, Value.ref 60, Value.ref 61, Value.int 287 0, Value.int 89 0, Value.str (Str.ofString "/claim/cut.py") 288] }) ::
     (nat_lit 63, { cls := Value.type "function", data := Data.func { name := Str.ofString "and_", qualname := Str.ofString "and_", params := a63, body := FuncBody.stmts b63, scope := c63, globals := 3, closure := [], defaults := Value.none, kwdefaults := Value.none, pyModule := Value.str (Str.ofString "cpy313.operator") 272, code := Value.ref 62 } }) ::
     (nat_lit 69, { cls := Value.type "code", data := Data.fields #[Value.str (Str.ofString "inv") 290, Value.str (Str.ofString "inv") 291, Value.str (Str.ofString "/claim/cut.py") 292, Value.int 91 0, Value.int 1 0, Value.int 0 0, Value.int 0 0, Value.int 3 0, Value.ref 64, Value.bool true, Value.int 181 0, Value.ref 65, Value.none, Value.ref 66, Value.ref 67, Value.ref 68, Value.int 294 0, Value.int 91 0, Value.str (Str.ofString "/claim/cut.py") 295] }) ::
     (nat_lit 70, { cls := Value.type "function", data := Data.func { name := Str.ofString "inv", qualname := Str.ofString "inv", params := a70, body := FuncBody.stmts b70, scope := c70, globals := 3, closure := [], defaults := Value.none, kwdefaults := Value.none, pyModule := Value.str (Str.ofString "cpy313.operator") 272, code := Value.ref 69 } }) ::
     (nat_lit 76, { cls := Value.type "code", data := Data.fields #[Value.str (Str.ofString "lshift") 297, Value.str (Str.ofString "lshift") 298, Value.str (Str.ofString "/claim/cut.py") 299, Value.int 93 0, Value.int 2 0, Value.int 0 0, Value.int 0 0, Value.int 3 0, Value.ref 71, Value.bool true, Value.int 181 0, Value.ref 72, Value.none, Value.ref 73, Value.ref 74, Value.ref 75, Value.int 302 0, Value.int 93 0, Value.str (Str.ofString "/claim/cut.py") 303] }) ::
     (nat_lit 77, { cls := Value.type "function", data := Data.func { name := Str.ofString "lshift", qualname := Str.ofString "lshift", params := a77, body := FuncBody.stmts b77, scope := c77, globals := 3, closure := [], defaults := Value.none, kwdefaults := Value.none, pyModule := Value.str (Str.ofString "cpy313.operator") 272, code := Value.ref 76 } }) ::
     (nat_lit 83, { cls := Value.type "code", data := Data.fields #[Value.str (Str.ofString "mul") 305, Value.str (Str.ofString "mul") 306, Value.str (Str.ofString "/claim/cut.py") 307, Value.int 95 0, Value.int 2 0, Value.int 0 0, Value.int 0 0, Value.int 3 0, Value.ref 78, Value.bool true, Value.int 181 0, Value.ref 79, Value.none, Value.ref 80, Value.ref 81, Value.ref 82, Value.int 310 0, Value.int 95 0, Value.str (Str.ofString "/claim/cut.py") 311] }) ::
     (nat_lit 84, { cls := Value.type "function", data := Data.func { name := Str.ofString "mul", qualname := Str.ofString "mul", params := a84, body := FuncBody.stmts b84, scope := c84, globals := 3, closure := [], defaults := Value.none, kwdefaults := Value.none, pyModule := Value.str (Str.ofString "cpy313.operator") 272, code := Value.ref 83 } }) ::
     (nat_lit 90, { cls := Value.type "code", data := Data.fields #[Value.str (Str.ofString "neg") 313, Value.str (Str.ofString "neg") 314, Value.str (Str.ofString "/claim/cut.py") 315, Value.int 97 0, Value.int 1 0, Value.int 0 0, Value.int 0 0, Value.int 3 0, Value.ref 85, Value.bool true, Value.int 181 0, Value.ref 86, Value.none, Value.ref 87, Value.ref 88, Value.ref 89, Value.int 317 0, Value.int 97 0, Value.str (Str.ofString "/claim/cut.py") 318] }) ::
     (nat_lit 91, { cls := Value.type "function", data := Data.func { name := Str.ofString "neg", qualname := Str.ofString "neg", params := a91, body := FuncBody.stmts b91, scope := c91, globals := 3, closure := [], defaults := Value.none, kwdefaults := Value.none, pyModule := Value.str (Str.ofString "cpy313.operator") 272, code := Value.ref 90 } }) ::
     (nat_lit 97, { cls := Value.type "code", data := Data.fields #[Value.str (Str.ofString "or_") 320, Value.str (Str.ofString "or_") 321, Value.str (Str.ofString "/claim/cut.py") 322, Value.int 99 0, Value.int 2 0, Value.int 0 0, Value.int 0 0, Value.int 3 0, Value.ref 92, Value.bool true, Value.int 181 0, Value.ref 93, Value.none, Value.ref 94, Value.ref 95, Value.ref 96, Value.int 325 0, Value.int 99 0, Value.str (Str.ofString "/claim/cut.py") 326] }) ::
     (nat_lit 98, { cls := Value.type "function", data := Data.func { name := Str.ofString "or_", qualname := Str.ofString "or_", params := a98, body := FuncBody.stmts b98, scope := c98, globals := 3, closure := [], defaults := Value.none, kwdefaults := Value.none, pyModule := Value.str (Str.ofString "cpy313.operator") 272, code := Value.ref 97 } }) ::
     (nat_lit 104, { cls := Value.type "code", data := Data.fields #[Value.str (Str.ofString "rshift") 328, Value.str (Str.ofString "rshift") 329, Value.str (Str.ofString "/claim/cut.py") 330, Value.int 101 0, Value.int 2 0, Value.int 0 0, Value.int 0 0, Value.int 3 0, Value.ref 99, Value.bool true, Value.int 181 0, Value.ref 100, Value.none, Value.ref 101, Value.ref 102, Value.ref 103, Value.int 333 0, Value.int 101 0, Value.str (Str.ofString "/claim/cut.py") 334] }) ::
     (nat_lit 105, { cls := Value.type "function", data := Data.func { name := Str.ofString "rshift", qualname := Str.ofString "rshift", params := a105, body := FuncBody.stmts b105, scope := c105, globals := 3, closure := [], defaults := Value.none, kwdefaults := Value.none, pyModule := Value.str (Str.ofString "cpy313.operator") 272, code := Value.ref 104 } }) ::
     (nat_lit 111, { cls := Value.type "code", data := Data.fields #[Value.str (Str.ofString "sub") 336, Value.str (Str.ofString "sub") 337, Value.str (Str.ofString "/claim/cut.py") 338, Value.int 103 0, Value.int 2 0, Value.int 0 0, Value.int 0 0, Value.int 3 0, Value.ref 106, Value.bool true, Value.int 181 0, Value.ref 107, Value.none, Value.ref 108, Value.ref 109, Value.ref 110, Value.int 341 0, Value.int 103 0, Value.str (Str.ofString "/claim/cut.py") 342] }) ::
     (nat_lit 112, { cls := Value.type "function", data := Data.func { name := Str.ofString "sub", qualname := Str.ofString "sub", params := a112, body := FuncBody.stmts b112, scope := c112, globals := 3, closure := [], defaults := Value.none, kwdefaults := Value.none, pyModule := Value.str (Str.ofString "cpy313.operator") 272, code := Value.ref 111 } }) ::
     (nat_lit 118, { cls := Value.type "code", data := Data.fields #[Value.str (Str.ofString "getitem") 344, Value.str (Str.ofString "getitem") 345, Value.str (Str.ofString "/claim/cut.py") 346, Value.int 105 0, Value.int 2 0, Value.int 0 0, Value.int 0 0, Value.int 3 0, Value.ref 113, Value.bool true, Value.int 181 0, Value.ref 114, Value.none, Value.ref 115, Value.ref 116, Value.ref 117, Value.int 349 0, Value.int 105 0, Value.str (Str.ofString "/claim/cut.py") 350] }) ::
     (nat_lit 119, { cls := Value.type "function", data := Data.func { name := Str.ofString "getitem", qualname := Str.ofString "getitem", params := a119, body := FuncBody.stmts b119, scope := c119, globals := 3, closure := [], defaults := Value.none, kwdefaults := Value.none, pyModule := Value.str (Str.ofString "cpy313.operator") 272, code := Value.ref 118 } }) ::
     (nat_lit 125, { cls := Value.type "code", data := Data.fields #[Value.str (Str.ofString "indexOf") 352, Value.str (Str.ofString "indexOf") 353, Value.str (Str.ofString "/claim/cut.py") 354, Value.int 107 0, Value.int 2 0, Value.int 0 0, Value.int 0 0, Value.int 3 0, Value.ref 120, Value.bool true, Value.int 181 0, Value.ref 121, Value.none, Value.ref 122, Value.ref 123, Value.ref 124, Value.int 359 0, Value.int 107 0, Value.str (Str.ofString "/claim/cut.py") 360] }) ::
     (nat_lit 126, { cls := Value.type "function", data := Data.func { name := Str.ofString "indexOf", qualname := Str.ofString "indexOf", params := a126, body := FuncBody.stmts b126, scope := c126, globals := 3, closure := [], defaults := Value.none, kwdefaults := Value.none, pyModule := Value.str (Str.ofString "cpy313.operator") 272, code := Value.ref 125 } }) ::
     (nat_lit 132, { cls := Value.type "code", data := Data.fields #[Value.str (Str.ofString "_law_boxes") 364, Value.str (Str.ofString "_law_boxes") 365, Value.str (Str.ofString "/claim/cut.py") 366, Value.int 114 0, Value.int 1 0, Value.int 0 0, Value.int 0 0, Value.int 3 0, Value.ref 127, Value.bool true, Value.int 181 0, Value.ref 128, Value.none, Value.ref 129, Value.ref 130, Value.ref 131, Value.int 375 0, Value.int 114 0, Value.str (Str.ofString "/claim/cut.py") 376] }) ::
     (nat_lit 133, { cls := Value.type "function", data := Data.func { name := Str.ofString "_law_boxes", qualname := Str.ofString "_law_boxes", params := a133, body := FuncBody.stmts b133, scope := c133, globals := 3, closure := [], defaults := Value.none, kwdefaults := Value.none, pyModule := Value.str (Str.ofString "law_pe0115_01") 362, code := Value.ref 132 } }) ::
     (nat_lit 137, { cls := Value.type "code", data := Data.fields #[Value.str (Str.ofString "_law_falling") 378, Value.str (Str.ofString "_law_falling") 379, Value.str (Str.ofString "/claim/cut.py") 380, Value.int 126 0, Value.int 2 0, Value.int 0 0, Value.int 0 0, Value.int 3 0, Value.ref 134, Value.bool true, Value.int 181 0, Value.ref 135, Value.none, Value.none, Value.none, Value.ref 136, Value.int 381 0, Value.int 126 0, Value.str (Str.ofString "/claim/cut.py") 382] }) ::
     (nat_lit 138, { cls := Value.type "function", data := Data.func { name := Str.ofString "_law_falling", qualname := Str.ofString "_law_falling", params := a138, body := FuncBody.stmts b138, scope := c138, globals := 3, closure := [], defaults := Value.none, kwdefaults := Value.none, pyModule := Value.str (Str.ofString "law_pe0115_01") 362, code := Value.ref 137 } }) ::
     (nat_lit 144, { cls := Value.type "code", data := Data.fields #[Value.str (Str.ofString "_law_run") 384, Value.str (Str.ofString "_law_run") 385, Value.str (Str.ofString "/claim/cut.py") 386, Value.int 148 0, Value.int 2 0, Value.int 0 0, Value.int 0 0, Value.int 3 0, Value.ref 139, Value.bool true, Value.int 181 0, Value.ref 140, Value.none, Value.ref 141, Value.ref 142, Value.ref 143, Value.int 396 0, Value.int 148 0, Value.str (Str.ofString "/claim/cut.py") 397] }) ::
     (nat_lit 145, { cls := Value.type "function", data := Data.func { name := Str.ofString "_law_run", qualname := Str.ofString "_law_run", params := a145, body := FuncBody.stmts b145, scope := c145, globals := 3, closure := [], defaults := Value.none, kwdefaults := Value.none, pyModule := Value.str (Str.ofString "law_pe0115_01") 362, code := Value.ref 144 } }) ::
     (nat_lit 151, { cls := Value.type "code", data := Data.fields #[Value.str (Str.ofString "_law_words") 399, Value.str (Str.ofString "_law_words") 400, Value.str (Str.ofString "/claim/cut.py") 401, Value.int 161 0, Value.int 1 0, Value.int 0 0, Value.int 0 0, Value.int 3 0, Value.ref 146, Value.bool true, Value.int 181 0, Value.ref 147, Value.none, Value.ref 148, Value.ref 149, Value.ref 150, Value.int 412 0, Value.int 161 0, Value.str (Str.ofString "/claim/cut.py") 413] }) ::
     (nat_lit 152, { cls := Value.type "function", data := Data.func { name := Str.ofString "_law_words", qualname := Str.ofString "_law_words", params := a152, body := FuncBody.stmts b152, scope := c152, globals := 3, closure := [], defaults := Value.none, kwdefaults := Value.none, pyModule := Value.str (Str.ofString "law_pe0115_01") 362, code := Value.ref 151 } }) ::
     (nat_lit 156, { cls := Value.type "code", data := Data.fields #[Value.str (Str.ofString "law") 415, Value.str (Str.ofString "law") 416, Value.str (Str.ofString "/claim/cut.py") 417, Value.int 171 0, Value.int 1 0, Value.int 0 0, Value.int 0 0, Value.int 3 0, Value.ref 153, Value.bool true, Value.int 181 0, Value.ref 154, Value.none, Value.none, Value.none, Value.ref 155, Value.int 418 0, Value.int 171 0, Value.str (Str.ofString "/claim/cut.py") 419] }) ::
     (nat_lit 157, { cls := Value.type "function", data := Data.func { name := Str.ofString "law", qualname := Str.ofString "law", params := a157, body := FuncBody.stmts b157, scope := c157, globals := 3, closure := [], defaults := Value.none, kwdefaults := Value.none, pyModule := Value.str (Str.ofString "law_pe0115_01") 362, code := Value.ref 156 } }) :: [])
    _ _ _ _ _ _ _ _ _ _ _ _ _ _ _ _ _ _ _ _ _ _ _ _ _ _ _ _ _ _ _ _ _ _ _ _ _ _ _ _ _ _ _ _ _ _ _ _ _ _ _ _ _ _ _ _ _ _ _ _ _ _ _ rfl
noncomputable def hd.view_39 : Program :=
  { PySem.Challenge.rw_pe0115_01.row.prog with main := { PySem.Challenge.rw_pe0115_01.row.prog.main with body := (PySem.Challenge.rw_pe0115_01.row.prog.main.body.drop 1).take 8 ++ ((PySem.Challenge.rw_pe0115_01.row.prog.main.body.drop 10).take 11 ++ PySem.Challenge.rw_pe0115_01.row.prog.main.body.drop 22) } }
noncomputable abbrev hd.hook : Hook := kHook hd.heap_39 [2, 3, 20, 21, 27, 28, 34, 35, 41, 42, 48, 49, 55, 56, 62, 63, 69, 70, 76, 77, 83, 84, 90, 91, 97, 98, 104, 105, 111, 112, 118, 119, 125, 126, 132, 133, 137, 138, 144, 145, 151, 152, 156, 157] (fun _ => by kernel_rfl)
abbrev hd.row : RowW := PySem.Challenge.rw_pe0115_01.row.toRowW
abbrev hd.loose : List Str := [Str.ofString "ONE_THIRD", Str.ofString "ONE_SIXTH", Str.ofString "TWO_THIRD"]
abbrev hd.read : List (Str × WData) := [(Str.ofString "ONE_THIRD", WData.float 4599676419421066581), (Str.ofString "ONE_SIXTH", WData.float 4595172819793696085), (Str.ofString "TWO_THIRD", WData.float 4604180019048437077)]
set_option maxHeartbeats 8000000 in
theorem hd.said : OpenLaw.wellSaid PySem.Challenge.rw_pe0115_01 = true := by
  unfold OpenLaw.wellSaid OpenRow.wellSaid OpenRow.partSaid looksOpen
  repeat' (with_reducible refine look_both ?_ ?_)
  all_goals decide +kernel
set_option maxHeartbeats 8000000 in
theorem hd.left : LeftO PySem.Challenge.rw_pe0115_01.row.prog hd.view_39 hd.loose (fun s => xlAt hd.view_39 hd.read s && recOk (RowW.records hd.row) s) (Hook.obs hd.hook) (Hook.val hd.hook) 1618 := by
  intro w; kernel_rfl
set_option maxHeartbeats 8000000 in
theorem hd.fits : (chainsOk hd.view_39 && opensWell hd.row.prog && (frees hd.row && hd.row.within.isEmpty)) = true := by decide +kernel
set_option maxHeartbeats 8000000 in
theorem hd.open_ {d : DefRec} {kwd : List (Str × PySem.Expr)} (hdef : defOf hd.view_39 hd.row.name = some (d, kwd)) (hp : hd.row.prog.theDef hd.row.name = some (d.params, d.body, d.scope)) (hk : kwWritten? d.params.kwonlyargs d.params.kw_defaults = some kwd)
    (call : WalkO hd.view_39 [Str.ofString "ONE_THIRD", Str.ofString "ONE_SIXTH", Str.ofString "TWO_THIRD"] (XL hd.view_39 [(Str.ofString "ONE_THIRD", WData.float 4599676419421066581), (Str.ofString "ONE_SIXTH", WData.float 4595172819793696085), (Str.ofString "TWO_THIRD", WData.float 4604180019048437077)])
      (kHook hd.heap_39 [2, 3, 20, 21, 27, 28, 34, 35, 41, 42, 48, 49, 55, 56, 62, 63, 69, 70, 76, 77, 83, 84, 90, 91, 97, 98, 104, 105, 111, 112, 118, 119, 125, 126, 132, 133, 137, 138, 144, 145, 151, 152, 156, 157] (fun _ => by kernel_rfl)).says PySem.Challenge.rw_pe0115_01.row.toRowW d kwd fun f vs => PySem.call f vs) : PySem.Challenge.rw_pe0115_01.Holds := by
  w_on
  refine holds_law hd.said fun said => ?_
  refine holds_open (q := hd.view_39) (loose := hd.loose) (Xt := fun s => xlAt hd.view_39 hd.read s && recOk (RowW.records hd.row) s) (XP := XL hd.view_39 hd.read) (Yf := Hook.obs hd.hook) (Ya := Hook.val hd.hook) (YP := Hook.says hd.hook) (N := 1618) hd.left (Hook.of hd.hook) (Hook.keeps hd.hook) (fun s e => xl_of s (Bool.and_eq_true_iff.mp e).1) XL.keeps hdef hp hk (fun s e => recFacts_of (Bool.and_eq_true_iff.mp e).2) (by rfl) said hd.fits ⟨rfl, rfl, rfl, rfl, rfl, by decide +kernel⟩ ?hw call
  w_witness2
end Mine
end
section
open PySem PySem.W PyProof.Rows PySem.Flt
set_option Elab.async false
namespace Mine

def flt (x y : UInt64) : Bool := Float64.cmp x y == some .lt
def fmax3 (x y z : UInt64) : UInt64 := if flt x y then (if flt y z then z else y) else (if flt x z then z else x)
def fmin3 (x y z : UInt64) : UInt64 := if flt y x then (if flt z y then z else y) else (if flt z x then z else x)

section
variable {prog : Program} {w : World} {A : Around} {E : Value → Shared → Prop} {s : Shared} {Q : Value → Shared → Prop} {h₀ : Heap} {L : Addr} {m : Str → Option Value} {news : List (Addr × Obj)}

theorem max_three_num {a b c : Value} (hh : A.handled = none) (ha : NumV a) (hb : NumV b) (hc : NumV c)
    (h : ∀ h' tk, (∀ d o, s.heap.get? d = some o → h'.get? d = some o) → Q (if ltV a b then (if ltV b c then c else b) else (if ltV a c then c else a)) { s with heap := h', toks := tk }) :
    wpAny (model prog w) A (call (.builtin "max") [a, b, c]) Q E s := by
  have hT : (s.heap.push { cls := .type "tuple", data := .seq #[a, b, c] }).IsTuple s.heap.objs.size #[a, b, c] := ⟨_, Heap.get?_push_size _ rfl, rfl, 0, rfl⟩
  refine call_max_three (wpAny_pyIter_tuple hT ?_)
  have hsz : (s.heap.push { cls := .type "tuple", data := .seq #[a, b, c] }).objs.size = s.heap.objs.size + 1 := Heap.size_push ..
  refine ⟨_, [_, s.heap.objs.size], [_], _, _, _, _, rfl, Walks.tuple (A := A.in1) hh _ s.heap.objs.size (by rw [hsz]; exact Nat.ne_of_lt (Nat.lt_succ_self _)) #[a, b, c],
    ⟨⟨_, Heap.get?_push_size _ rfl, rfl, rfl⟩, hT.push _⟩, fun c hc => ?_, by simp, cmpOf_gt #[a, b, c] (by simp [ha, hb, hc]), fun v h' tk hP hk => ?_⟩
  · show c < ((s.heap.push _).push _).objs.size
    rw [Heap.size_push, hsz]
    rcases List.mem_cons.mp hc with rfl | hc
    · rw [hsz]; exact Nat.lt_succ_self _
    · rcases List.mem_cons.mp hc with rfl | hc
      · exact Nat.lt_succ_of_lt (Nat.lt_succ_self _)
      · cases hc
  · have hold : ∀ d o, s.heap.get? d = some o → h'.get? d = some o := fun d o e => by
      refine hk d o (fun hm => ?_) (Heap.get?_push_of_some _ (Heap.get?_push_of_some _ e))
      rcases List.mem_cons.mp hm with e1 | hm
      · have := Heap.lt_size e; rw [e1, hsz] at this; exact Nat.lt_irrefl _ (Nat.lt_of_succ_lt this)
      · cases hm
    have := h h' tk hold
    have hv : v = if ltV a b then (if ltV b c then c else b) else (if ltV a c then c else a) := by
      cases h1 : ltV a b <;> cases h2 : ltV b c <;> cases h3 : ltV a c <;> simp [argBest, h1, h2, h3] at hP <;> simp [hP]
    rw [hv]; exact this

theorem min_three_num {a b c : Value} (hh : A.handled = none) (ha : NumV a) (hb : NumV b) (hc : NumV c)
    (h : ∀ h' tk, (∀ d o, s.heap.get? d = some o → h'.get? d = some o) → Q (if ltV b a then (if ltV c b then c else b) else (if ltV c a then c else a)) { s with heap := h', toks := tk }) :
    wpAny (model prog w) A (call (.builtin "min") [a, b, c]) Q E s := by
  have hT : (s.heap.push { cls := .type "tuple", data := .seq #[a, b, c] }).IsTuple s.heap.objs.size #[a, b, c] := ⟨_, Heap.get?_push_size _ rfl, rfl, 0, rfl⟩
  refine call_min_three (wpAny_pyIter_tuple hT ?_)
  have hsz : (s.heap.push { cls := .type "tuple", data := .seq #[a, b, c] }).objs.size = s.heap.objs.size + 1 := Heap.size_push ..
  refine ⟨_, [_, s.heap.objs.size], [_], _, _, _, _, rfl, Walks.tuple (A := A.in1) hh _ s.heap.objs.size (by rw [hsz]; exact Nat.ne_of_lt (Nat.lt_succ_self _)) #[a, b, c],
    ⟨⟨_, Heap.get?_push_size _ rfl, rfl, rfl⟩, hT.push _⟩, fun c hc => ?_, by simp, cmpOf_lt #[a, b, c] (by simp [ha, hb, hc]), fun v h' tk hP hk => ?_⟩
  · show c < ((s.heap.push _).push _).objs.size
    rw [Heap.size_push, hsz]
    rcases List.mem_cons.mp hc with rfl | hc
    · rw [hsz]; exact Nat.lt_succ_self _
    · rcases List.mem_cons.mp hc with rfl | hc
      · exact Nat.lt_succ_of_lt (Nat.lt_succ_self _)
      · cases hc
  · have hold : ∀ d o, s.heap.get? d = some o → h'.get? d = some o := fun d o e => by
      refine hk d o (fun hm => ?_) (Heap.get?_push_of_some _ (Heap.get?_push_of_some _ e))
      rcases List.mem_cons.mp hm with e1 | hm
      · have := Heap.lt_size e; rw [e1, hsz] at this; exact Nat.lt_irrefl _ (Nat.lt_of_succ_lt this)
      · cases hm
    have := h h' tk hold
    have hv : v = if ltV b a then (if ltV c b then c else b) else (if ltV c a then c else a) := by
      cases h1 : ltV b a <;> cases h2 : ltV c b <;> cases h3 : ltV c a <;> simp [argBest, h1, h2, h3] at hP <;> simp [hP]
    rw [hv]; exact this

theorem max_three_ff {x y z : UInt64} {t u v : Tok} (hh : A.handled = none) (F : Fr h₀ L s.heap m) (N : News h₀ L s.heap news)
    (h : ∀ h' tk v, Fr h₀ L h' m → News h₀ L h' news → Q (.float (fmax3 x y z) v) { s with heap := h', toks := tk }) :
    wpAny (model prog w) A (call (.builtin "max") [.float x t, .float y u, .float z v]) Q E s := by
  refine max_three_num hh (.float x t) (.float y u) (.float z v) fun h' tk kp => ?_
  have e : (if ltV (.float x t) (.float y u) then (if ltV (.float y u) (.float z v) then (Value.float z v) else .float y u) else (if ltV (.float x t) (.float z v) then .float z v else .float x t)) = .float (fmax3 x y z) (if flt x y then (if flt y z then v else u) else (if flt x z then v else t)) := by
    unfold fmax3
    show (if flt x y = true then (if flt y z = true then (Value.float z v) else .float y u) else (if flt x z = true then .float z v else .float x t)) = _
    cases flt x y <;> cases flt y z <;> cases flt x z <;> rfl
  rw [e]
  exact h h' tk _ (F.grownK kp) (N.grown kp)

theorem min_three_ff {x y z : UInt64} {t u v : Tok} (hh : A.handled = none) (F : Fr h₀ L s.heap m) (N : News h₀ L s.heap news)
    (h : ∀ h' tk v, Fr h₀ L h' m → News h₀ L h' news → Q (.float (fmin3 x y z) v) { s with heap := h', toks := tk }) :
    wpAny (model prog w) A (call (.builtin "min") [.float x t, .float y u, .float z v]) Q E s := by
  refine min_three_num hh (.float x t) (.float y u) (.float z v) fun h' tk kp => ?_
  have e : (if ltV (.float y u) (.float x t) then (if ltV (.float z v) (.float y u) then (Value.float z v) else .float y u) else (if ltV (.float z v) (.float x t) then .float z v else .float x t)) = .float (fmin3 x y z) (if flt y x then (if flt z y then v else u) else (if flt z x then v else t)) := by
    unfold fmin3
    show (if flt y x = true then (if flt z y = true then (Value.float z v) else .float y u) else (if flt z x = true then .float z v else .float x t)) = _
    cases flt y x <;> cases flt z y <;> cases flt z x <;> rfl
  rw [e]
  exact h h' tk _ (F.grownK kp) (N.grown kp)
end
end Mine
end
section
open PySem PySem.Float64
set_option Elab.async false
namespace Mine

/-! the scaled value of a double and its rounding -/
def Fn (x : UInt64) : Prop := ∃ a m e, decode x = .fin a m e

theorem rep {N e : Nat} (h : N ≤ 2 ^ 53) (he : 53 ≤ e) : ∃ t, V t = N * 2 ^ e := by
  rcases Nat.eq_zero_or_pos N with h0 | h0
  · exact ⟨0, by rw [V_zero, h0, Nat.zero_mul]⟩
  · by_cases h3 : N = 2 ^ 53
    · exact ⟨_, by rw [h3]; exact V_at (k := e) (q := 2 ^ 53) (by lia) (.inl (by lia))⟩
    · have h1 := Nat.log2_self_le (n := N) (by lia)
      have h2 := @Nat.lt_log2_self N
      have hl : N.log2 ≤ 52 := by
        have : N.log2 < 53 := (Nat.log2_lt (by lia)).mpr (by lia)
        lia
      generalize N.log2 = l at *
      have e1 : N * 2 ^ e = (N * 2 ^ (52 - l)) * 2 ^ (e - (52 - l)) := by
        rw [Nat.mul_assoc, ← Nat.pow_add]
        congr 2
        lia
      have e2 : 2 ^ 52 = 2 ^ l * 2 ^ (52 - l) := by rw [← Nat.pow_add]; congr 1; lia
      have e3 : 2 ^ 53 = 2 ^ (l + 1) * 2 ^ (52 - l) := by rw [← Nat.pow_add]; congr 1; lia
      refine ⟨(e - (52 - l)) * 2 ^ 52 + N * 2 ^ (52 - l), ?_⟩
      rw [e1]
      refine V_at ?_ (.inl ?_)
      · rw [e3]; exact Nat.mul_le_mul_right _ (Nat.le_of_lt h2)
      · rw [e2]; exact Nat.mul_le_mul_right _ h1

theorem near {W D k : Nat} (hD : 0 < D) (hk : 53 ≤ k) (h : W ≤ D * 2 ^ (k + 53)) : ∃ t, D * V t ≤ W ∧ W < D * V t + D * 2 ^ k := by
  have hp : 0 < D * 2 ^ k := Nat.mul_pos hD (Nat.two_pow_pos _)
  have hN : W / (D * 2 ^ k) ≤ 2 ^ 53 := by
    have : W / (D * 2 ^ k) ≤ (D * 2 ^ (k + 53)) / (D * 2 ^ k) := Nat.div_le_div_right h
    have e : D * 2 ^ (k + 53) = (D * 2 ^ k) * 2 ^ 53 := by rw [Nat.pow_add, Nat.mul_assoc]
    rw [e, Nat.mul_div_cancel_left _ hp] at this
    exact this
  obtain ⟨t, ht⟩ := rep hN hk
  refine ⟨t, ?_, ?_⟩
  · rw [ht]
    have := Nat.div_mul_le_self W (D * 2 ^ k)
    calc D * (W / (D * 2 ^ k) * 2 ^ k) = W / (D * 2 ^ k) * (D * 2 ^ k) := by ac_rfl
      _ ≤ W := this
  · rw [ht]
    have h1 := Nat.div_add_mod W (D * 2 ^ k)
    have h2 := Nat.mod_lt W hp
    have e : D * (W / (D * 2 ^ k) * 2 ^ k) = D * 2 ^ k * (W / (D * 2 ^ k)) := by ac_rfl
    grind

/-- what a right rounding gives: finite, near -/
theorem right_near {r : UInt64} {neg : Bool} {W D : Nat} (hr : Right r neg W D) (hD : 0 < D) (h : W ≤ D * 2 ^ 1087) :
    Fn r ∧ ∃ v : Nat, val r = sgn neg v ∧ D * v ≤ W + D * 2 ^ 1034 ∧ W ≤ D * v + D * 2 ^ 1034 := by
  obtain ⟨t, rfl, hle, hov, hne⟩ := hr
  have hlt : t < infMag := by
    refine Nat.lt_of_le_of_ne hle fun he => ?_
    have h1 := hov.mp he
    have h2 : 2 * W ≤ D * 2 ^ 1088 := by
      have e : (2 : Nat) ^ 1088 = 2 ^ 1087 * 2 := Nat.pow_succ 2 1087
      rw [e]
      generalize (2 : Nat) ^ 1087 = z at *
      have : D * (z * 2) = 2 * (D * z) := by ac_rfl
      lia
    have h3 : D * ((2 ^ 54 - 1) * 2 ^ 2045) ≤ D * 2 ^ 1088 := Nat.le_trans h1 h2
    have h4 := Nat.le_of_mul_le_mul_left h3 hD
    exact absurd h4 (by decide +kernel)
  obtain ⟨m, e, hd, hv⟩ := decode_pack neg hlt
  refine ⟨⟨_, _, _, hd⟩, V t, val_pack neg hlt, ?_⟩
  obtain ⟨t', h1, h2⟩ := near (k := 1034) hD (by decide) h
  have h3 := (hne hlt t').1
  generalize D * V t = x at *
  generalize D * V t' = y at *
  generalize D * 2 ^ 1034 = z at *
  unfold dist at h3
  lia

/-- a right rounding of a number on the grid is that number -/
theorem right_exact {r : UInt64} {neg : Bool} {W D N : Nat} (hr : Right r neg W D) (hD : 0 < D) (hN : N ≤ 2 ^ 53) (h : W = D * (N * 2 ^ 1062)) :
    Fn r ∧ val r = sgn neg (N * 2 ^ 1062) := by
  obtain ⟨t, rfl, hle, hov, hne⟩ := hr
  have hlt : t < infMag := by
    refine Nat.lt_of_le_of_ne hle fun he => ?_
    have h1 := hov.mp he
    have h2 : 2 * W ≤ D * 2 ^ 1116 := by
      have : 2 * W = D * (2 * (N * 2 ^ 1062)) := by
        rw [h]
        generalize (2 : Nat) ^ 1062 = z
        ac_rfl
      rw [this]
      refine Nat.mul_le_mul_left D ?_
      have : 2 * (N * 2 ^ 1062) ≤ 2 * (2 ^ 53 * 2 ^ 1062) := Nat.mul_le_mul_left _ (Nat.mul_le_mul_right _ hN)
      exact Nat.le_trans this (by decide +kernel)
    have h4 := Nat.le_of_mul_le_mul_left (Nat.le_trans h1 h2) hD
    exact absurd h4 (by decide +kernel)
  obtain ⟨m, e, hd, hv⟩ := decode_pack neg hlt
  obtain ⟨t', ht'⟩ := rep hN (show 53 ≤ 1062 by decide)
  have h3 := (hne hlt t').1
  rw [ht', ← h] at h3
  have h4 : D * V t = D * (N * 2 ^ 1062) := by
    rw [h] at h3
    generalize D * V t = x at *
    generalize D * (N * 2 ^ 1062) = y at *
    unfold dist at h3
    lia
  exact ⟨⟨_, _, _, hd⟩, by rw [val_pack neg hlt, Nat.eq_of_mul_eq_mul_left hD h4]⟩

end Mine
end
section
open PySem PySem.Float64
set_option Elab.async false
namespace Mine

/-! the value as a rational number -/
@[irreducible] def PN : Nat := 2 ^ 1074
@[irreducible] def EN : Nat := 2 ^ 1034
theorem PN_def : 2 ^ 1074 = PN := by unfold PN; rfl
theorem EN_def : 2 ^ 1034 = EN := by unfold EN; rfl
theorem PN_pos : 0 < PN := by rw [← PN_def]; exact Nat.two_pow_pos _
theorem PN_EN : PN = 1099511627776 * EN := by
  rw [← PN_def, ← EN_def, show (1099511627776 : Nat) = 2 ^ 40 by decide, ← Nat.pow_add]
theorem PN_13 : 2 ^ 1087 = 8192 * PN := by
  rw [← PN_def, show (8192 : Nat) = 2 ^ 13 by decide, ← Nat.pow_add]
def PQ : Rat := (PN : Rat)
theorem PQ_pos : 0 < PQ := by
  unfold PQ
  exact Rat.natCast_pos.mpr PN_pos
theorem PQ_ne : PQ ≠ 0 := Rat.ne_of_gt PQ_pos
def ep : Rat := (EN : Rat) / PQ
theorem ep_mul : ep * PQ = (EN : Rat) := Rat.div_mul_cancel PQ_ne
theorem ep_is : 1099511627776 * ep = 1 := by
  have h : (1099511627776 * ep) * PQ = 1 * PQ := by
    rw [Rat.mul_assoc, ep_mul, Rat.one_mul]
    unfold PQ
    rw [PN_EN]
    push_cast
    rfl
  have h2 : ((1099511627776 * ep) * PQ) / PQ = (1 * PQ) / PQ := by rw [h]
  rwa [Rat.mul_div_cancel PQ_ne, Rat.mul_div_cancel PQ_ne] at h2
theorem ep_pos : 0 < ep := by have := ep_is; grind

def rv (x : UInt64) : Rat := (val x : Rat) / PQ
theorem rv_mul (x : UInt64) : rv x * PQ = (val x : Rat) := Rat.div_mul_cancel PQ_ne
theorem le_of_PQ {a b : Rat} (h : a * PQ ≤ b * PQ) : a ≤ b := Rat.le_of_mul_le_mul_right h PQ_pos
theorem rv_eq {x : UInt64} {q : Rat} (h : (val x : Rat) = q * PQ) : rv x = q := by
  unfold rv; rw [h, Rat.mul_div_cancel PQ_ne]

/-- an integer value near a rational one -/
theorem rv_near {x : UInt64} {q : Rat} (h1 : (val x : Rat) ≤ q * PQ + EN) (h2 : q * PQ ≤ (val x : Rat) + EN) : rv x ≤ q + ep ∧ q ≤ rv x + ep := by
  have e1 := rv_mul x
  have e2 := ep_mul
  constructor <;> refine le_of_PQ ?_
  · rw [Rat.add_mul, e1, e2]; exact h1
  · rw [Rat.add_mul, e1, e2]; exact h2

theorem iabs_sgn {neg : Bool} {s : Int} {v : Nat} {E : Nat} (hn : neg = decide (s < 0)) (h1 : v ≤ s.natAbs + E) (h2 : s.natAbs ≤ v + E) : sgn neg v ≤ s + E ∧ s ≤ sgn neg v + E := by
  subst hn
  unfold sgn
  by_cases h : s < 0
  · rw [decide_eq_true h, if_pos rfl]; omega
  · rw [decide_eq_false h]; simp only [Bool.false_eq_true, if_false]; omega

theorem val_zero (b : Bool) : val (zero b) = 0 := by cases b <;> decide +kernel
theorem Fn_zero (b : Bool) : Fn (zero b) := by
  unfold zero
  obtain ⟨m, e, h, _⟩ := decode_pack b (t := 0) (by decide)
  exact ⟨_, _, _, h⟩

/-- |q| is at most 8192: as whole numbers -/
theorem natAbs_le_of {s : Int} {q : Rat} (e : (s : Rat) = q * PQ) (h1 : -8192 ≤ q) (h2 : q ≤ 8192) : s.natAbs ≤ 2 ^ 1087 := by
  have hP : ((2 ^ 1087 : Nat) : Int) = 8192 * (PN : Int) := by
    rw [PN_13, Int.natCast_mul]
    rfl
  have a1 : (s : Rat) ≤ ((8192 * (PN : Int) : Int) : Rat) := by
    rw [e]; push_cast
    exact Rat.mul_le_mul_of_nonneg_right h2 (Rat.le_of_lt PQ_pos)
  have a2 : ((-(8192 * (PN : Int)) : Int) : Rat) ≤ (s : Rat) := by
    rw [e]; push_cast
    have := Rat.mul_le_mul_of_nonneg_right h1 (Rat.le_of_lt PQ_pos)
    have e2 : -(8192 * (PN : Rat)) = -8192 * PQ := by unfold PQ; grind
    rw [e2]; exact this
  have b1 := Rat.intCast_le_intCast.mp a1
  have b2 := Rat.intCast_le_intCast.mp a2
  generalize (2 : Nat) ^ 1087 = z at *
  omega

def Near (x : UInt64) (q : Rat) : Prop := Fn x ∧ rv x ≤ q + ep ∧ q ≤ rv x + ep

theorem add_near {x y : UInt64} (hx : Fn x) (hy : Fn y) (h1 : -8192 ≤ rv x + rv y) (h2 : rv x + rv y ≤ 8192) : Near (add x y) (rv x + rv y) := by
  obtain ⟨a, m, e, hx⟩ := hx
  obtain ⟨b, k, f, hy⟩ := hy
  have h := add_right hx hy
  have es : ((val x + val y : Int) : Rat) = (rv x + rv y) * PQ := by rw [Rat.add_mul, rv_mul, rv_mul]; push_cast; rfl
  have hb := natAbs_le_of es h1 h2
  generalize hs : val x + val y = s at *
  by_cases h0 : s = 0
  · rw [h.1 h0]
    refine ⟨Fn_zero _, rv_near ?_ ?_⟩
    · rw [val_zero, ← es, h0]; exact Rat.add_nonneg (by decide) (Rat.natCast_nonneg)
    · rw [val_zero, ← es, h0]; exact Rat.add_nonneg (by decide) (Rat.natCast_nonneg)
  · obtain ⟨hf, v, hv, g1, g2⟩ := right_near (h.2 h0) (by decide) (by rw [Nat.one_mul]; exact hb)
    rw [Nat.one_mul, Nat.one_mul] at g1 g2
    rw [EN_def] at g1 g2
    obtain ⟨q1, q2⟩ := iabs_sgn rfl g1 g2
    rw [← hv] at q1 q2
    refine ⟨hf, rv_near ?_ ?_⟩
    · rw [← es]; have := Rat.intCast_le_intCast.mpr q1; push_cast at this; exact this
    · rw [← es]; have := Rat.intCast_le_intCast.mpr q2; push_cast at this; exact this
end Mine
end
section
open PySem PySem.Float64
set_option Elab.async false
namespace Mine

theorem Fn_neg {y : UInt64} (h : Fn y) : Fn (neg y) := by obtain ⟨a, m, e, h⟩ := h; exact ⟨_, _, _, neg_decode h⟩
theorem rv_neg {y : UInt64} (h : Fn y) : rv (neg y) = - rv y := by
  obtain ⟨a, m, e, h⟩ := h
  refine rv_eq ?_
  rw [neg_val h, Rat.neg_mul, rv_mul]; push_cast; rfl
theorem sub_near {x y : UInt64} (hx : Fn x) (hy : Fn y) (h1 : -8192 ≤ rv x - rv y) (h2 : rv x - rv y ≤ 8192) : Near (sub x y) (rv x - rv y) := by
  have := add_near hx (Fn_neg hy) (by rw [rv_neg hy]; grind) (by rw [rv_neg hy]; grind)
  rw [rv_neg hy, ← Rat.sub_eq_add_neg] at this
  unfold Float64.sub
  exact this

theorem sgn_prod {a b : Bool} {m k : Nat} : sgn (a != b) (m * k) = sgn a m * sgn b k := by
  cases a <;> cases b <;> simp [sgn, Int.natCast_mul, Int.neg_mul, Int.mul_neg]

theorem val_sgn {x : UInt64} {a : Bool} {m : Nat} {e : Int} (h : decode x = .fin a m e) : val x = sgn a (val x).natAbs := by
  rw [val_natAbs h, val_eq h]

theorem sgn_near {neg : Bool} {W v E : Nat} (h1 : v ≤ W + E) (h2 : W ≤ v + E) : sgn neg v ≤ sgn neg W + E ∧ sgn neg W ≤ sgn neg v + E := by
  cases neg <;> simp only [sgn, if_true, Bool.false_eq_true, if_false] <;> lia

theorem mul_near {x y : UInt64} (hx : Fn x) (hy : Fn y) (h1 : -8192 ≤ rv x * rv y) (h2 : rv x * rv y ≤ 8192) : Near (mul x y) (rv x * rv y) := by
  obtain ⟨a, m, e, hx⟩ := hx
  obtain ⟨b, k, f, hy⟩ := hy
  have h := mul_right hx hy
  have es : ((val x * val y : Int) : Rat) = ((rv x * rv y) * PQ) * PQ := by
    have : ((rv x * rv y) * PQ) * PQ = (rv x * PQ) * (rv y * PQ) := by grind
    rw [this, rv_mul, rv_mul]; push_cast; rfl
  have hsg : val x * val y = sgn (a != b) ((val x).natAbs * (val y).natAbs) := by
    rw [sgn_prod, ← val_sgn hx, ← val_sgn hy]
  -- the bound
  have hP2 : ((PN : Int) : Rat) = PQ := by unfold PQ; push_cast; rfl
  have hb : (val x).natAbs * (val y).natAbs ≤ PN * 2 ^ 1087 := by
    have e0 : (val x).natAbs * (val y).natAbs = (val x * val y).natAbs := by rw [Int.natAbs_mul]
    have hP : ((PN * 2 ^ 1087 : Nat) : Int) = 8192 * (PN : Int) * (PN : Int) := by
      rw [PN_13, Int.natCast_mul, Int.natCast_mul]
      generalize (PN : Int) = z
      grind
    have a1 : ((val x * val y : Int) : Rat) ≤ ((8192 * (PN : Int) * (PN : Int) : Int) : Rat) := by
      rw [es]; push_cast
      have e3 : 8192 * (PN : Rat) * (PN : Rat) = (8192 * PQ) * PQ := rfl
      rw [e3]
      exact Rat.mul_le_mul_of_nonneg_right (Rat.mul_le_mul_of_nonneg_right h2 (Rat.le_of_lt PQ_pos)) (Rat.le_of_lt PQ_pos)
    have a2 : ((-(8192 * (PN : Int) * (PN : Int)) : Int) : Rat) ≤ ((val x * val y : Int) : Rat) := by
      rw [es]; push_cast
      have e3 : -(8192 * (PN : Rat) * (PN : Rat)) = (-8192 * PQ) * PQ := by unfold PQ; grind
      rw [e3]
      exact Rat.mul_le_mul_of_nonneg_right (Rat.mul_le_mul_of_nonneg_right h1 (Rat.le_of_lt PQ_pos)) (Rat.le_of_lt PQ_pos)
    have b1 := Rat.intCast_le_intCast.mp a1
    have b2 := Rat.intCast_le_intCast.mp a2
    rw [e0]
    generalize PN * 2 ^ 1087 = z at *
    generalize 8192 * (PN : Int) * (PN : Int) = u at *
    generalize val x * val y = s at *
    omega
  rw [PN_def] at h
  obtain ⟨hf, v, hv, g1, g2⟩ := right_near h PN_pos hb
  rw [EN_def] at g1 g2
  obtain ⟨q1, q2⟩ := sgn_near (neg := a != b) g1 g2
  rw [← hsg] at q1 q2
  have e1 : sgn (a != b) (PN * v) = (PN : Int) * val (mul x y) := by rw [hv, Nat.mul_comm, sgn_mul, Int.mul_comm]
  rw [e1] at q1 q2
  have r1 := Rat.intCast_le_intCast.mpr q1
  have r2 := Rat.intCast_le_intCast.mpr q2
  rw [Rat.intCast_add, es] at r1
  rw [Rat.intCast_add, es] at r2
  push_cast at r1 r2
  have hq : (PN : Rat) = PQ := rfl
  rw [hq] at r1 r2
  refine ⟨hf, rv_near ?_ ?_⟩
  · refine le_of_PQ ?_; grind
  · refine le_of_PQ ?_; grind

/-- a quotient, the divisor above nought -/
theorem div_near {x y : UInt64} (hx : Fn x) (hy : Fn y) (hp : 0 < rv y) (h1 : -(8192 * rv y) ≤ rv x) (h2 : rv x ≤ 8192 * rv y) :
    Fn (div x y) ∧ rv (div x y) * rv y ≤ rv x + rv y * ep ∧ rv x ≤ rv (div x y) * rv y + rv y * ep := by
  obtain ⟨a, m, e, hx⟩ := hx
  obtain ⟨b, k, f, hy⟩ := hy
  have hvy : 0 < val y := by
    have : (0 : Rat) < (val y : Rat) := by rw [← rv_mul]; exact Rat.mul_pos hp PQ_pos
    exact Rat.intCast_pos.mp this
  have hk : k ≠ 0 := by
    intro h0
    rw [val_eq hy, h0] at hvy
    cases b <;> simp [sgn] at hvy
  have hbf : b = false := by
    cases b with
    | false => rfl
    | true => rw [val_eq hy] at hvy; simp only [sgn, if_true] at hvy; lia
  subst hbf
  have h := div_right hx hy hk
  have hxs : val x = sgn a (val x).natAbs := val_sgn hx
  have hyn : ((val y).natAbs : Int) = val y := by lia
  have hb : (val x).natAbs * PN ≤ (val y).natAbs * 2 ^ 1087 := by
    have a1 : ((val x : Int) : Rat) ≤ ((8192 * val y : Int) : Rat) := by
      push_cast; rw [← rv_mul x, ← rv_mul y, ← Rat.mul_assoc]
      exact Rat.mul_le_mul_of_nonneg_right h2 (Rat.le_of_lt PQ_pos)
    have a2 : ((-(8192 * val y) : Int) : Rat) ≤ ((val x : Int) : Rat) := by
      push_cast; rw [← rv_mul x, ← rv_mul y, ← Rat.mul_assoc, ← Rat.neg_mul]
      exact Rat.mul_le_mul_of_nonneg_right h1 (Rat.le_of_lt PQ_pos)
    have b1 := Rat.intCast_le_intCast.mp a1
    have b2 := Rat.intCast_le_intCast.mp a2
    have b3 : (val x).natAbs ≤ 8192 * (val y).natAbs := by lia
    rw [PN_13]
    calc (val x).natAbs * PN ≤ (8192 * (val y).natAbs) * PN := Nat.mul_le_mul_right _ b3
      _ = (val y).natAbs * (8192 * PN) := by ac_rfl
  have hD : 0 < (val y).natAbs := by lia
  rw [PN_def] at h
  obtain ⟨hf, v, hv, g1, g2⟩ := right_near h hD hb
  rw [EN_def] at g1 g2
  obtain ⟨q1, q2⟩ := sgn_near (neg := a != false) g1 g2
  have ea : (a != false) = a := by cases a <;> rfl
  rw [ea] at q1 q2 hv
  have e1 : sgn a ((val y).natAbs * v) = val (div x y) * val y := by rw [hv, Nat.mul_comm, sgn_mul, hyn]
  have e2 : sgn a ((val x).natAbs * PN) = val x * (PN : Int) := by rw [sgn_mul, ← hxs]
  rw [e1, e2] at q1 q2
  have r1 := Rat.intCast_le_intCast.mpr q1
  have r2 := Rat.intCast_le_intCast.mpr q2
  rw [Rat.intCast_add, Rat.intCast_mul, Rat.intCast_mul] at r1 r2
  have hy3 : (((val y).natAbs * EN : Nat) : Int) = val y * (EN : Int) := by rw [Int.natCast_mul, hyn]
  rw [hy3, Rat.intCast_mul, ← rv_mul x, ← rv_mul y, ← rv_mul (div x y)] at r1 r2
  have hq : (((PN : Int)) : Rat) = PQ := by unfold PQ; push_cast; rfl
  have he : (((EN : Int)) : Rat) = ep * PQ := by rw [ep_mul]; push_cast; rfl
  rw [hq, he] at r1 r2
  refine ⟨hf, ?_, ?_⟩
  · refine le_of_PQ (le_of_PQ ?_); grind
  · refine le_of_PQ (le_of_PQ ?_); grind
end Mine
end
section
open PySem PySem.Float64
set_option Elab.async false
namespace Mine

/-! the grid of 4096ths -/
def Gr (x : UInt64) (n : Int) : Prop := Fn x ∧ rv x * 4096 = (n : Rat)

theorem PN_12 : 4096 * 2 ^ 1062 = PN := by
  rw [← PN_def, show (4096 : Nat) = 2 ^ 12 by decide, ← Nat.pow_add]
theorem gr_val {x : UInt64} {n : Int} (h : Gr x n) : val x = n * ((2 ^ 1062 : Nat) : Int) := by
  have e := rv_mul x
  have h2 := h.2
  have hP : PQ = 4096 * (((2 ^ 1062 : Nat) : Int) : Rat) := by
    unfold PQ
    rw [← PN_12, Rat.natCast_mul, Rat.intCast_natCast]
    rfl
  have : ((val x : Int) : Rat) = ((n * ((2 ^ 1062 : Nat) : Int) : Int) : Rat) := by
    rw [Rat.intCast_mul, ← h2, ← e, hP]
    generalize (((2 ^ 1062 : Nat) : Int) : Rat) = z
    grind
  exact Rat.intCast_inj.mp this
theorem gr_of_val {x : UInt64} {n : Int} (hf : Fn x) (h : val x = n * ((2 ^ 1062 : Nat) : Int)) : Gr x n := by
  refine ⟨hf, ?_⟩
  have e := rv_mul x
  have hP : PQ = 4096 * (((2 ^ 1062 : Nat) : Int) : Rat) := by
    unfold PQ
    rw [← PN_12, Rat.natCast_mul, Rat.intCast_natCast]
    rfl
  have hpos : (0 : Rat) < (((2 ^ 1062 : Nat) : Int) : Rat) := by
    rw [Rat.intCast_natCast]
    exact Rat.natCast_pos.mpr (Nat.two_pow_pos _)
  rw [h, Rat.intCast_mul, hP] at e
  generalize (((2 ^ 1062 : Nat) : Int) : Rat) = z at *
  have e2 : (rv x * 4096) * z = (n : Rat) * z := by grind
  have e3 := congrArg (· / z) e2
  simp only [Rat.mul_div_cancel (Rat.ne_of_gt hpos)] at e3
  exact e3

theorem add_gr {x y : UInt64} {n k : Int} (hx : Gr x n) (hy : Gr y k) (h : (n + k).natAbs ≤ 2 ^ 53) : Gr (add x y) (n + k) := by
  have vx := gr_val hx
  have vy := gr_val hy
  obtain ⟨⟨a, m, e, dx⟩, _⟩ := hx
  obtain ⟨⟨b, l, f, dy⟩, _⟩ := hy
  have hr := add_right dx dy
  have es : val x + val y = (n + k) * ((2 ^ 1062 : Nat) : Int) := by rw [vx, vy, Int.add_mul]
  by_cases h0 : n + k = 0
  · rw [h0, Int.zero_mul] at es
    rw [hr.1 es, h0]
    exact gr_of_val (Fn_zero _) (by rw [val_zero, Int.zero_mul])
  · have hz : (0 : Int) < ((2 ^ 1062 : Nat) : Int) := Int.ofNat_lt.mpr (Nat.two_pow_pos _)
    have hne : val x + val y ≠ 0 := by
      rw [es]
      intro hc
      rcases Int.mul_eq_zero.mp hc with q | q
      · exact h0 q
      · rw [q] at hz; exact absurd hz (Int.lt_irrefl _)
    have hW : (val x + val y).natAbs = 1 * ((n + k).natAbs * 2 ^ 1062) := by rw [es, Int.natAbs_mul, Int.natAbs_natCast, Nat.one_mul]
    obtain ⟨hf, hv⟩ := right_exact (hr.2 hne) (by decide) h hW
    refine gr_of_val hf ?_
    rw [hv, sgn_mul]
    congr 1
    have hs : decide (val x + val y < 0) = decide (n + k < 0) := by
      rw [es]
      apply decide_eq_decide.mpr
      constructor
      · intro hc
        by_cases h2 : n + k < 0
        · exact h2
        · have := Int.mul_nonneg (show 0 ≤ n + k by omega) (Int.le_of_lt hz)
          omega
      · intro hc; exact Int.mul_neg_of_neg_of_pos hc hz
    rw [hs]
    unfold sgn
    by_cases h2 : n + k < 0
    · rw [decide_eq_true h2, if_pos rfl]; omega
    · rw [decide_eq_false h2]; simp only [Bool.false_eq_true, if_false]; omega

theorem neg_gr {y : UInt64} {k : Int} (hy : Gr y k) : Gr (neg y) (-k) := by
  refine ⟨Fn_neg hy.1, ?_⟩
  rw [rv_neg hy.1, Rat.neg_mul, hy.2]; push_cast; rfl
theorem sub_gr {x y : UInt64} {n k : Int} (hx : Gr x n) (hy : Gr y k) (h : (n - k).natAbs ≤ 2 ^ 53) : Gr (sub x y) (n - k) := by
  unfold Float64.sub
  have := add_gr hx (neg_gr hy) (by rw [← Int.sub_eq_add_neg]; exact h)
  rw [← Int.sub_eq_add_neg] at this
  exact this

/-- the colour part of a whole number -/
def fr (a : Int) : UInt64 := Float64.ofFrac (decide (a < 0) != decide ((4096 : Int) < 0)) a.natAbs (4096 : Int).natAbs
theorem fr_gr {a : Int} (h0 : 0 ≤ a) (h1 : a ≤ 4096) : Gr (fr a) a := by
  have hr : Right (fr a) (decide (a < 0) != decide ((4096 : Int) < 0)) (a.natAbs * 2 ^ 1074) 4096 := by
    refine ofFrac_right (by decide) ?_ (by decide)
    rfl
  have hW : a.natAbs * 2 ^ 1074 = 4096 * (a.natAbs * 2 ^ 1062) := by
    rw [PN_def, ← PN_12]
    generalize (2 : Nat) ^ 1062 = z
    ac_rfl
  obtain ⟨hf, hv⟩ := right_exact hr (by decide) (N := a.natAbs) (by lia) hW
  refine gr_of_val hf ?_
  rw [hv]
  have : (decide (a < 0) != decide ((4096 : Int) < 0)) = false := by
    rw [decide_eq_false (by lia : ¬ a < 0)]; rfl
  rw [this]
  generalize (2 : Nat) ^ 1062 = z
  have hs : sgn false a.natAbs = a := by
    clear hv hW hr hf
    unfold sgn
    simp only [Bool.false_eq_true, if_false]
    lia
  rw [sgn_mul, hs]

/-! comparisons -/
theorem rv_lt {x y : UInt64} : rv x < rv y ↔ val x < val y := by
  rw [← Rat.intCast_lt_intCast, ← rv_mul, ← rv_mul]
  constructor
  · intro h; exact Rat.mul_lt_mul_of_pos_right h PQ_pos
  · intro h; exact Rat.lt_of_mul_lt_mul_right h (Rat.le_of_lt PQ_pos)
theorem rv_le {x y : UInt64} : rv x ≤ rv y ↔ val x ≤ val y := by
  rw [← Rat.not_lt, rv_lt]; grind
theorem rv_inj {x y : UInt64} : rv x = rv y ↔ val x = val y := by
  constructor
  · intro h
    have h1 := rv_le.mp (by rw [h]; exact Rat.le_refl : rv x ≤ rv y)
    have h2 := rv_le.mp (by rw [h]; exact Rat.le_refl : rv y ≤ rv x)
    lia
  · intro h; unfold rv; rw [h]

theorem cmp_lt {x y : UInt64} (hx : Fn x) (hy : Fn y) : (cmp x y == some .lt) = true ↔ rv x < rv y := by
  obtain ⟨a, m, e, hx⟩ := hx
  obtain ⟨b, k, f, hy⟩ := hy
  rw [cmp_right hx hy, rv_lt, ← Int.compare_eq_lt]
  cases compare (val x) (val y) <;> simp
theorem cmp_eq {x y : UInt64} (hx : Fn x) (hy : Fn y) : (cmp x y == some .eq) = true ↔ rv x = rv y := by
  obtain ⟨a, m, e, hx⟩ := hx
  obtain ⟨b, k, f, hy⟩ := hy
  rw [cmp_right hx hy, rv_inj, ← Int.compare_eq_eq]
  cases compare (val x) (val y) <;> simp
theorem cmp_lt_false {x y : UInt64} (hx : Fn x) (hy : Fn y) : (cmp x y == some .lt) = false ↔ rv y ≤ rv x := by
  have := cmp_lt hx hy
  rw [← Rat.not_lt, ← this]
  cases (cmp x y == some .lt) <;> simp
theorem cmp_eq_false {x y : UInt64} (hx : Fn x) (hy : Fn y) : (cmp x y == some .eq) = false ↔ rv x ≠ rv y := by
  have := cmp_eq hx hy
  rw [Ne, ← this]
  cases (cmp x y == some .eq) <;> simp

theorem isZero_iff {x : UInt64} (hx : Fn x) : isZero x = true ↔ rv x = 0 := by
  obtain ⟨a, m, e, hx⟩ := hx
  have hz : rv x = 0 ↔ val x = 0 := by
    constructor
    · intro h
      have e := rv_mul x
      rw [h, Rat.zero_mul] at e
      exact Rat.intCast_eq_zero_iff.mp e.symm
    · intro h; exact rv_eq (by rw [h, Rat.zero_mul]; rfl)
  rw [hz, val_eq hx]
  unfold isZero
  rw [hx]
  cases m with
  | zero => cases a <;> simp [sgn]
  | succ k =>
    have hp : 0 < (k + 1) * 2 ^ (e + 1074).toNat := Nat.mul_pos (by lia) (Nat.two_pow_pos _)
    generalize (k + 1) * 2 ^ (e + 1074).toNat = z at *
    cases a <;> simp [sgn] <;> lia
theorem Fn_finite {x : UInt64} : isFinite x = true ↔ Fn x := by
  unfold isFinite Fn
  cases decode x <;> simp
theorem Fn_nan {x : UInt64} (h : Fn x) : isNaN x = false := by
  obtain ⟨a, m, e, h⟩ := h; unfold isNaN; rw [h]
theorem Fn_inf {x : UInt64} (h : Fn x) : isInf x = false := by
  obtain ⟨a, m, e, h⟩ := h; unfold isInf; rw [h]
end Mine
end
section
open PySem PySem.Float64
set_option Elab.async false
namespace Mine

/-! constants -/
theorem ofInt_gr {i : Int} (h : i.natAbs ≤ 8192) : Gr (ofInt i) (i * 4096) := by
  have hr := ofInt_right i
  have hW : i.natAbs * 2 ^ 1074 = 1 * ((i.natAbs * 4096) * 2 ^ 1062) := by
    rw [PN_def, ← PN_12]
    generalize (2 : Nat) ^ 1062 = z
    rw [Nat.one_mul, Nat.mul_assoc]
  obtain ⟨hf, hv⟩ := right_exact hr (by decide) (by grind) hW
  refine gr_of_val hf ?_
  rw [hv]
  have hs : sgn (decide (i < 0)) (i.natAbs * 4096) = i * 4096 := by
    clear hv hW hr hf
    unfold sgn
    by_cases h2 : i < 0
    · rw [decide_eq_true h2, if_pos rfl]; grind
    · rw [decide_eq_false h2]; simp only [Bool.false_eq_true, if_false]; grind
  generalize (2 : Nat) ^ 1062 = z
  rw [sgn_mul, hs]
theorem rv_ofInt {i : Int} (h : i.natAbs ≤ 8192) : rv (ofInt i) = (i : Rat) := by
  have := (ofInt_gr h).2
  rw [Rat.intCast_mul] at this
  have e : ((4096 : Int) : Rat) = 4096 := rfl
  rw [e] at this
  grind
theorem gr_const {x : UInt64} {n : Int} (h : isFinite x = true) (hv : val x = n * ((2 ^ 1062 : Nat) : Int)) : Gr x n := gr_of_val (Fn_finite.mp h) hv
theorem gr_0 : Gr 0 0 := gr_const (by decide +kernel) (by decide +kernel)
theorem gr_1 : Gr 4607182418800017408 4096 := gr_const (by decide +kernel) (by decide +kernel)
theorem gr_2 : Gr 4611686018427387904 8192 := gr_const (by decide +kernel) (by decide +kernel)
theorem gr_4 : Gr 4616189618054758400 16384 := gr_const (by decide +kernel) (by decide +kernel)
theorem gr_6 : Gr 4618441417868443648 24576 := gr_const (by decide +kernel) (by decide +kernel)
theorem gr_h : Gr 4602678819172646912 2048 := gr_const (by decide +kernel) (by decide +kernel)
theorem rv_0 : rv 0 = 0 := by have := gr_0.2; rw [show ((0 : Int) : Rat) = 0 from rfl] at this; grind
theorem rv_1 : rv 4607182418800017408 = 1 := by have := gr_1.2; rw [show ((4096 : Int) : Rat) = 4096 from rfl] at this; grind
theorem rv_2 : rv 4611686018427387904 = 2 := by have := gr_2.2; rw [show ((8192 : Int) : Rat) = 8192 from rfl] at this; grind
theorem rv_4 : rv 4616189618054758400 = 4 := by have := gr_4.2; rw [show ((16384 : Int) : Rat) = 16384 from rfl] at this; grind
theorem rv_6 : rv 4618441417868443648 = 6 := by have := gr_6.2; rw [show ((24576 : Int) : Rat) = 24576 from rfl] at this; grind
theorem rv_h : 2 * rv 4602678819172646912 = 1 := by have := gr_h.2; rw [show ((2048 : Int) : Rat) = 2048 from rfl] at this; grind

theorem const_near {x : UInt64} {k n : Int} (h1 : k * val x ≤ n * (PN : Int) + (EN : Int)) (h2 : n * (PN : Int) ≤ k * val x + (EN : Int)) : (k : Rat) * rv x ≤ (n : Rat) + ep ∧ (n : Rat) ≤ (k : Rat) * rv x + ep := by
  have r1 := Rat.intCast_le_intCast.mpr h1
  have r2 := Rat.intCast_le_intCast.mpr h2
  rw [Rat.intCast_add, Rat.intCast_mul, Rat.intCast_mul, ← rv_mul] at r1 r2
  have hq : (((PN : Int)) : Rat) = PQ := by unfold PQ; push_cast; rfl
  have he : (((EN : Int)) : Rat) = ep * PQ := by rw [ep_mul]; push_cast; rfl
  rw [hq, he] at r1 r2
  constructor <;> refine le_of_PQ ?_ <;> grind
theorem third_near : 3 * rv 4599676419421066581 ≤ 1 + ep ∧ 1 ≤ 3 * rv 4599676419421066581 + ep := const_near (k := 3) (n := 1) (by decide +kernel) (by decide +kernel)
theorem sixth_near : 6 * rv 4595172819793696085 ≤ 1 + ep ∧ 1 ≤ 6 * rv 4595172819793696085 + ep := const_near (k := 6) (n := 1) (by decide +kernel) (by decide +kernel)
theorem twoth_near : 3 * rv 4604180019048437077 ≤ 2 + ep ∧ 2 ≤ 3 * rv 4604180019048437077 + ep := const_near (k := 3) (n := 2) (by decide +kernel) (by decide +kernel)
theorem Fn_third : Fn 4599676419421066581 := Fn_finite.mp (by decide +kernel)
theorem Fn_sixth : Fn 4595172819793696085 := Fn_finite.mp (by decide +kernel)
theorem Fn_twoth : Fn 4604180019048437077 := Fn_finite.mp (by decide +kernel)

/-! to whole numbers -/
theorem int_of_scaled {n : Int} {x : UInt64} (h1 : n * (PN : Int) ≤ val x) (h2 : val x < (n + 1) * (PN : Int)) : (n : Rat) ≤ rv x ∧ rv x < (n : Rat) + 1 := by
  have r1 := Rat.intCast_le_intCast.mpr h1
  have r2 := Rat.intCast_lt_intCast.mpr h2
  rw [Rat.intCast_mul, ← rv_mul] at r1 r2
  have hq : (((PN : Int)) : Rat) = PQ := by unfold PQ; push_cast; rfl
  rw [hq] at r1 r2
  rw [Rat.intCast_add] at r2
  exact ⟨le_of_PQ r1, Rat.lt_of_mul_lt_mul_right r2 (Rat.le_of_lt PQ_pos)⟩

theorem rv_nonneg {x : UInt64} : 0 ≤ rv x ↔ 0 ≤ val x := by
  have := rv_le (x := 0) (y := x)
  rw [rv_0] at this
  rw [this]
  have : val 0 = 0 := by decide +kernel
  rw [this]

theorem trunc_spec {x : UInt64} (hx : Fn x) (h : 0 ≤ rv x) : 0 ≤ Flt.toInt truncOf x ∧ ((Flt.toInt truncOf x : Int) : Rat) ≤ rv x ∧ rv x < ((Flt.toInt truncOf x : Int) : Rat) + 1 := by
  obtain ⟨a, m, e, hd⟩ := hx
  rw [rv_nonneg] at h
  rw [Flt.toInt_fin hd]
  have hge := decode_ge hd
  have hv := val_eq hd
  have hpos : (0 : Int) < (PN : Int) := Int.ofNat_lt.mpr PN_pos
  suffices hs : 0 ≤ truncOf a m e ∧ truncOf a m e * (PN : Int) ≤ val x ∧ val x < (truncOf a m e + 1) * (PN : Int) from
    ⟨hs.1, int_of_scaled hs.2.1 hs.2.2⟩
  cases a with
  | true =>
    have hm : m = 0 := by
      rw [hv] at h
      simp only [sgn, if_true] at h
      rcases Nat.eq_zero_or_pos m with q | q
      · exact q
      · have := Nat.mul_pos q (Nat.two_pow_pos (e + 1074).toNat)
        generalize m * 2 ^ (e + 1074).toNat = z at *
        lia
    subst hm
    have ht : truncOf true 0 e = 0 := by
      unfold truncOf ceilOf floorOf sgn
      simp
    rw [ht, hv]
    simp only [sgn, Nat.zero_mul, Int.zero_mul, if_true]
    refine ⟨by decide, by decide, ?_⟩
    rw [Int.zero_add, Int.one_mul]
    exact hpos
  | false =>
    have ht : truncOf false m e = floorOf false m e := by unfold truncOf; simp
    rw [ht]
    simp only [sgn, Bool.false_eq_true, if_false] at hv
    unfold floorOf
    by_cases he : e ≥ 0
    · rw [if_pos he]
      simp only [sgn, Bool.false_eq_true, if_false]
      have e1 : (e + 1074).toNat = e.toNat + 1074 := by lia
      rw [e1, Nat.pow_add, PN_def, ← Nat.mul_assoc, Int.natCast_mul] at hv
      have e2 : ((m * 2 ^ e.toNat : Nat) : Int) = (m : Int) * 2 ^ e.toNat := by rw [Int.natCast_mul, Int.natCast_pow]; rfl
      rw [e2] at hv
      have h0 : (0 : Int) ≤ (m : Int) * 2 ^ e.toNat := by rw [← e2]; exact Int.natCast_nonneg _
      generalize (m : Int) * 2 ^ e.toNat = z at *
      refine ⟨h0, by rw [hv]; exact Int.le_refl _, ?_⟩
      rw [hv, Int.add_mul, Int.one_mul]
      lia
    · rw [if_neg he]
      simp only [sgn, Bool.false_eq_true, if_false]
      have e1 : PN = 2 ^ (e + 1074).toNat * 2 ^ (-e).toNat := by rw [← PN_def, ← Nat.pow_add]; congr 1; lia
      have e3 : ((2 : Int) ^ (-e).toNat) = ((2 ^ (-e).toNat : Nat) : Int) := by rw [Int.natCast_pow]; rfl
      rw [e3]
      have hd0 : 0 < 2 ^ (-e).toNat := Nat.two_pow_pos _
      have hz0 : 0 < 2 ^ (e + 1074).toNat := Nat.two_pow_pos _
      have e4 : (m : Int).fdiv ((2 ^ (-e).toNat : Nat) : Int) = ((m / 2 ^ (-e).toNat : Nat) : Int) := by
        rw [Int.fdiv_eq_ediv_of_nonneg _ (Int.natCast_nonneg _)]; rfl
      rw [e4, hv, e1]
      generalize 2 ^ (-e).toNat = d at *
      generalize 2 ^ (e + 1074).toNat = z at *
      refine ⟨Int.natCast_nonneg _, ?_, ?_⟩
      · have := Nat.div_mul_le_self m d
        have h2 := Nat.mul_le_mul_right z this
        rw [← Int.natCast_mul]
        refine Int.ofNat_le.mpr ?_
        calc m / d * (z * d) = m / d * d * z := by ac_rfl
          _ ≤ m * z := h2
      · have h1 := Nat.lt_mul_div_succ m hd0
        have h2 := Nat.mul_lt_mul_of_pos_right h1 hz0
        have e5 : ((m / d : Nat) : Int) + 1 = ((m / d + 1 : Nat) : Int) := by lia
        rw [e5, ← Int.natCast_mul]
        refine Int.ofNat_lt.mpr ?_
        calc m * z < d * (m / d + 1) * z := h2
          _ = (m / d + 1) * (z * d) := by ac_rfl

theorem halfEven_half (n d : Nat) (hd : 0 < d) : 2 * n ≤ 2 * (d * halfEven n d) + d ∧ 2 * (d * halfEven n d) ≤ 2 * n + d := by
  have h1 := Nat.div_add_mod n d
  have h2 := Nat.mod_lt n hd
  unfold halfEven
  simp only
  generalize n / d = q at *
  generalize n % d = r at *
  have e : d * (q + 1) = d * q + d := by rw [Nat.mul_add, Nat.mul_one]
  split
  · rename_i h
    simp only [Bool.or_eq_true, decide_eq_true_eq, Bool.and_eq_true, beq_iff_eq] at h
    rw [e]; lia
  · rename_i h
    simp only [Bool.or_eq_true, decide_eq_true_eq, Bool.and_eq_true, beq_iff_eq, not_or, not_and] at h
    lia

theorem nearest_spec {x : UInt64} (hx : Fn x) : 2 * ((Flt.toInt nearestOf x : Int) : Rat) ≤ 2 * rv x + 1 ∧ 2 * rv x ≤ 2 * ((Flt.toInt nearestOf x : Int) : Rat) + 1 := by
  obtain ⟨a, m, e, hd⟩ := hx
  rw [Flt.toInt_fin hd]
  have hge := decode_ge hd
  have hv := val_eq hd
  suffices hs : 2 * (nearestOf a m e * (PN : Int)) ≤ 2 * val x + (PN : Int) ∧ 2 * val x ≤ 2 * (nearestOf a m e * (PN : Int)) + (PN : Int) by
    have r1 := Rat.intCast_le_intCast.mpr hs.1
    have r2 := Rat.intCast_le_intCast.mpr hs.2
    rw [Rat.intCast_add, Rat.intCast_mul, Rat.intCast_mul, Rat.intCast_mul, ← rv_mul] at r1 r2
    have hq : (((PN : Int)) : Rat) = PQ := by unfold PQ; push_cast; rfl
    rw [hq, show ((2 : Int) : Rat) = 2 from rfl] at r1 r2
    constructor <;> refine le_of_PQ ?_ <;> grind
  unfold nearestOf
  simp only
  have hsh := shift_one m e 1074 (by lia)
  have hp := shift_pos m 1 e (by decide)
  rw [PN_def] at hsh
  generalize (shift m 1 e).1 = n at *
  generalize (shift m 1 e).2 = d at *
  have hh := halfEven_half n d hp
  generalize halfEven n d = q at *
  have g1 : 2 * (m * 2 ^ (e + ((1074 : Nat) : Int)).toNat) ≤ 2 * (q * PN) + PN := by
    refine Nat.le_of_mul_le_mul_left (c := d) ?_ hp
    have := Nat.mul_le_mul_right PN hh.1
    calc d * (2 * (m * 2 ^ (e + ((1074 : Nat) : Int)).toNat)) = 2 * (m * 2 ^ (e + ((1074 : Nat) : Int)).toNat * d) := by ac_rfl
      _ = 2 * n * PN := by rw [← hsh]; ac_rfl
      _ ≤ (2 * (d * q) + d) * PN := this
      _ = d * (2 * (q * PN) + PN) := by rw [Nat.add_mul, Nat.mul_add]; ac_rfl
  have g2 : 2 * (q * PN) ≤ 2 * (m * 2 ^ (e + ((1074 : Nat) : Int)).toNat) + PN := by
    refine Nat.le_of_mul_le_mul_left (c := d) ?_ hp
    have := Nat.mul_le_mul_right PN hh.2
    calc d * (2 * (q * PN)) = 2 * (d * q) * PN := by ac_rfl
      _ ≤ (2 * n + d) * PN := this
      _ = 2 * (n * PN) + d * PN := by rw [Nat.add_mul]; ac_rfl
      _ = d * (2 * (m * 2 ^ (e + ((1074 : Nat) : Int)).toNat) + PN) := by rw [hsh, Nat.mul_add]; ac_rfl
  rw [hv, ← sgn_mul]
  have e0 : (e + ((1074 : Nat) : Int)).toNat = (e + 1074).toNat := rfl
  rw [e0] at g1 g2
  generalize m * 2 ^ (e + 1074).toNat = u at *
  generalize q * PN = z at *
  cases a <;> simp only [sgn, if_true, Bool.false_eq_true, if_false] <;> lia

/-! the absolute value -/
theorem abs_spec {x : UInt64} (hx : Fn x) : Fn (Float64.abs x) ∧ (rv (Float64.abs x) = rv x ∨ rv (Float64.abs x) = - rv x) ∧ 0 ≤ rv (Float64.abs x) := by
  obtain ⟨a, m, e, hd⟩ := hx
  have hn : isNaN x = false := by unfold isNaN; rw [hd]
  have hlt : x.toNat % 2 ^ 63 < 2 ^ 63 := Nat.mod_lt _ (by decide)
  have ha : (Float64.abs x).toNat = x.toNat % 2 ^ 63 := by
    unfold Float64.abs
    rw [hn]
    simp only [Bool.false_eq_true, if_false]
    rw [pack_toNat false hlt]
    simp
  have hdec : decode (Float64.abs x) = .fin false m e := by
    have h2 : (x.toNat % 2 ^ 63) / 2 ^ 52 % 2048 = x.toNat / 2 ^ 52 % 2048 := by omega
    have h3 : (x.toNat % 2 ^ 63) % 2 ^ 52 = x.toNat % 2 ^ 52 := by omega
    have h4 : ((x.toNat % 2 ^ 63) / 2 ^ 63 == 1) = false := by
      have : (x.toNat % 2 ^ 63) / 2 ^ 63 = 0 := by omega
      rw [this]; rfl
    unfold decode at hd ⊢
    rw [ha]
    simp only [h2, h3, h4] at hd ⊢
    split at hd
    · split at hd <;> cases hd
    · rename_i h1
      rw [if_neg h1]
      split at hd
      · rename_i h5; rw [if_pos h5]; cases hd; rfl
      · rename_i h5; rw [if_neg h5]; cases hd; rfl
  refine ⟨⟨_, _, _, hdec⟩, ?_, ?_⟩
  · have v1 := val_eq hdec
    have v2 := val_eq hd
    cases a with
    | false => left; rw [rv_inj, v1, v2]
    | true =>
      right
      refine rv_eq ?_
      have : val (Float64.abs x) = - val x := by rw [v1, v2]; simp [sgn]
      rw [this, Rat.neg_mul, rv_mul]; push_cast; rfl
  · rw [rv_nonneg, val_eq hdec]; simp only [sgn, Bool.false_eq_true, if_false]; exact Int.natCast_nonneg _
end Mine
end
section
open PySem PySem.Float64
set_option Elab.async false
namespace Mine

/-! the remainder by one -/
def mod1 (x : UInt64) : UInt64 := (divmod x 4607182418800017408).2

theorem mod1_eq (x : UInt64) : mod1 x = if isZero (fmod x 4607182418800017408) then copysign (zero false) 4607182418800017408
    else if (lt 4607182418800017408 (zero false) != lt (fmod x 4607182418800017408) (zero false)) then add (fmod x 4607182418800017408) 4607182418800017408 else fmod x 4607182418800017408 := by
  unfold mod1 divmod
  simp only
  split
  · rfl
  · split <;> rfl

theorem decode_one : decode 4607182418800017408 = .fin false (2 ^ 52) (-52) := by kernel_rfl

theorem fmod_right {x : UInt64} {a : Bool} {m : Nat} {e : Int} (hd : decode x = .fin a m e) : Right (fmod x 4607182418800017408) a ((val x).natAbs % PN) 1 := by
  have hge := decode_ge hd
  have hf : fmod x 4607182418800017408 = ofBin a ((m * 2 ^ (e - min e (-52)).toNat) % (2 ^ 52 * 2 ^ (-52 - min e (-52)).toNat)) (min e (-52)) := by
    unfold fmod
    rw [hd, decode_one]
    simp only [align]
    rw [if_neg (by decide)]
    simp only [sgn, Bool.false_eq_true, if_false, Int.toNat_natCast]
  rw [hf, val_natAbs hd]
  generalize hg : min e (-52) = g
  have h1 := shift_one ((m * 2 ^ (e - g).toNat) % (2 ^ 52 * 2 ^ (-52 - g).toNat)) g 1074 (by lia)
  have e0 : (g + ((1074 : Nat) : Int)).toNat = (g + 1074).toNat := rfl
  have e1 : m * 2 ^ (e - g).toNat * 2 ^ (g + 1074).toNat = m * 2 ^ (e + 1074).toNat := by
    rw [Nat.mul_assoc, ← Nat.pow_add, show (e - g).toNat + (g + 1074).toNat = (e + 1074).toNat from by lia]
  have e2 : 2 ^ 52 * 2 ^ (-52 - g).toNat * 2 ^ (g + 1074).toNat = PN := by
    rw [← Nat.pow_add, ← Nat.pow_add, show 52 + (-52 - g).toNat + (g + 1074).toNat = 1074 from by lia, PN_def]
  rw [e0, ← Nat.mul_mod_mul_right, e1, e2] at h1
  rw [← Nat.mul_one ((shift _ 1 g).1 * 2 ^ 1074)] at h1
  exact ofFrac_right (shift_pos _ _ _ (by decide)) h1 (by decide)

theorem lt_zero {x : UInt64} (hx : Fn x) : lt x (zero false) = true ↔ rv x < 0 := by
  unfold Float64.lt
  rw [cmp_lt hx (Fn_zero _)]
  have : rv (zero false) = 0 := rv_eq (by rw [val_zero, Rat.zero_mul]; rfl)
  rw [this]

/-- the remainder by one: a whole number less, between nought and one (nearly) -/
theorem mod1_spec {x : UInt64} (hx : Fn x) : Fn (mod1 x) ∧ ∃ j : Int, rv (mod1 x) ≤ rv x - (j : Rat) + 2 * ep ∧ rv x - (j : Rat) ≤ rv (mod1 x) + 2 * ep ∧ -(2 * ep) ≤ rv (mod1 x) ∧ rv (mod1 x) ≤ 1 + 2 * ep := by
  obtain ⟨a, m, e, hd⟩ := hx
  have hr := fmod_right hd
  have hmod := Nat.mod_lt (val x).natAbs PN_pos
  have hb : (val x).natAbs % PN ≤ 1 * 2 ^ 1087 := by rw [PN_13]; grind
  obtain ⟨hfn, v, hv, g1, g2⟩ := right_near hr (by decide) hb
  rw [Nat.one_mul, Nat.one_mul, EN_def] at g1 g2
  have hvx : val x = sgn a (val x).natAbs := val_sgn hd
  have hdm := Nat.div_add_mod (val x).natAbs PN
  generalize hy : fmod x 4607182418800017408 = y at *
  -- the whole part
  have key : ∃ i : Int, val y ≤ val x - (PN : Int) * i + (EN : Int) ∧ val x - (PN : Int) * i ≤ val y + (EN : Int) ∧ -((PN : Int) + (EN : Int)) ≤ val y ∧ val y ≤ (PN : Int) + (EN : Int) := by
    generalize (val x).natAbs / PN = q at *
    generalize (val x).natAbs % PN = r at *
    generalize (val x).natAbs = n at *
    refine ⟨sgn a q, ?_⟩
    have e1 : (PN : Int) * sgn a q = sgn a (PN * q) := by rw [Nat.mul_comm, sgn_mul, Int.mul_comm]
    rw [e1, hvx, hv]
    generalize PN * q = z at *
    cases a <;> simp only [sgn, if_true, Bool.false_eq_true, if_false] <;> grind
  obtain ⟨i, k1, k2, k3, k4⟩ := key
  have hq : (((PN : Int)) : Rat) = PQ := by unfold PQ; push_cast; rfl
  have he : (((EN : Int)) : Rat) = ep * PQ := by rw [ep_mul]; push_cast; rfl
  have r1 := Rat.intCast_le_intCast.mpr k1
  have r2 := Rat.intCast_le_intCast.mpr k2
  have r3 := Rat.intCast_le_intCast.mpr k3
  have r4 := Rat.intCast_le_intCast.mpr k4
  rw [Rat.intCast_add, Rat.intCast_sub, Rat.intCast_mul, hq, he, ← rv_mul x, ← rv_mul y] at r1
  rw [Rat.intCast_add, Rat.intCast_sub, Rat.intCast_mul, hq, he, ← rv_mul x, ← rv_mul y] at r2
  rw [Rat.intCast_neg, Rat.intCast_add, hq, he, ← rv_mul y] at r3
  rw [Rat.intCast_add, hq, he, ← rv_mul y] at r4
  have s1 : rv y ≤ rv x - (i : Rat) + ep := by refine le_of_PQ ?_; grind
  have s2 : rv x - (i : Rat) ≤ rv y + ep := by refine le_of_PQ ?_; grind
  have s3 : -(1 + ep) ≤ rv y := by refine le_of_PQ ?_; grind
  have s4 : rv y ≤ 1 + ep := by refine le_of_PQ ?_; grind
  clear r1 r2 r3 r4 k1 k2 k3 k4 g1 g2
  have hep := ep_pos
  have hep1 := ep_is
  rw [mod1_eq, hy]
  by_cases hz : isZero y = true
  · rw [if_pos hz]
    have hz0 := (isZero_iff hfn).mp hz
    have hc : copysign (zero false) 4607182418800017408 = zero false := by decide +kernel
    rw [hc]
    have hrv : rv (zero false) = 0 := rv_eq (by rw [val_zero, Rat.zero_mul]; rfl)
    refine ⟨Fn_zero _, i, ?_, ?_, ?_, ?_⟩ <;> rw [hrv] <;> grind
  · rw [if_neg hz]
    have hz0 : rv y ≠ 0 := fun h => hz ((isZero_iff hfn).mpr h)
    have h1 : lt 4607182418800017408 (zero false) = false := by decide +kernel
    rw [h1]
    by_cases hl : lt y (zero false) = true
    · rw [hl, if_pos (by decide)]
      have hneg := (lt_zero hfn).mp hl
      have ha := add_near hfn gr_1.1 (by rw [rv_1]; grind) (by rw [rv_1]; grind)
      rw [rv_1] at ha
      obtain ⟨ha0, ha1, ha2⟩ := ha
      refine ⟨ha0, i - 1, ?_, ?_, ?_, ?_⟩ <;> (try rw [Rat.intCast_sub, show ((1 : Int) : Rat) = 1 from rfl]) <;> grind
    · have hl' : lt y (zero false) = false := by simpa using hl
      rw [hl', if_neg (by decide)]
      have hnn : 0 ≤ rv y := Rat.not_lt.mp fun h => hl ((lt_zero hfn).mpr h)
      refine ⟨hfn, i, ?_, ?_, ?_, ?_⟩ <;> grind
end Mine
end
section
open PySem PySem.W PyProof.Rows PySem.Spec PySem.Calls
set_option Elab.async false
namespace Mine
def Stop (P : Prop) : Prop := P
theorem stop_of {P : Prop} (h : Stop P) : P := h
/-! to keep the terms of a walk short: the names' map becomes a let -/
def Mk (_ : Str → Option Value) : Prop := True
theorem mk_of {h₀ h : Heap} {L : Addr} {m : Str → Option Value} (_ : Fr h₀ L h m) (_ : Mk m) : True := trivial
theorem fold_m {P : Prop} {h₀ h : Heap} {L : Addr} {a : Str} {v : Option Value} {m₀ : Str → Option Value} (F : Fr h₀ L h (fun y => if y = a then v else m₀ y))
    (k : let m9 : Str → Option Value := (fun y => if y = a then v else m₀ y); Fr h₀ L h m9 → Mk m9 → P) : P := k F trivial
theorem gen_toks0 {α : Type} {M : Model} {A : Around} {t : Sem α} {Q : α → Shared → Prop} {E : Value → Shared → Prop} {hp : Heap} {g : Array GenState} {d : Drawn} {Y : Nat} {os : OsState}
    (h : ∀ tk, wpAny M A t Q E ⟨hp, g, d, tk, os⟩) : wpAny M A t Q E ⟨hp, g, d, Y + 1, os⟩ := h _
/-! two ways through an if meet again -/
def JoinF (h₀ : Heap) (L : Addr) (m : Str → Option Value) (news : List (Addr × Obj)) (name : Str) (x : UInt64) (s s' : Shared) : Prop :=
  ∃ h' tk t, s' = { s with heap := h', toks := tk } ∧ Fr h₀ L h' (fun y => if y = name then some (.float x t) else m y) ∧ News h₀ L h' news
section
variable {prog : Program} {w : World} {A : Around} {E : Value → Shared → Prop} {s : Shared} {env : Env} {h₀ : Heap} {L : Addr} {m : Str → Option Value} {news : List (Addr × Obj)}
theorem if_float {test : PySem.Expr} {body orelse : List Stmt} {pos : Pos} {Q : Flow → Shared → Prop} {name : Str} {x : UInt64} (_F : Fr h₀ L s.heap m) (_N : News h₀ L s.heap news)
    (h : wpAny (model prog w) A (exec (.If test body orelse pos) env) (fun f s' => f = .next ∧ JoinF h₀ L m news name x s s') E s)
    (k : ∀ h' tk t, Fr h₀ L h' (fun y => if y = name then some (.float x t) else m y) → News h₀ L h' news → Q .next { s with heap := h', toks := tk }) :
    wpAny (model prog w) A (exec (.If test body orelse pos) env) Q E s := by
  refine wpAny_mono h (fun f s' q => ?_) fun _ _ e => e
  obtain ⟨rfl, h', tk, t, rfl, F', N'⟩ := q
  exact k h' tk t F' N'
theorem join_out {name : Str} {x x' : UInt64} {t : Tok} {h' : Heap} {tk : Nat} (e : x' = x) (F : Fr h₀ L h' (fun y => if y = name then some (.float x' t) else m y)) (N : News h₀ L h' news) : JoinF h₀ L m news name x s { s with heap := h', toks := tk } := by
  subst e; exact ⟨h', tk, t, rfl, F, N⟩
end
end Mine
end
section
open PySem PySem.W PyProof.Rows
set_option Elab.async false
set_option maxRecDepth 100000
namespace Mine

abbrev TkT := Tok
/-- a def's contract: the call at f with vs, under the ledger news, comes back with what Out says, tl being the new objects -/
abbrev Ctr (w : World) (mean : ExcName → Option Value) (mg mb : Str → Option Value) (f : Addr) (k : Nat) (news : List (Addr × Obj)) (vs : List Value) (Out : Value → List (Addr × Obj) → Prop) : Prop :=
  ∀ (dp un : Nat) (gd : Option (List Code)) (cn : Str) (cs : Scope) (a : Addr) (ccd : Value) (cl : List (Str × Addr)) (outer : List Env) (A₀ : Around) (base h₀ : Heap) (L : Addr) (m : Str → Option Value) (s : Shared) (Q E : Value → Shared → Prop),
    Below A₀ base outer h₀ → Fr h₀ L s.heap m → (Mine.hd.heap_39 w.params).In h₀ → News h₀ L s.heap news → Top Mine.hd.view_39 (looseW Mine.hd.view_39 [Str.ofString "ONE_THIRD", Str.ofString "ONE_SIXTH", Str.ofString "TWO_THIRD"]) mean mg mb h₀ → cs.kind = .function →
    dp + k < recursionLimit → un + 8 * k + 200 < cLine →
    (∀ v tl h' tk', Fr h₀ L h' m → News h₀ L h' (tl ++ news) → (∀ p ∈ news, ∀ q ∈ tl, p.1 ≠ q.1) → Out v tl → Q v { s with heap := h', toks := tk' }) →
    wpAny (model Challenge.rw_pe0115_01.row.prog w) (ktrTop dp un gd cn cs L a ccd cl outer) (call (.ref f) vs) Q E s

def tup3 (x y z : Value) : Obj := { cls := .type "tuple", data := .seq #[x, y, z] }
def FloatOut (x : UInt64) (v : Value) (tl : List (Addr × Obj)) : Prop := tl = [] ∧ ∃ t, v = .float x t
def TupOut (p : UInt64 × UInt64 × UInt64) (v : Value) (tl : List (Addr × Obj)) : Prop := ∃ D t1 t2 t3, v = .ref D ∧ tl = [(D, tup3 (.float p.1 t1) (.float p.2.1 t2) (.float p.2.2 t3))]

/-! what the defs reckon -/
def feq (x y : UInt64) : Bool := Float64.cmp x y == some .eq
def fle (x y : UInt64) : Bool := Float64.cmp x y == some .lt || Float64.cmp x y == some .eq

def vF (m1 m2 hue : UInt64) : UInt64 :=
  if flt (mod1 hue) 4595172819793696085 then Float64.add m1 (Float64.mul (Float64.mul (Float64.sub m2 m1) (mod1 hue)) 4618441417868443648)
  else if flt (mod1 hue) 4602678819172646912 then m2
  else if flt (mod1 hue) 4604180019048437077 then Float64.add m1 (Float64.mul (Float64.mul (Float64.sub m2 m1) (Float64.sub 4604180019048437077 (mod1 hue))) 4618441417868443648)
  else m1

section
variable {m1 m2 hue : UInt64}
theorem vF_1 (h1 : (Float64.cmp (Float64.divmod hue 4607182418800017408).snd 4595172819793696085 == some Ordering.lt) = true) : Float64.add m1 (Float64.mul (Float64.mul (Float64.sub m2 m1) (Float64.divmod hue 4607182418800017408).snd) 4618441417868443648) = vF m1 m2 hue := by
  unfold vF flt mod1; rw [if_pos h1]
theorem vF_2 (h1 : (Float64.cmp (Float64.divmod hue 4607182418800017408).snd 4595172819793696085 == some Ordering.lt) = false) (h2 : (Float64.cmp (Float64.divmod hue 4607182418800017408).snd 4602678819172646912 == some Ordering.lt) = true) : m2 = vF m1 m2 hue := by
  unfold vF flt mod1; rw [if_neg (by rw [h1]; decide), if_pos h2]
theorem vF_3 (h1 : (Float64.cmp (Float64.divmod hue 4607182418800017408).snd 4595172819793696085 == some Ordering.lt) = false) (h2 : (Float64.cmp (Float64.divmod hue 4607182418800017408).snd 4602678819172646912 == some Ordering.lt) = false) (h3 : (Float64.cmp (Float64.divmod hue 4607182418800017408).snd 4604180019048437077 == some Ordering.lt) = true) : Float64.add m1 (Float64.mul (Float64.mul (Float64.sub m2 m1) (Float64.sub 4604180019048437077 (Float64.divmod hue 4607182418800017408).snd)) 4618441417868443648) = vF m1 m2 hue := by
  unfold vF flt mod1; rw [if_neg (by rw [h1]; decide), if_neg (by rw [h2]; decide), if_pos h3]
theorem vF_4 (h1 : (Float64.cmp (Float64.divmod hue 4607182418800017408).snd 4595172819793696085 == some Ordering.lt) = false) (h2 : (Float64.cmp (Float64.divmod hue 4607182418800017408).snd 4602678819172646912 == some Ordering.lt) = false) (h3 : (Float64.cmp (Float64.divmod hue 4607182418800017408).snd 4604180019048437077 == some Ordering.lt) = false) : m1 = vF m1 m2 hue := by
  unfold vF flt mod1; rw [if_neg (by rw [h1]; decide), if_neg (by rw [h2]; decide), if_neg (by rw [h3]; decide)]
end
theorem float_out {x y : UInt64} {t : Tok} (h : x = y) : FloatOut y (.float x t) [] := ⟨rfl, t, by rw [h]⟩

set_option maxHeartbeats 8000000 in
theorem v_c (w : World) (mean : ExcName → Option Value) (mg mb : Str → Option Value) (news : List (Addr × Obj)) (m1 m2 hue : UInt64) (t1 t2 t3 : Tok) :
  Ctr w mean mg mb 35 1 news [.float m1 t1, .float m2 t2, .float hue t3] (FloatOut (vF m1 m2 hue)) := by
  dsimp only [Ctr]
  w_top off
  k_fill
  intros; rename_i hret
  refine wpAny_call ?_
  k_dflt cell_enter
  k_steps
  all_goals first
    | exact hret _ [] _ _ (by assumption) (by assumption) (fun _ _ _ h => nomatch h) (float_out (vF_1 (by assumption)))
    | exact hret _ [] _ _ (by assumption) (by assumption) (fun _ _ _ h => nomatch h) (float_out (vF_2 (by assumption) (by assumption)))
    | exact hret _ [] _ _ (by assumption) (by assumption) (fun _ _ _ h => nomatch h) (float_out (vF_3 (by assumption) (by assumption) (by assumption)))
    | exact hret _ [] _ _ (by assumption) (by assumption) (fun _ _ _ h => nomatch h) (float_out (vF_4 (by assumption) (by assumption) (by assumption)))
end Mine
end
section
open PySem PySem.W PyProof.Rows
set_option Elab.async false
set_option maxRecDepth 100000
namespace Mine

theorem off1_of {D : Addr} : ∀ {l : List (Addr × Obj)}, (∀ p ∈ l, p.1 ≠ D) → LCg.Off1 D l
  | [], _ => trivial
  | _ :: _, h => ⟨h _ List.mem_cons_self, off1_of fun p hp => h p (List.mem_cons_of_mem _ hp)⟩
theorem off1_mem {D : Addr} : ∀ {l : List (Addr × Obj)}, LCg.Off1 D l → ∀ p ∈ l, p.1 ≠ D
  | [], _, _, hp => absurd hp List.not_mem_nil
  | _ :: _, h, p, hp => by
    rcases List.mem_cons.mp hp with rfl | hp
    · exact h.1
    · exact off1_mem h.2 p hp
section
variable {w : World} {mean : ExcName → Option Value} {mg mb : Str → Option Value} {f : Addr} {k : Nat} {news : List (Addr × Obj)} {vs : List Value} {dp un : Nat} {gd : Option (List Code)} {cn : Str} {cs : Scope} {a : Addr} {ccd : Value} {cl : List (Str × Addr)} {outer : List Env} {A₀ : Around} {base h₀ : Heap} {L : Addr} {m : Str → Option Value} {s : Shared} {Q E : Value → Shared → Prop}
theorem ctr_useF {x : UInt64} (C : Ctr w mean mg mb f k news vs (FloatOut x)) (B : Below A₀ base outer h₀) (F : Fr h₀ L s.heap m) (X : (Mine.hd.heap_39 w.params).In h₀) (N : News h₀ L s.heap news)
    (T : Top Mine.hd.view_39 (looseW Mine.hd.view_39 [Str.ofString "ONE_THIRD", Str.ofString "ONE_SIXTH", Str.ofString "TWO_THIRD"]) mean mg mb h₀) (hk : cs.kind = .function) (hd : dp + k < recursionLimit) (hu : un + 8 * k + 200 < cLine)
    (ret : ∀ t h' tk', Fr h₀ L h' m → News h₀ L h' news → Q (.float x t) { s with heap := h', toks := tk' }) :
    wpAny (model Challenge.rw_pe0115_01.row.prog w) (ktrTop dp un gd cn cs L a ccd cl outer) (call (.ref f) vs) Q E s :=
  C _ _ _ _ _ _ _ _ _ _ _ _ _ _ _ _ _ B F X N T hk hd hu fun v tl h' tk' F' N' hl ho => by
    obtain ⟨rfl, t, rfl⟩ := ho
    exact ret t h' tk' F' N'
theorem ctr_useT {p : UInt64 × UInt64 × UInt64} (C : Ctr w mean mg mb f k news vs (TupOut p)) (B : Below A₀ base outer h₀) (F : Fr h₀ L s.heap m) (X : (Mine.hd.heap_39 w.params).In h₀) (N : News h₀ L s.heap news)
    (T : Top Mine.hd.view_39 (looseW Mine.hd.view_39 [Str.ofString "ONE_THIRD", Str.ofString "ONE_SIXTH", Str.ofString "TWO_THIRD"]) mean mg mb h₀) (hk : cs.kind = .function) (hd : dp + k < recursionLimit) (hu : un + 8 * k + 200 < cLine)
    (ret : ∀ D t1 t2 t3 h' tk', Fr h₀ L h' m → News h₀ L h' ((D, { cls := .type "tuple", data := .seq #[.float p.1 t1, .float p.2.1 t2, .float p.2.2 t3] }) :: news) → LCg.Off1 D news → Q (.ref D) { s with heap := h', toks := tk' }) :
    wpAny (model Challenge.rw_pe0115_01.row.prog w) (ktrTop dp un gd cn cs L a ccd cl outer) (call (.ref f) vs) Q E s :=
  C _ _ _ _ _ _ _ _ _ _ _ _ _ _ _ _ _ B F X N T hk hd hu fun v tl h' tk' F' N' hl ho => by
    obtain ⟨D, t1, t2, t3, rfl, rfl⟩ := ho
    exact ret D t1 t2 t3 h' tk' F' N' (off1_of fun q hq => hl q hq _ (.head _))
end
theorem tup_out {p : UInt64 × UInt64 × UInt64} {x y z : UInt64} {D : Addr} {t1 t2 t3 : Tok} (h : (x, y, z) = p) : TupOut p (.ref D) [(D, { cls := .type "tuple", data := .seq #[.float x t1, .float y t2, .float z t3] })] := by
  subst h; exact ⟨D, t1, t2, t3, rfl, rfl⟩
theorem lt_out {news : List (Addr × Obj)} {D : Addr} {o : Obj} (h : ∀ q ∈ news, q.1 < D) : ∀ p ∈ news, ∀ q ∈ [(D, o)], p.1 ≠ q.1 := fun p hp q hq => by
  rw [List.mem_singleton.mp hq]; exact Nat.ne_of_lt (h p hp)

/-! hls_to_rgb -/
def hlsM2 (l s : UInt64) : UInt64 := if fle l 4602678819172646912 then Float64.mul l (Float64.add 4607182418800017408 s) else Float64.sub (Float64.add l s) (Float64.mul l s)
def hlsM1 (l s : UInt64) : UInt64 := Float64.sub (Float64.mul 4611686018427387904 l) (hlsM2 l s)
def hlsRgb (h l s : UInt64) : UInt64 × UInt64 × UInt64 :=
  if feq s 0 then (l, l, l) else (vF (hlsM1 l s) (hlsM2 l s) (Float64.add h 4599676419421066581), vF (hlsM1 l s) (hlsM2 l s) h, vF (hlsM1 l s) (hlsM2 l s) (Float64.sub h 4599676419421066581))

section
variable {h l s : UInt64}
theorem hls_1 (h1 : (Float64.cmp s 0 == some Ordering.eq) = true) : (l, l, l) = hlsRgb h l s := by
  unfold hlsRgb feq; rw [if_pos h1]
theorem hls_2 (h1 : (Float64.cmp s 0 == some Ordering.eq) = false) (h2 : (Float64.cmp l 4602678819172646912 == some Ordering.lt || Float64.cmp l 4602678819172646912 == some Ordering.eq) = true) :
    (vF (Float64.sub (Float64.mul 4611686018427387904 l) (Float64.mul l (Float64.add 4607182418800017408 s))) (Float64.mul l (Float64.add 4607182418800017408 s)) (Float64.add h 4599676419421066581),
     vF (Float64.sub (Float64.mul 4611686018427387904 l) (Float64.mul l (Float64.add 4607182418800017408 s))) (Float64.mul l (Float64.add 4607182418800017408 s)) h,
     vF (Float64.sub (Float64.mul 4611686018427387904 l) (Float64.mul l (Float64.add 4607182418800017408 s))) (Float64.mul l (Float64.add 4607182418800017408 s)) (Float64.sub h 4599676419421066581)) = hlsRgb h l s := by
  unfold hlsRgb feq hlsM1 hlsM2 fle; rw [if_neg (by rw [h1]; decide), if_pos h2]
theorem hls_3 (h1 : (Float64.cmp s 0 == some Ordering.eq) = false) (h2 : (Float64.cmp l 4602678819172646912 == some Ordering.lt || Float64.cmp l 4602678819172646912 == some Ordering.eq) = false) :
    (vF (Float64.sub (Float64.mul 4611686018427387904 l) (Float64.sub (Float64.add l s) (Float64.mul l s))) (Float64.sub (Float64.add l s) (Float64.mul l s)) (Float64.add h 4599676419421066581),
     vF (Float64.sub (Float64.mul 4611686018427387904 l) (Float64.sub (Float64.add l s) (Float64.mul l s))) (Float64.sub (Float64.add l s) (Float64.mul l s)) h,
     vF (Float64.sub (Float64.mul 4611686018427387904 l) (Float64.sub (Float64.add l s) (Float64.mul l s))) (Float64.sub (Float64.add l s) (Float64.mul l s)) (Float64.sub h 4599676419421066581)) = hlsRgb h l s := by
  unfold hlsRgb feq hlsM1 hlsM2 fle; rw [if_neg (by rw [h1]; decide), if_neg (by rw [h2]; decide)]
end
local macro_rules | `(tactic| walk_at "call ref") => `(tactic| ((with_reducible show wpAny _ _ (call (Value.ref 35) _) _ _ _); k_extra "Cu1"))
local macro_rules | `(tactic| walk_at "execs cons") => `(tactic| (k_here; k_extra "Cu2"; intro m9 F9 M9; (try dsimp only)))
local macro_rules | `(tactic| walk_at "execs cons") => `(tactic| (k_here; (with_reducible refine gen_toks0 ?_); intro tk8))
set_option maxHeartbeats 8000000 in
theorem hls_c (w : World) (mean : ExcName → Option Value) (mg mb : Str → Option Value) (news : List (Addr × Obj)) (h l s : UInt64) (t1 t2 t3 : Tok) :
  Ctr w mean mg mb 28 2 news [.float h t1, .float l t2, .float s t3] (TupOut (hlsRgb h l s)) := by
  dsimp only [Ctr]
  (k_with "Cu1" => (k_dflt (refine' ctr_useF (v_c _ _ _ _ _ _ _ _ _ _ _) ?k1 ?k2 ?k3 ?k4 ?k5 ?kK ?kd ?ku ?_; (case k1 => k_asm); (case k2 => k_asm); (case k3 => k_asm); (case k4 => k_asm); (case k5 => k_asm); (case kK => exact rfl); (case kd => ktr_room); (case ku => ktr_units); intro t9 h9 tk9 F9 N9; (try dsimp only); (try k_fold))))
  (k_with "Cu2" => ((rename Fr _ _ _ _ => lF); (fail_if_success (have := mk_of lF (by assumption))); (with_reducible refine fold_m lF ?_); clear lF))
  w_top off
  k_fill
  intros; rename_i hret
  refine wpAny_call ?_
  k_dflt cell_enter
  k_steps
  all_goals first
    | exact hret _ [_] _ _ (by assumption) (by assumption) (lt_out (by assumption)) (tup_out (hls_1 (by assumption)))
    | exact hret _ [_] _ _ (by assumption) (by assumption) (lt_out (by assumption)) (tup_out (hls_2 (by assumption) (by assumption)))
    | exact hret _ [_] _ _ (by assumption) (by assumption) (lt_out (by assumption)) (tup_out (hls_3 (by assumption) (by assumption)))
end Mine
end
section
open PySem PySem.W PyProof.Rows
set_option Elab.async false
set_option maxRecDepth 100000
namespace Mine
/-! hsv_to_rgb -/
def hsvN (h : UInt64) : Int := Flt.toInt Float64.truncOf (Float64.mul h 4618441417868443648)
def hsvF (h : UInt64) : UInt64 := Float64.sub (Float64.mul h 4618441417868443648) (Float64.ofInt (hsvN h))
def hsvP (s v : UInt64) : UInt64 := Float64.mul v (Float64.sub 4607182418800017408 s)
def hsvQ (h s v : UInt64) : UInt64 := Float64.mul v (Float64.sub 4607182418800017408 (Float64.mul s (hsvF h)))
def hsvT (h s v : UInt64) : UInt64 := Float64.mul v (Float64.sub 4607182418800017408 (Float64.mul s (Float64.sub 4607182418800017408 (hsvF h))))
def hsvRgb (h s v : UInt64) : UInt64 × UInt64 × UInt64 :=
  if feq s 0 then (v, v, v)
  else if (hsvN h).fmod 6 = 0 then (v, hsvT h s v, hsvP s v)
  else if (hsvN h).fmod 6 = 1 then (hsvQ h s v, v, hsvP s v)
  else if (hsvN h).fmod 6 = 2 then (hsvP s v, v, hsvT h s v)
  else if (hsvN h).fmod 6 = 3 then (hsvP s v, hsvQ h s v, v)
  else if (hsvN h).fmod 6 = 4 then (hsvT h s v, hsvP s v, v)
  else (v, hsvP s v, hsvQ h s v)
section
variable {h s v : UInt64}
theorem hsv_0 (h1 : (Float64.cmp s 0 == some Ordering.eq) = true) : (v, v, v) = hsvRgb h s v := by
  unfold hsvRgb feq; rw [if_pos h1]
theorem hsv_w {n : Int} (hn : Flt.toInt Float64.truncOf (Float64.mul h 4618441417868443648) = n) (h1 : (Float64.cmp s 0 == some Ordering.eq) = false) (p : UInt64 × UInt64 × UInt64)
   (hp : p = if n.fmod 6 = 0 then (v, hsvT h s v, hsvP s v)
  else if n.fmod 6 = 1 then (hsvQ h s v, v, hsvP s v)
  else if n.fmod 6 = 2 then (hsvP s v, v, hsvT h s v)
  else if n.fmod 6 = 3 then (hsvP s v, hsvQ h s v, v)
  else if n.fmod 6 = 4 then (hsvT h s v, hsvP s v, v)
  else (v, hsvP s v, hsvQ h s v)) : p = hsvRgb h s v := by
  unfold hsvRgb feq hsvN; rw [if_neg (by rw [h1]; decide), hn, hp]
theorem fmod6 (n : Int) (h0 : n.fmod 6 ≠ 0) (h1 : n.fmod 6 ≠ 1) (h2 : n.fmod 6 ≠ 2) (h3 : n.fmod 6 ≠ 3) (h4 : n.fmod 6 ≠ 4) : n.fmod 6 = 5 := by
  have e : n.fmod 6 = n % 6 := Int.fmod_eq_emod_of_nonneg _ (by decide)
  rw [e] at h0 h1 h2 h3 h4 ⊢; omega
end
theorem hsv_nan {x : UInt64} (h : Float64.isFinite x = true) (h2 : Float64.isNaN x = true) : False := by
  rw [Fn_nan (Fn_finite.mp h)] at h2; cases h2
theorem hsv_inf {x : UInt64} (h : Float64.isFinite x = true) (h2 : Float64.isInf x = true) : False := by
  rw [Fn_inf (Fn_finite.mp h)] at h2; cases h2
theorem big_over {n : Int} (h : n.natAbs ≤ 8192) (h2 : 2 ^ 1024 - 2 ^ 970 ≤ n.natAbs) : False := by
  have h3 : 2 ^ 1024 - 2 ^ 970 ≤ 8192 := Nat.le_trans h2 h
  exact absurd h3 (by decide +kernel)
local macro_rules | `(tactic| walk_at "execs cons") => `(tactic| (k_here; k_extra "Cv1"; intro m9 F9 M9; (try dsimp only)))
local macro_rules | `(tactic| walk_at "execs cons") => `(tactic| (k_here; (with_reducible refine gen_toks0 ?_); intro tk8))
set_option maxHeartbeats 8000000 in
theorem hsv_c (w : World) (mean : ExcName → Option Value) (mg mb : Str → Option Value) (news : List (Addr × Obj)) (h s v : UInt64) (t1 t2 t3 : Tok)
  (hfin : Float64.isFinite (Float64.mul h 4618441417868443648) = true) (hsm : (hsvN h).natAbs ≤ 8192) :
  Ctr w mean mg mb 49 1 news [.float h t1, .float s t2, .float v t3] (TupOut (hsvRgb h s v)) := by
  dsimp only [Ctr]
  (k_with "Cv1" => ((rename Fr _ _ _ _ => lF); (fail_if_success (have := mk_of lF (by assumption))); (with_reducible refine fold_m lF ?_); clear lF))
  w_top off
  k_fill
  intros; rename_i hret
  refine wpAny_call ?_
  k_dflt cell_enter
  k_steps
  all_goals first
    | exact hret _ [_] _ _ (by assumption) (by assumption) (lt_out (by assumption)) (tup_out (hsv_0 (by assumption)))
    | (exfalso; exact hsv_nan hfin (by assumption))
    | (exfalso; exact hsv_inf hfin (by assumption))
    | (exfalso; exact big_over hsm (by assumption))
    | exact hret _ [_] _ _ (by assumption) (by assumption) (lt_out (by assumption)) (tup_out (hsv_w rfl (by assumption) _ (by rw [if_pos (by assumption)]; rfl)))
    | exact hret _ [_] _ _ (by assumption) (by assumption) (lt_out (by assumption)) (tup_out (hsv_w rfl (by assumption) _ (by rw [if_neg (by assumption), if_pos (by assumption)]; rfl)))
    | exact hret _ [_] _ _ (by assumption) (by assumption) (lt_out (by assumption)) (tup_out (hsv_w rfl (by assumption) _ (by rw [if_neg (by assumption), if_neg (by assumption), if_pos (by assumption)]; rfl)))
    | exact hret _ [_] _ _ (by assumption) (by assumption) (lt_out (by assumption)) (tup_out (hsv_w rfl (by assumption) _ (by rw [if_neg (by assumption), if_neg (by assumption), if_neg (by assumption), if_pos (by assumption)]; rfl)))
    | exact hret _ [_] _ _ (by assumption) (by assumption) (lt_out (by assumption)) (tup_out (hsv_w rfl (by assumption) _ (by rw [if_neg (by assumption), if_neg (by assumption), if_neg (by assumption), if_neg (by assumption), if_pos (by assumption)]; rfl)))
    | exact hret _ [_] _ _ (by assumption) (by assumption) (lt_out (by assumption)) (tup_out (hsv_w rfl (by assumption) _ (by rw [if_neg (by assumption), if_neg (by assumption), if_neg (by assumption), if_neg (by assumption), if_neg (by assumption)]; rfl)))
    | (exfalso; exact absurd (fmod6 _ (by assumption) (by assumption) (by assumption) (by assumption) (by assumption)) (by assumption))
end Mine
end
section
open PySem PySem.W PyProof.Rows
set_option Elab.async false
set_option maxRecDepth 100000
namespace Mine
/-! rgb_to_hsv, rgb_to_hls -/
def rgbD (r g b x : UInt64) : UInt64 := Float64.div (Float64.sub (fmax3 r g b) x) (Float64.sub (fmax3 r g b) (fmin3 r g b))
def rgbX (r g b : UInt64) : UInt64 :=
  if feq r (fmax3 r g b) then Float64.sub (rgbD r g b b) (rgbD r g b g)
  else if feq g (fmax3 r g b) then Float64.sub (Float64.add 4611686018427387904 (rgbD r g b r)) (rgbD r g b b)
  else Float64.sub (Float64.add 4616189618054758400 (rgbD r g b g)) (rgbD r g b r)
def rgbH (r g b : UInt64) : UInt64 := mod1 (Float64.div (rgbX r g b) 4618441417868443648)
def rgbHsv (r g b : UInt64) : UInt64 × UInt64 × UInt64 :=
  if feq (fmin3 r g b) (fmax3 r g b) then (0, 0, fmax3 r g b) else (rgbH r g b, Float64.div (Float64.sub (fmax3 r g b) (fmin3 r g b)) (fmax3 r g b), fmax3 r g b)
def hlsL (r g b : UInt64) : UInt64 := Float64.div (Float64.add (fmax3 r g b) (fmin3 r g b)) 4611686018427387904
def hlsS (r g b : UInt64) : UInt64 :=
  if fle (hlsL r g b) 4602678819172646912 then Float64.div (Float64.sub (fmax3 r g b) (fmin3 r g b)) (Float64.add (fmax3 r g b) (fmin3 r g b))
  else Float64.div (Float64.sub (fmax3 r g b) (fmin3 r g b)) (Float64.sub (Float64.sub 4611686018427387904 (fmax3 r g b)) (fmin3 r g b))
def rgbHls (r g b : UInt64) : UInt64 × UInt64 × UInt64 :=
  if feq (fmin3 r g b) (fmax3 r g b) then (0, hlsL r g b, 0) else (rgbH r g b, hlsL r g b, hlsS r g b)

section
variable {r g b : UInt64}
theorem rgbX_1 (h : (Float64.cmp r (fmax3 r g b) == some Ordering.eq) = true) : Float64.sub (rgbD r g b b) (rgbD r g b g) = rgbX r g b := by
  unfold rgbX feq; rw [if_pos h]
theorem rgbX_2 (h : (Float64.cmp r (fmax3 r g b) == some Ordering.eq) = false) (h2 : (Float64.cmp g (fmax3 r g b) == some Ordering.eq) = true) : Float64.sub (Float64.add 4611686018427387904 (rgbD r g b r)) (rgbD r g b b) = rgbX r g b := by
  unfold rgbX feq; rw [if_neg (by rw [h]; decide), if_pos h2]
theorem rgbX_3 (h : (Float64.cmp r (fmax3 r g b) == some Ordering.eq) = false) (h2 : (Float64.cmp g (fmax3 r g b) == some Ordering.eq) = false) : Float64.sub (Float64.add 4616189618054758400 (rgbD r g b g)) (rgbD r g b r) = rgbX r g b := by
  unfold rgbX feq; rw [if_neg (by rw [h]; decide), if_neg (by rw [h2]; decide)]
theorem hlsS_1 (h : (Float64.cmp (Float64.div (Float64.add (fmax3 r g b) (fmin3 r g b)) 4611686018427387904) 4602678819172646912 == some Ordering.lt || Float64.cmp (Float64.div (Float64.add (fmax3 r g b) (fmin3 r g b)) 4611686018427387904) 4602678819172646912 == some Ordering.eq) = true) :
    Float64.div (Float64.sub (fmax3 r g b) (fmin3 r g b)) (Float64.add (fmax3 r g b) (fmin3 r g b)) = hlsS r g b := by
  unfold hlsS fle hlsL; rw [if_pos h]
theorem hlsS_2 (h : (Float64.cmp (Float64.div (Float64.add (fmax3 r g b) (fmin3 r g b)) 4611686018427387904) 4602678819172646912 == some Ordering.lt || Float64.cmp (Float64.div (Float64.add (fmax3 r g b) (fmin3 r g b)) 4611686018427387904) 4602678819172646912 == some Ordering.eq) = false) :
    Float64.div (Float64.sub (fmax3 r g b) (fmin3 r g b)) (Float64.sub (Float64.sub 4611686018427387904 (fmax3 r g b)) (fmin3 r g b)) = hlsS r g b := by
  unfold hlsS fle hlsL; rw [if_neg (by rw [h]; decide)]
theorem rgbHsv_0 (h : (Float64.cmp (fmin3 r g b) (fmax3 r g b) == some Ordering.eq) = true) : (0, 0, fmax3 r g b) = rgbHsv r g b := by
  unfold rgbHsv feq; rw [if_pos h]
theorem rgbHsv_1 {x : UInt64} (h : (Float64.cmp (fmin3 r g b) (fmax3 r g b) == some Ordering.eq) = false) (hx : x = rgbX r g b) : ((Float64.divmod (Float64.div x 4618441417868443648) 4607182418800017408).snd, Float64.div (Float64.sub (fmax3 r g b) (fmin3 r g b)) (fmax3 r g b), fmax3 r g b) = rgbHsv r g b := by
  unfold rgbHsv feq; rw [if_neg (by rw [h]; decide), hx]; rfl
theorem rgbHls_0 (h : (Float64.cmp (fmin3 r g b) (fmax3 r g b) == some Ordering.eq) = true) : (0, Float64.div (Float64.add (fmax3 r g b) (fmin3 r g b)) 4611686018427387904, 0) = rgbHls r g b := by
  unfold rgbHls feq; rw [if_pos h]; rfl
theorem rgbHls_1 {x s : UInt64} (h : (Float64.cmp (fmin3 r g b) (fmax3 r g b) == some Ordering.eq) = false) (hx : x = rgbX r g b) (hs : s = hlsS r g b) : ((Float64.divmod (Float64.div x 4618441417868443648) 4607182418800017408).snd, Float64.div (Float64.add (fmax3 r g b) (fmin3 r g b)) 4611686018427387904, s) = rgbHls r g b := by
  unfold rgbHls feq; rw [if_neg (by rw [h]; decide), hx, hs]; rfl
end
theorem zero_no {x : UInt64} (h : Float64.isZero x = true) (h2 : Float64.isZero x = false) : False := by rw [h] at h2; cases h2

local macro_rules | `(tactic| walk_at "call builtin:max") => `(tactic| ((with_reducible show wpAny _ _ (call _ [Value.float _ _, Value.float _ _, Value.float _ _]) _ _ _); k_extra "Cw1"; intro _ _ _ _ _))
local macro_rules | `(tactic| walk_at "call builtin:min") => `(tactic| ((with_reducible show wpAny _ _ (call _ [Value.float _ _, Value.float _ _, Value.float _ _]) _ _ _); k_extra "Cw2"; intro _ _ _ _ _))
local macro_rules | `(tactic| walk_at "execs cons") => `(tactic| (k_here; k_extra "Cw3"; intro m9 F9 M9; (try dsimp only)))
local macro_rules | `(tactic| walk_at "execs cons") => `(tactic| (k_here; (with_reducible refine gen_toks0 ?_); intro tk8))
local macro_rules | `(tactic| walk_at "exec If") => `(tactic| (k_here; (first | with_reducible show wpAny _ _ (exec (Stmt.If (PySem.Expr.Compare (PySem.Expr.Name (Str.ofString "l") _) _ _ _) _ _ _) _) _ _ _ | with_reducible show wpAny _ _ (exec (Stmt.If (PySem.Expr.Compare (PySem.Expr.Name (Str.ofString "r") _) _ _ _) _ _ _) _) _ _ _); (fail_if_success (with_reducible show wpAny _ _ _ (fun f _ => f = Flow.next ∧ _) _ _)); refine stop_of ?_))
set_option maxHeartbeats 8000000 in
theorem rgbHsv_c (w : World) (mean : ExcName → Option Value) (mg mb : Str → Option Value) (news : List (Addr × Obj)) (r g b : UInt64) (t1 t2 t3 : Tok)
  (hz1 : (Float64.cmp (fmin3 r g b) (fmax3 r g b) == some Ordering.eq) = false → Float64.isZero (fmax3 r g b) = false)
  (hz2 : (Float64.cmp (fmin3 r g b) (fmax3 r g b) == some Ordering.eq) = false → Float64.isZero (Float64.sub (fmax3 r g b) (fmin3 r g b)) = false) :
  Ctr w mean mg mb 42 1 news [.float r t1, .float g t2, .float b t3] (TupOut (rgbHsv r g b)) := by
  dsimp only [Ctr]
  (k_with "Cw1" => ((rename News _ _ _ _ => N'); (rename Fr _ _ _ _ => F'); refine max_three_ff rfl F' N' ?_; clear N'))
  (k_with "Cw2" => ((rename News _ _ _ _ => N'); (rename Fr _ _ _ _ => F'); refine min_three_ff rfl F' N' ?_; clear N'))
  (k_with "Cw3" => ((rename Fr _ _ _ _ => lF); (fail_if_success (have := mk_of lF (by assumption))); (with_reducible refine fold_m lF ?_); clear lF))
  w_top off
  k_fill
  intros; rename_i hret
  refine wpAny_call ?_
  k_dflt cell_enter
  cases hc : (Float64.cmp (fmin3 r g b) (fmax3 r g b) == some Ordering.eq)
  · replace hz1 := hz1 hc
    replace hz2 := hz2 hc
    k_steps
    unfold Stop
    k_dflt (refine' if_float (name := Str.ofString "h") (x := rgbX r g b) ?F ?N ?_ ?_)
    (case F => k_asm)
    (case N => k_asm)
    · k_steps
      · exact join_out (rgbX_1 (by assumption)) (by k_asm) (by k_asm)
      · exact join_out (rgbX_2 (by assumption) (by assumption)) (by k_asm) (by k_asm)
      · exact join_out (rgbX_3 (by assumption) (by assumption)) (by k_asm) (by k_asm)
    intro h8 tk8 t8 F8 N8
    k_steps
    exact hret _ [_] _ _ (by assumption) (by assumption) (lt_out (by assumption)) (tup_out (rgbHsv_1 (by assumption) rfl))
  · k_steps
    exact hret _ [_] _ _ (by assumption) (by assumption) (lt_out (by assumption)) (tup_out (rgbHsv_0 (by assumption)))
set_option maxHeartbeats 8000000 in
theorem rgbHls_c (w : World) (mean : ExcName → Option Value) (mg mb : Str → Option Value) (news : List (Addr × Obj)) (r g b : UInt64) (t1 t2 t3 : Tok)
  (hz1 : (Float64.cmp (fmin3 r g b) (fmax3 r g b) == some Ordering.eq) = false → Float64.isZero (Float64.add (fmax3 r g b) (fmin3 r g b)) = false)
  (hz2 : (Float64.cmp (fmin3 r g b) (fmax3 r g b) == some Ordering.eq) = false → Float64.isZero (Float64.sub (fmax3 r g b) (fmin3 r g b)) = false)
  (hz3 : (Float64.cmp (fmin3 r g b) (fmax3 r g b) == some Ordering.eq) = false → Float64.isZero (Float64.sub (Float64.sub 4611686018427387904 (fmax3 r g b)) (fmin3 r g b)) = false) :
  Ctr w mean mg mb 21 1 news [.float r t1, .float g t2, .float b t3] (TupOut (rgbHls r g b)) := by
  dsimp only [Ctr]
  (k_with "Cw1" => ((rename News _ _ _ _ => N'); (rename Fr _ _ _ _ => F'); refine max_three_ff rfl F' N' ?_; clear N'))
  (k_with "Cw2" => ((rename News _ _ _ _ => N'); (rename Fr _ _ _ _ => F'); refine min_three_ff rfl F' N' ?_; clear N'))
  (k_with "Cw3" => ((rename Fr _ _ _ _ => lF); (fail_if_success (have := mk_of lF (by assumption))); (with_reducible refine fold_m lF ?_); clear lF))
  w_top off
  k_fill
  intros; rename_i hret
  refine wpAny_call ?_
  k_dflt cell_enter
  cases hc : (Float64.cmp (fmin3 r g b) (fmax3 r g b) == some Ordering.eq)
  · replace hz1 := hz1 hc
    replace hz2 := hz2 hc
    replace hz3 := hz3 hc
    k_steps
    unfold Stop
    k_dflt (refine' if_float (name := Str.ofString "s") (x := hlsS r g b) ?F ?N ?_ ?_)
    (case F => k_asm)
    (case N => k_asm)
    · k_steps
      · exact join_out (hlsS_1 (by assumption)) (by k_asm) (by k_asm)
      · exact join_out (hlsS_2 (by assumption)) (by k_asm) (by k_asm)
    intro h8 tk8 t8 F8 N8
    k_steps
    unfold Stop
    k_dflt (refine' if_float (name := Str.ofString "h") (x := rgbX r g b) ?F ?N ?_ ?_)
    (case F => k_asm)
    (case N => k_asm)
    · k_steps
      · exact join_out (rgbX_1 (by assumption)) (by k_asm) (by k_asm)
      · exact join_out (rgbX_2 (by assumption) (by assumption)) (by k_asm) (by k_asm)
      · exact join_out (rgbX_3 (by assumption) (by assumption)) (by k_asm) (by k_asm)
    intro h8 tk8 t8 F8 N8
    k_steps
    exact hret _ [_] _ _ (by assumption) (by assumption) (lt_out (by assumption)) (tup_out (rgbHls_1 (by assumption) rfl rfl))
  · k_steps
    exact hret _ [_] _ _ (by assumption) (by assumption) (lt_out (by assumption)) (tup_out (rgbHls_0 (by assumption)))
end Mine
end
section
open PySem PySem.W PyProof.Rows
set_option Elab.async false
set_option maxRecDepth 100000
namespace Mine
def ValOut (v : Value) (v' : Value) (tl : List (Addr × Obj)) : Prop := v' = v ∧ tl = []
local macro_rules | `(tactic| walk_at "subscriptTail Name Name ref int") => `(tactic| (k_here; (with_reducible show wpAny _ _ (subscriptTail _ _ (Value.ref _) (Value.int _ _)) _ _ _); k_extra "Cy1"))
set_option maxHeartbeats 8000000 in
theorem getitem_c (w : World) (mean : ExcName → Option Value) (mg mb : Str → Option Value) (news : List (Addr × Obj)) (l : Addr) (vs : List Value) (n : Nat) (i : Int) (t : Tok) (v : Value)
  (hm : (l, W.listOf vs.toArray n) ∈ news) (h0 : 0 ≤ i) (h1 : i < 2 ^ 63) (hx : vs[i.toNat]? = some v) :
  Ctr w mean mg mb 119 1 news [.ref l, .int i t] (ValOut v) := by
  dsimp only [Ctr]
  (k_with "Cy1" => ((with_unfolding_all refine' item_litK ?k1 ?k2 ?k3 ?k4 ?_ ?k6; (case k1 => exact ⟨_, News.get (by assumption) (by assumption), rfl, _, rfl⟩); (case k2 => assumption); (case k3 => assumption); (case k4 => assumption); (case k6 => with_unfolding_all rfl); k_whole)))
  w_top off
  k_fill
  intros; rename_i hret
  refine wpAny_call ?_
  k_dflt cell_enter
  k_steps
  all_goals exact hret _ [] _ _ (by assumption) (by assumption) (fun _ _ _ h => nomatch h) ⟨rfl, rfl⟩

def Ord (i x y z : Int) : Prop := (i = 0 ∧ x = 0 ∧ y = 1 ∧ z = 2) ∨ (i = 1 ∧ x = 1 ∧ y = 0 ∧ z = 2) ∨ (i = 2 ∧ x = 1 ∧ y = 2 ∧ z = 0) ∨ (i = 3 ∧ x = 2 ∧ y = 1 ∧ z = 0) ∨ (i = 4 ∧ x = 2 ∧ y = 0 ∧ z = 1) ∨ (i = 5 ∧ x = 0 ∧ y = 2 ∧ z = 1)
theorem fmod6_cases (n : Int) : n.fmod 6 = 0 ∨ n.fmod 6 = 1 ∨ n.fmod 6 = 2 ∨ n.fmod 6 = 3 ∨ n.fmod 6 = 4 ∨ n.fmod 6 = 5 := by
  have e : n.fmod 6 = n % 6 := Int.fmod_eq_emod_of_nonneg _ (by decide)
  rw [e]; omega
section
variable {w : World} {mean : ExcName → Option Value} {mg mb : Str → Option Value} {rest : List (Addr × Obj)} {dp un : Nat} {gd : Option (List Code)} {cn : Str} {cs : Scope} {a : Addr} {ccd : Value} {cl : List (Str × Addr)} {outer : List Env} {A₀ : Around} {base h₀ : Heap} {L : Addr} {m : Str → Option Value} {s : Shared} {Q E : Value → Shared → Prop}
theorem getitem_one {f : Addr} {news : List (Addr × Obj)} {vs : List Value} {v : Value} (C : Ctr w mean mg mb f 1 news vs (ValOut v)) (B : Below A₀ base outer h₀) (F : Fr h₀ L s.heap m) (X : (Mine.hd.heap_39 w.params).In h₀) (N : News h₀ L s.heap news)
    (T : Top Mine.hd.view_39 (looseW Mine.hd.view_39 [Str.ofString "ONE_THIRD", Str.ofString "ONE_SIXTH", Str.ofString "TWO_THIRD"]) mean mg mb h₀) (hk : cs.kind = .function) (hd : dp + 1 < recursionLimit) (hu : un + 208 < cLine)
    (ret : ∀ h' tk', Fr h₀ L h' m → News h₀ L h' news → Q v { s with heap := h', toks := tk' }) :
    wpAny (model Challenge.rw_pe0115_01.row.prog w) (ktrTop dp un gd cn cs L a ccd cl outer) (call (.ref f) vs) Q E s :=
  C _ _ _ _ _ _ _ _ _ _ _ _ _ _ _ _ _ B F X N T hk hd hu fun v tl h' tk' F' N' hl ho => by
    obtain ⟨rfl, rfl⟩ := ho
    exact ret h' tk' F' N'
theorem getitem_use {l d0 d1 d2 d3 d4 d5 : Addr} {u0 v0 w0 u1 v1 w1 u2 v2 w2 u3 v3 w3 u4 v4 w4 u5 v5 w5 t : Tok} {n : Int}
    (B : Below A₀ base outer h₀) (F : Fr h₀ L s.heap m) (X : (Mine.hd.heap_39 w.params).In h₀)
    (N : News h₀ L s.heap ((l, W.listOf #[.ref d0, .ref d1, .ref d2, .ref d3, .ref d4, .ref d5] 0) ::
      (d5, { cls := .type "tuple", data := .seq #[.int 0 u5, .int 2 v5, .int 1 w5] }) :: (d4, { cls := .type "tuple", data := .seq #[.int 2 u4, .int 0 v4, .int 1 w4] }) ::
      (d3, { cls := .type "tuple", data := .seq #[.int 2 u3, .int 1 v3, .int 0 w3] }) :: (d2, { cls := .type "tuple", data := .seq #[.int 1 u2, .int 2 v2, .int 0 w2] }) ::
      (d1, { cls := .type "tuple", data := .seq #[.int 1 u1, .int 0 v1, .int 2 w1] }) :: (d0, { cls := .type "tuple", data := .seq #[.int 0 u0, .int 1 v0, .int 2 w0] }) :: rest))
    (T : Top Mine.hd.view_39 (looseW Mine.hd.view_39 [Str.ofString "ONE_THIRD", Str.ofString "ONE_SIXTH", Str.ofString "TWO_THIRD"]) mean mg mb h₀) (hk : cs.kind = .function) (hd : dp + 1 < recursionLimit) (hu : un + 208 < cLine)
    (ret : ∀ r x y z tx ty tz h' tk', Ord (n.fmod 6) x y z → Fr h₀ L h' m → News h₀ L h' ((r, { cls := .type "tuple", data := .seq #[.int x tx, .int y ty, .int z tz] }) :: rest) → Q (.ref r) { s with heap := h', toks := tk' }) :
    wpAny (model Challenge.rw_pe0115_01.row.prog w) (ktrTop dp un gd cn cs L a ccd cl outer) (call (.ref 119) [.ref l, .int (n.fmod 6) t]) Q E s := by
  rcases fmod6_cases n with e | e | e | e | e | e <;> rw [e] at ret ⊢
  · refine getitem_one (getitem_c w mean mg mb _ l _ 0 _ t (.ref d0) (.head _) (by decide) (by decide) rfl) B F X N T hk hd hu fun h' tk' F' N' => ret d0 0 1 2 u0 v0 w0 h' tk' (.inl ⟨rfl, rfl, rfl, rfl⟩) F' fun p hp => N' p ?_
    exact .tail _ (.tail _ (.tail _ (.tail _ (.tail _ (.tail _ hp)))))
  · refine getitem_one (getitem_c w mean mg mb _ l _ 0 _ t (.ref d1) (.head _) (by decide) (by decide) rfl) B F X N T hk hd hu fun h' tk' F' N' => ret d1 1 0 2 u1 v1 w1 h' tk' (.inr (.inl ⟨rfl, rfl, rfl, rfl⟩)) F' fun p hp => N' p ?_
    rcases List.mem_cons.mp hp with rfl | hp
    · exact .tail _ (.tail _ (.tail _ (.tail _ (.tail _ (.head _)))))
    · exact .tail _ (.tail _ (.tail _ (.tail _ (.tail _ (.tail _ (.tail _ hp))))))
  · refine getitem_one (getitem_c w mean mg mb _ l _ 0 _ t (.ref d2) (.head _) (by decide) (by decide) rfl) B F X N T hk hd hu fun h' tk' F' N' => ret d2 1 2 0 u2 v2 w2 h' tk' (.inr (.inr (.inl ⟨rfl, rfl, rfl, rfl⟩))) F' fun p hp => N' p ?_
    rcases List.mem_cons.mp hp with rfl | hp
    · exact .tail _ (.tail _ (.tail _ (.tail _ (.head _))))
    · exact .tail _ (.tail _ (.tail _ (.tail _ (.tail _ (.tail _ (.tail _ hp))))))
  · refine getitem_one (getitem_c w mean mg mb _ l _ 0 _ t (.ref d3) (.head _) (by decide) (by decide) rfl) B F X N T hk hd hu fun h' tk' F' N' => ret d3 2 1 0 u3 v3 w3 h' tk' (.inr (.inr (.inr (.inl ⟨rfl, rfl, rfl, rfl⟩)))) F' fun p hp => N' p ?_
    rcases List.mem_cons.mp hp with rfl | hp
    · exact .tail _ (.tail _ (.tail _ (.head _)))
    · exact .tail _ (.tail _ (.tail _ (.tail _ (.tail _ (.tail _ (.tail _ hp))))))
  · refine getitem_one (getitem_c w mean mg mb _ l _ 0 _ t (.ref d4) (.head _) (by decide) (by decide) rfl) B F X N T hk hd hu fun h' tk' F' N' => ret d4 2 0 1 u4 v4 w4 h' tk' (.inr (.inr (.inr (.inr (.inl ⟨rfl, rfl, rfl, rfl⟩))))) F' fun p hp => N' p ?_
    rcases List.mem_cons.mp hp with rfl | hp
    · exact .tail _ (.tail _ (.head _))
    · exact .tail _ (.tail _ (.tail _ (.tail _ (.tail _ (.tail _ (.tail _ hp))))))
  · refine getitem_one (getitem_c w mean mg mb _ l _ 0 _ t (.ref d5) (.head _) (by decide) (by decide) rfl) B F X N T hk hd hu fun h' tk' F' N' => ret d5 0 2 1 u5 v5 w5 h' tk' (.inr (.inr (.inr (.inr (.inr ⟨rfl, rfl, rfl, rfl⟩))))) F' fun p hp => N' p ?_
    rcases List.mem_cons.mp hp with rfl | hp
    · exact .tail _ (.head _)
    · exact .tail _ (.tail _ (.tail _ (.tail _ (.tail _ (.tail _ (.tail _ hp))))))
end
end Mine
end
section
open PySem PySem.W PyProof.Rows PySem.Spec PySem.Calls
set_option Elab.async false
namespace Mine
/-! a list comprehension over a tuple of three, its elements leaving the heap as it is -/
def RInt (n : Int) (y : Value) : Prop := ∃ t, y = .int n t
def EltAt (prog : Program) (w : World) (A : Around) (h₀ : Heap) (L : Addr) (m : Str → Option Value) (env : Env) (elt : PySem.Expr) (x : Str) (scope : Scope) (cl : List (Str × Addr)) (s : Shared) (news : List (Addr × Obj)) (v : Value) (n : Int) : Prop :=
  ∀ C oC m₂ h tk (E' : Value → Shared → Prop), LCg.NsObj oC m₂ → m₂ x = some v → Fr h₀ L h m → News h₀ L h ((C, oC) :: news) →
    wpAny (model prog w) A (eval elt (compEnvC scope cl C env)) (fun y s₂ => RInt n y ∧ ∃ tk', s₂ = { s with heap := h, toks := tk' }) E' { s with heap := h, toks := tk }
def TSrc (prog : Program) (w : World) (A : Around) (h₀ : Heap) (L : Addr) (m : Str → Option Value) (env : Env) (elt : PySem.Expr) (x : Str) (scope : Scope) (cl : List (Str × Addr)) (Fin : Shared → List Value → List (Addr × Obj) → Prop) (xv : Value) (s₁ : Shared) : Prop :=
  ∃ ax v1 v2 v3 n1 n2 n3 news, xv = .ref ax ∧ A.handled = none ∧ Fr h₀ L s₁.heap m ∧ News h₀ L s₁.heap news ∧ (ax, ({ cls := .type "tuple", data := .seq #[v1, v2, v3] } : Obj)) ∈ news ∧
    EltAt prog w A h₀ L m env elt x scope cl s₁ news v1 n1 ∧ EltAt prog w A h₀ L m env elt x scope cl s₁ news v2 n2 ∧ EltAt prog w A h₀ L m env elt x scope cl s₁ news v3 n3 ∧
    ∀ g t1 t2 t3, Fin { s₁ with heap := g } [.int n1 t1, .int n2 t2, .int n3 t3] news
section
variable {prog : Program} {w : World} {A : Around} {E : Value → Shared → Prop} {s : Shared} {h₀ : Heap} {L : Addr} {m : Str → Option Value} {env : Env}
theorem tup_rest {elt : PySem.Expr} {x : Str} {scope : Scope} {cl : List (Str × Addr)} {news : List (Addr × Obj)} {ax : Addr} {v1 v2 v3 : Value} {n1 n2 n3 : Int} {g : Heap} {Fin : Shared → List Value → List (Addr × Obj) → Prop}
    (hm : (ax, ({ cls := .type "tuple", data := .seq #[v1, v2, v3] } : Obj)) ∈ news)
    (e1 : EltAt prog w A h₀ L m env elt x scope cl s news v1 n1) (e2 : EltAt prog w A h₀ L m env elt x scope cl s news v2 n2) (e3 : EltAt prog w A h₀ L m env elt x scope cl s news v3 n3)
    (fin : ∀ g t1 t2 t3, Fin { s with heap := g } [.int n1 t1, .int n2 t2, .int n3 t3] news) :
    LCg.CompRest prog w A h₀ L m env elt x scope cl { s with heap := g } (fun nw => (ax, ({ cls := .type "tuple", data := .seq #[v1, v2, v3] } : Obj)) ∈ nw) (fun i v => (#[v1, v2, v3] : Array Value)[i]? = some v) (Fin { s with heap := g }) 3 0 [] news := by
  refine LCg.CompRest.succ fun v I oI C oC D m₂ h tk E' hv hC hx F N off ne => ?_
  have hv' : v1 = v := Option.some.inj hv
  subst hv'
  refine wpAny_mono (e1 C oC m₂ h tk E' hC hx F (fun p hp => N p (.tail _ ((List.mem_cons.mp hp).elim (fun q => q ▸ .head _) fun q => .tail _ (.tail _ q))))) (fun y s₂ q => ?_) fun _ _ e => e
  obtain ⟨⟨t1, rfl⟩, tk1, rfl⟩ := q
  refine LCg.CompEnd.intro F N news (fun p hp => hp) off hm ?_
  refine LCg.CompRest.succ fun v I oI C oC D m₂ h tk E' hv hC hx F N off ne => ?_
  have hv' : v2 = v := Option.some.inj hv
  subst hv'
  refine wpAny_mono (e2 C oC m₂ h tk E' hC hx F (fun p hp => N p (.tail _ ((List.mem_cons.mp hp).elim (fun q => q ▸ .head _) fun q => .tail _ (.tail _ q))))) (fun y s₂ q => ?_) fun _ _ e => e
  obtain ⟨⟨t2, rfl⟩, tk2, rfl⟩ := q
  refine LCg.CompEnd.intro F N news (fun p hp => hp) off hm ?_
  refine LCg.CompRest.succ fun v I oI C oC D m₂ h tk E' hv hC hx F N off ne => ?_
  have hv' : v3 = v := Option.some.inj hv
  subst hv'
  refine wpAny_mono (e3 C oC m₂ h tk E' hC hx F (fun p hp => N p (.tail _ ((List.mem_cons.mp hp).elim (fun q => q ▸ .head _) fun q => .tail _ (.tail _ q))))) (fun y s₂ q => ?_) fun _ _ e => e
  obtain ⟨⟨t3, rfl⟩, tk3, rfl⟩ := q
  refine LCg.CompEnd.intro F N news (fun p hp => hp) off hm ?_
  exact LCg.CompRest.zero (fin g t1 t2 t3)

theorem tup_st {ax I : Addr} {its : Array Value} : ∀ i (h h' : Heap) (o : Obj) (nw : List (Addr × Obj)), (h.IsTupleIter I ax i ∧ h.IsTuple ax its) → h.get? I = some o → h'.get? I = some o → (∀ b o, h₀.get? b = some o → h'.get? b = some o) → News h₀ L h' nw → (ax, ({ cls := .type "tuple", data := .seq its } : Obj)) ∈ nw → (h'.IsTupleIter I ax i ∧ h'.IsTuple ax its) :=
  fun _ _ _ o _ st e e' _ N S => ⟨by obtain ⟨o', q, r⟩ := st.1; rw [e] at q; cases q; exact ⟨o, e', r⟩, ⟨_, (N _ S).1, rfl, _, rfl⟩⟩

theorem listcomp_tup {elt iter : PySem.Expr} {x : Str} {px : Pos} {scope : Scope} {cl : List (Str × Addr)} {pos : Pos} {Q : Value → Shared → Prop} (F₀ : Fr h₀ L s.heap m)
    (hclos : closureFor scope env = pure cl) (hcell : ∀ y ∈ scope.names, y.2 ≠ .cell) (hkind : scope.kind = .function)
    (hnames : ∀ y ∈ scope.names, y.2 = .local → scope.names.lookup y.1 = some .local) (hx : scope.names.lookup x = some .local)
    (h : wpAny (model prog w) A (eval iter env) (TSrc prog w A h₀ L m env elt x scope cl (fun s₂ => LCg.FinE h₀ L m s₂ Q)) E s)
    (hs : ∀ x, foldedSetIterable iter env x = pure x := by intro _; rfl) :
    wpAny (model prog w) A (eval (.ListComp elt [⟨.Name x px, iter, [], 0⟩] scope pos) env) Q E s := by
  rw [eval_ListComp]
  refine wpAny_comprehension_free (use := none) rfl hs hclos hkind hnames (wpAny_mono h (fun xv s₁ h₁ => ?_) fun _ _ e => e)
  obtain ⟨ax, v1, v2, v3, n1, n2, n3, news, rfl, hh, F, N, hm, e1, e2, e3, fin⟩ := h₁
  have hl : s₁.heap.IsTuple ax #[v1, v2, v3] := ⟨_, (N _ hm).1, rfl, _, rfl⟩
  have hlt : ax < s₁.heap.objs.size := Heap.lt_size (N _ hm).1
  refine wpAny_pyIter_tuple hl ?_
  have up : ∀ b o, s₁.heap.get? b = some o → (s₁.heap.push { cls := .type "tuple_iterator", data := .fields #[.ref ax, .int 0 0] }).get? b = some o := fun b o e => Heap.get?_push_of_some _ e
  refine LCg.block_U (S := fun nw => (ax, ({ cls := .type "tuple", data := .seq #[v1, v2, v3] } : Obj)) ∈ nw) (Walks.tuple hh s₁.heap.objs.size ax (Nat.ne_of_lt hlt) #[v1, v2, v3]) (by show 3 ≤ sizeLine; decide) (fun i h st => by obtain ⟨o, e, _⟩ := st.1; exact ⟨o, e⟩) tup_st hcell hkind hx ⟨⟨_, Heap.get?_push_size _ rfl, rfl, rfl⟩, hl.push _⟩ (fun b hb => ?_)
    (F.keeps up) (N.grown up) (Nat.ne_of_lt F.ns.lt) (next_is_new F) (fun p hp => Nat.ne_of_lt (Heap.lt_size (N p hp).1)) hm (tup_rest (Fin := fun s₂ => LCg.FinE h₀ L m s₂ Q) hm e1 e2 e3 fin) ?_
  · show b < (s₁.heap.push _).objs.size
    rw [Heap.size_push]
    rcases List.mem_cons.mp hb with rfl | hb
    · exact Nat.lt_succ_self _
    · rw [List.mem_singleton.mp hb]; exact Nat.lt_succ_of_lt hlt
  · intro D C h tk m' ys news' F' N' o1 hn hC₀ hD₀ hCL hDL hCD offC fin
    refine ⟨m', hn, fun h'' hs'' => fin D h'' tk (F'.change hs'' hCL hC₀) (fun p hp => ?_) o1⟩
    refine ⟨hs''.extBut _ _ ?_ (N' p hp).1, (N' p hp).2⟩
    rcases List.mem_cons.mp hp with rfl | hp
    · exact Ne.symm hCD
    · exact offC p hp

theorem assign_listcomp_tup {elt iter : PySem.Expr} {x y : Str} {px py : Pos} {scope : Scope} {cl : List (Str × Addr)} {pos spos : Pos} {Q : Flow → Shared → Prop} (F₀ : Fr h₀ L s.heap m) (hLe : env.locals = L)
    (hsw : swapsWith (.ListComp elt [⟨.Name x px, iter, [], 0⟩] scope pos) (some (.Name y py)) spos.line env = pure true)
    (hclos : closureFor scope env = pure cl) (hcell : ∀ z ∈ scope.names, z.2 ≠ .cell) (hkind : scope.kind = .function)
    (hnames : ∀ z ∈ scope.names, z.2 = .local → scope.names.lookup z.1 = some .local) (hx : scope.names.lookup x = some .local)
    (hy : env.kindOf y = some .local) (hp : (env.scope.kind == .class || (env.scope.kind == .module && env.locals != env.globals)) = false)
    (h : wpAny (model prog w) A (eval iter env) (TSrc prog w A h₀ L m env elt x scope cl (fun s₂ => LCg.FinA h₀ L m s₂ y Q)) E s)
    (hs : ∀ x, foldedSetIterable iter env x = pure x := by intro _; rfl) :
    wpAny (model prog w) A (exec (.Assign [.Name y py] (.ListComp elt [⟨.Name x px, iter, [], 0⟩] scope pos) spos) env) Q E s := by
  subst hLe
  rw [exec_Assign_Name_used _ _ _ _ hsw]
  refine wpAny_bind (wpAny_standAt (wpAny_bind ?_))
  show wpAny _ A (do let _ ← comprehension (.ListComp elt [⟨.Name x px, iter, [], 0⟩] scope pos) scope env _ (newList []) false (eval iter env) (some (assign (.Name y py) env))) _ _ s
  refine wpAny_bind (wpAny_mono (wpAny_comprehension_free (use := some (assign (.Name y py) env)) (Q := fun _ s' => Q .next s') rfl hs hclos hkind hnames
    (wpAny_mono h (fun xv s₁ h₁ => ?_) fun _ _ e => e)) (fun _ s' hq => wpAny_pure (wpAny_pure hq)) fun _ _ e => e)
  obtain ⟨ax, v1, v2, v3, n1, n2, n3, news, rfl, hh, F, N, hm, e1, e2, e3, fin⟩ := h₁
  have hl : s₁.heap.IsTuple ax #[v1, v2, v3] := ⟨_, (N _ hm).1, rfl, _, rfl⟩
  have hlt : ax < s₁.heap.objs.size := Heap.lt_size (N _ hm).1
  refine wpAny_pyIter_tuple hl ?_
  have up : ∀ b o, s₁.heap.get? b = some o → (s₁.heap.push { cls := .type "tuple_iterator", data := .fields #[.ref ax, .int 0 0] }).get? b = some o := fun b o e => Heap.get?_push_of_some _ e
  refine LCg.block_U (S := fun nw => (ax, ({ cls := .type "tuple", data := .seq #[v1, v2, v3] } : Obj)) ∈ nw) (Walks.tuple hh s₁.heap.objs.size ax (Nat.ne_of_lt hlt) #[v1, v2, v3]) (by show 3 ≤ sizeLine; decide) (fun i h st => by obtain ⟨o, e, _⟩ := st.1; exact ⟨o, e⟩) tup_st hcell hkind hx ⟨⟨_, Heap.get?_push_size _ rfl, rfl, rfl⟩, hl.push _⟩ (fun b hb => ?_)
    (F.keeps up) (N.grown up) (Nat.ne_of_lt F.ns.lt) (next_is_new F) (fun p hp => Nat.ne_of_lt (Heap.lt_size (N p hp).1)) hm (tup_rest (Fin := fun s₂ => LCg.FinA h₀ env.locals m s₂ y Q) hm e1 e2 e3 fin) ?_
  · show b < (s₁.heap.push _).objs.size
    rw [Heap.size_push]
    rcases List.mem_cons.mp hb with rfl | hb
    · exact Nat.lt_succ_self _
    · rw [List.mem_singleton.mp hb]; exact Nat.lt_succ_of_lt hlt
  · intro D C h' tk m' ys news' F' N' o1 hn hC₀ hD₀ hCL hDL hCD offC fin
    show wpAny _ A (assign (.Name y py) env (.ref D)) _ _ _
    refine wpAny_assign_Name (wpAny_storeName_local hy F'.ns (fun h₂ hn₂ hs₂ => ?_) hp)
    have hL₀ : h₀.get? env.locals = none := Heap.get?_none_of_le F'.above
    have F₂ : Fr h₀ env.locals h₂ (fun z => if z = y then some (.ref D) else m z) := ⟨hn₂, fun b o e => hs₂.extBut b o (fun q => by rw [q, hL₀] at e; cases e) (F'.keep b o e), F'.above⟩
    refine ⟨m', hn.sameBut hs₂ hCL, fun h'' hs'' => fin D h'' _ (F₂.change hs'' hCL hC₀) (fun p hp => ?_) o1⟩
    have z : h₂.get? p.1 = some p.2 := hs₂.extBut _ _ (N' p hp).2.1 (N' p hp).1
    refine ⟨hs''.extBut _ _ ?_ z, (N' p hp).2⟩
    rcases List.mem_cons.mp hp with rfl | hp
    · exact Ne.symm hCD
    · exact offC p hp

theorem TSrc.floats {elt : PySem.Expr} {x : Str} {scope : Scope} {cl : List (Str × Addr)} {Fin : Shared → List Value → List (Addr × Obj) → Prop} {ax : Addr} {x1 x2 x3 : UInt64} {t1 t2 t3 : Tok} {n1 n2 n3 : Int} {news : List (Addr × Obj)} {s₁ : Shared}
    (hh : A.handled = none) (F : Fr h₀ L s₁.heap m) (N : News h₀ L s₁.heap news) (hm : (ax, ({ cls := .type "tuple", data := .seq #[.float x1 t1, .float x2 t2, .float x3 t3] } : Obj)) ∈ news)
    (r1 : Flt.toInt Float64.nearestOf (Float64.mul (Float64.ofInt 4096) x1) = n1) (r2 : Flt.toInt Float64.nearestOf (Float64.mul (Float64.ofInt 4096) x2) = n2) (r3 : Flt.toInt Float64.nearestOf (Float64.mul (Float64.ofInt 4096) x3) = n3)
    (e1 : EltAt prog w A h₀ L m env elt x scope cl s₁ news (.float x1 t1) n1) (e2 : EltAt prog w A h₀ L m env elt x scope cl s₁ news (.float x2 t2) n2) (e3 : EltAt prog w A h₀ L m env elt x scope cl s₁ news (.float x3 t3) n3)
    (fin : ∀ g t1 t2 t3, Fin { s₁ with heap := g } [.int n1 t1, .int n2 t2, .int n3 t3] news) : TSrc prog w A h₀ L m env elt x scope cl Fin (.ref ax) s₁ :=
  ⟨ax, _, _, _, n1, n2, n3, news, rfl, hh, F, N, hm, e1, e2, e3, fin⟩
theorem TSrc.ints {elt : PySem.Expr} {x : Str} {scope : Scope} {cl : List (Str × Addr)} {Fin : Shared → List Value → List (Addr × Obj) → Prop} {ax : Addr} {x1 x2 x3 : Int} {t1 t2 t3 : Tok} (ns : List Int) {news : List (Addr × Obj)} {s₁ : Shared}
    (hh : A.handled = none) (F : Fr h₀ L s₁.heap m) (N : News h₀ L s₁.heap news) (hm : (ax, ({ cls := .type "tuple", data := .seq #[.int x1 t1, .int x2 t2, .int x3 t3] } : Obj)) ∈ news)
    (e1 : EltAt prog w A h₀ L m env elt x scope cl s₁ news (.int x1 t1) (ns.getD x1.toNat 0)) (e2 : EltAt prog w A h₀ L m env elt x scope cl s₁ news (.int x2 t2) (ns.getD x2.toNat 0)) (e3 : EltAt prog w A h₀ L m env elt x scope cl s₁ news (.int x3 t3) (ns.getD x3.toNat 0))
    (fin : ∀ g t1 t2 t3, Fin { s₁ with heap := g } [.int (ns.getD x1.toNat 0) t1, .int (ns.getD x2.toNat 0) t2, .int (ns.getD x3.toNat 0) t3] news) : TSrc prog w A h₀ L m env elt x scope cl Fin (.ref ax) s₁ :=
  ⟨ax, _, _, _, _, _, _, news, rfl, hh, F, N, hm, e1, e2, e3, fin⟩
end
end Mine
end
section
open PySem PySem.W PyProof.Rows
set_option Elab.async false
set_option maxRecDepth 100000
namespace Mine
section
variable {w : World} {mean : ExcName → Option Value} {mg mb : Str → Option Value} {news : List (Addr × Obj)}
theorem hls_c' {h l s x y z : UInt64} {t1 t2 t3 : Tok} (e : hlsRgb h l s = (x, y, z)) : Ctr w mean mg mb 28 2 news [.float h t1, .float l t2, .float s t3] (TupOut (x, y, z)) := e ▸ hls_c w mean mg mb news h l s t1 t2 t3
theorem hsv_c' {h s v x y z : UInt64} {t1 t2 t3 : Tok} (hfin : Float64.isFinite (Float64.mul h 4618441417868443648) = true) (hsm : (hsvN h).natAbs ≤ 8192) (e : hsvRgb h s v = (x, y, z)) :
    Ctr w mean mg mb 49 1 news [.float h t1, .float s t2, .float v t3] (TupOut (x, y, z)) := e ▸ hsv_c w mean mg mb news h s v t1 t2 t3 hfin hsm
theorem rgbHsv_c' {r g b x y z : UInt64} {t1 t2 t3 : Tok}
  (hz1 : (Float64.cmp (fmin3 r g b) (fmax3 r g b) == some Ordering.eq) = false → Float64.isZero (fmax3 r g b) = false)
  (hz2 : (Float64.cmp (fmin3 r g b) (fmax3 r g b) == some Ordering.eq) = false → Float64.isZero (Float64.sub (fmax3 r g b) (fmin3 r g b)) = false) (e : rgbHsv r g b = (x, y, z)) :
  Ctr w mean mg mb 42 1 news [.float r t1, .float g t2, .float b t3] (TupOut (x, y, z)) := e ▸ rgbHsv_c w mean mg mb news r g b t1 t2 t3 hz1 hz2
theorem rgbHls_c' {r g b x y z : UInt64} {t1 t2 t3 : Tok}
  (hz1 : (Float64.cmp (fmin3 r g b) (fmax3 r g b) == some Ordering.eq) = false → Float64.isZero (Float64.add (fmax3 r g b) (fmin3 r g b)) = false)
  (hz2 : (Float64.cmp (fmin3 r g b) (fmax3 r g b) == some Ordering.eq) = false → Float64.isZero (Float64.sub (fmax3 r g b) (fmin3 r g b)) = false)
  (hz3 : (Float64.cmp (fmin3 r g b) (fmax3 r g b) == some Ordering.eq) = false → Float64.isZero (Float64.sub (Float64.sub 4611686018427387904 (fmax3 r g b)) (fmin3 r g b)) = false) (e : rgbHls r g b = (x, y, z)) :
  Ctr w mean mg mb 21 1 news [.float r t1, .float g t2, .float b t3] (TupOut (x, y, z)) := e ▸ rgbHls_c w mean mg mb news r g b t1 t2 t3 hz1 hz2 hz3
end
section
variable {prog : Program} {w : World} {A : Around} {E : Value → Shared → Prop} {s : Shared} {Q : Value → Shared → Prop}
theorem div_4096 {a : Int} {t u : Tok} (hA : A.handled = none) (h0 : 0 ≤ a) (h1 : a ≤ 4096) (h : Q (.float (fr a) s.toks) { s with toks := s.toks + 1 }) : wpAny (model prog w) A (binaryOp .Div (.int a t) (.int 4096 u)) Q E s :=
  Flt.div_ii hA (fun h => absurd h (by decide)) (fun _ hi => absurd hi (by
    have := Fn_inf (fr_gr h0 h1).1
    unfold fr at this
    rw [this]; decide)) (fun _ _ => h)
end
local macro_rules | `(tactic| k_room) => `(tactic| ktr_room)
local macro_rules | `(tactic| walk_at "subscriptTail Name Constant ref int") => `(tactic| (k_here; (with_reducible show wpAny _ _ (subscriptTail _ _ (Value.ref _) (Value.int _ _)) _ _ _); k_extra "Cx1"))
local macro_rules | `(tactic| walk_at "binaryOp Div int int") => `(tactic| ((with_reducible show wpAny _ _ (binaryOp Operator.Div (Value.int _ _) (Value.int 4096 _)) _ _ _); k_extra "Cx2"))

local macro_rules | `(tactic| walk_at "call ref") => `(tactic| ((with_reducible show wpAny _ _ (call (Value.ref 119) _) _ _ _); k_extra "Cx3"))
local macro_rules | `(tactic| walk_at "eval ListComp") => `(tactic| (k_here; k_extra "Cx4"))
local macro_rules | `(tactic| walk_at "exec Assign cons ListComp") => `(tactic| (k_here; k_extra "Cx5"))
local macro_rules | `(tactic| walk_at "TSrc") => `(tactic| (k_extra "Cx6"))
local macro_rules | `(tactic| walk_at "EltAt") => `(tactic| ((unfold EltAt); intro C' oC' m' h' tk' E' hC' hx' F' N'))
section
variable {prog : Program} {w : World} {A : Around} {E : Value → Shared → Prop} {s : Shared} {h₀ : Heap} {L : Addr} {news : List (Addr × Obj)}
theorem ne_three {a b : Addr} {x1 x2 x3 y1 y2 y3 : Int} {t1 t2 t3 u1 u2 u3 : Tok} {n k : Nat} {Q : Value → Shared → Prop} (N : News h₀ L s.heap news)
    (hl : (a, ({ cls := .type "list", data := .seq #[.int x1 t1, .int x2 t2, .int x3 t3] n } : Obj)) ∈ news) (hl' : (b, ({ cls := .type "list", data := .seq #[.int y1 u1, .int y2 u2, .int y3 u3] k } : Obj)) ∈ news) (e : [x1, x2, x3] = [y1, y2, y3]) (hu : A.units + 64 < cLine)
    (h : Q (.bool false) s) : wpAny (model prog w) A (compareOp .NotEq (.ref a) (.ref b)) Q E s :=
  ne_intsK (vs := [.int x1 t1, .int x2 t2, .int x3 t3]) (us := [.int y1 u1, .int y2 u2, .int y3 u3]) (ns := [x1, x2, x3]) (ms := [y1, y2, y3]) ⟨_, (N _ hl).1, rfl, n, rfl⟩ (.cons _ _ (.cons _ _ (.cons _ _ .nil))) ⟨_, (N _ hl').1, rfl, k, rfl⟩ (.cons _ _ (.cons _ _ (.cons _ _ .nil))) hu (by rw [decide_eq_true e]; exact h)
end
theorem rint_of {a n : Int} {t : Tok} (e : a = n) : RInt n (.int a t) := ⟨t, by rw [e]⟩
theorem ord_b1 {i x y z : Int} (o : Ord i x y z) : 0 ≤ x ∧ x < 3 := by unfold Ord at o; omega
theorem ord_b2 {i x y z : Int} (o : Ord i x y z) : 0 ≤ y ∧ y < 3 := by unfold Ord at o; omega
theorem ord_b3 {i x y z : Int} (o : Ord i x y z) : 0 ≤ z ∧ z < 3 := by unfold Ord at o; omega
section
variable {prog : Program} {w : World} {A : Around} {E : Value → Shared → Prop} {s : Shared} {h₀ : Heap} {L : Addr} {news : List (Addr × Obj)}
theorem item_three {value slice : PySem.Expr} {a : Addr} {x x1 x2 x3 : Int} {t1 t2 t3 u : Tok} {n : Nat} {Q : Value → Shared → Prop} (N : News h₀ L s.heap news)
    (hl : (a, ({ cls := .type "list", data := .seq #[.int x1 t1, .int x2 t2, .int x3 t3] n } : Obj)) ∈ news) (hx : 0 ≤ x ∧ x < 3) (h : ∀ t, Q (.int ([x1, x2, x3].getD x.toNat 0) t) s)
    (hs : subscripted slice false (.ref a) (.int x u) = operate [.ref a, .int x u] (getItem (.ref a) (.int x u)) := by with_unfolding_all rfl) :
    wpAny (model prog w) A (subscriptTail value slice (.ref a) (.int x u)) Q E s := by
  have hL : s.heap.IsList a ([.int x1 t1, .int x2 t2, .int x3 t3] : List Value).toArray := ⟨_, (N _ hl).1, rfl, n, rfl⟩
  have hc : x = 0 ∨ x = 1 ∨ x = 2 := by omega
  rcases hc with rfl | rfl | rfl
  · exact item_litK hL (by decide) (by decide) rfl (h t1) hs
  · exact item_litK hL (by decide) (by decide) rfl (h t2) hs
  · exact item_litK hL (by decide) (by decide) rfl (h t3) hs
end
local macro_rules | `(tactic| walk_at "subscriptTail Name Name ref int") => `(tactic| (k_here; (with_reducible show wpAny _ _ (subscriptTail _ _ (Value.ref _) (Value.int _ _)) _ _ _); k_extra "Cx7"))
def OrdOk (i A B C M0 M1 M2 : Int) : Prop := ∀ x y z, Ord i x y z → [M0, M1, M2] = [[A, B, C].getD x.toNat 0, [A, B, C].getD y.toNat 0, [A, B, C].getD z.toNat 0]
theorem ordOk_use {i A B C M0 M1 M2 x y z : Int} (h : OrdOk i A B C M0 M1 M2) (o : Ord i x y z) : [M0, M1, M2] = [[A, B, C].getD x.toNat 0, [A, B, C].getD y.toNat 0, [A, B, C].getD z.toNat 0] := h x y z o
local macro_rules | `(tactic| walk_at "compareOp NotEq ref ref") => `(tactic| (k_here; (with_reducible show wpAny _ _ (compareOp CmpOp.NotEq (Value.ref _) (Value.ref _)) _ _ _); k_extra "Cx8"))
def ListOut (a b c : Int) (v : Value) (tl : List (Addr × Obj)) : Prop := ∃ D t1 t2 t3, v = .ref D ∧ tl = [(D, LCg.lst [.int a t1, .int b t2, .int c t3])]
theorem fall_fin {h₀ h : Heap} {L : Addr} {m : Str → Option Value} {news : List (Addr × Obj)} {p0 p1 p3 p4 p5 p6 p7 pT : Addr × Obj} {q3 q4 q5 q6 q7 D : Addr} {a b c : Int} {t1 t2 t3 : Tok} {s : Shared} {tk : Nat} {Q : Value → Shared → Prop}
    (hret : ∀ (v : Value) (tl : List (Addr × Obj)) (h' : Heap) (tk' : Nat), Fr h₀ L h' m → News h₀ L h' (tl ++ pT :: news) → (∀ p ∈ pT :: news, ∀ q ∈ tl, p.1 ≠ q.1) → ListOut a b c v tl → Q v { s with heap := h', toks := tk' })
    (F : Fr h₀ L h m) (N : News h₀ L h (p0 :: p1 :: (D, LCg.lst [.int a t1, .int b t2, .int c t3]) :: p3 :: p4 :: p5 :: p6 :: p7 :: pT :: news))
    (o : q3 ≠ D ∧ q4 ≠ D ∧ q5 ≠ D ∧ q6 ≠ D ∧ q7 ≠ D ∧ pT.1 ≠ D ∧ LCg.Off1 D news) : Q (.ref D) { s with heap := h, toks := tk } := by
  refine hret (.ref D) [(D, LCg.lst [.int a t1, .int b t2, .int c t3])] h tk F (fun p hp => N p ?_) (fun p hp q hq => ?_) ⟨D, t1, t2, t3, rfl, rfl⟩
  · rcases List.mem_cons.mp hp with rfl | hp
    · exact .tail _ (.tail _ (.head _))
    · exact .tail _ (.tail _ (.tail _ (.tail _ (.tail _ (.tail _ (.tail _ (.tail _ hp)))))))
  · rw [List.mem_singleton.mp hq]
    exact off1_mem (l := pT :: news) ⟨o.2.2.2.2.2.1, o.2.2.2.2.2.2⟩ p hp
def hueK (H : UInt64) : Int := Flt.toInt Float64.nearestOf (Float64.div (Float64.mul H 4618441417868443648) (Float64.ofInt 2))
def hueFo (H : UInt64) : UInt64 := Float64.div (Float64.abs (Float64.sub (Float64.mul H 4618441417868443648) (Float64.ofInt (2 * hueK H)))) (Float64.ofInt 6)
local macro_rules | `(tactic| walk_at "execs cons") => `(tactic| (k_here; k_extra "Cx9"; intro m9 F9 M9; (try dsimp only)))
local macro_rules | `(tactic| walk_at "execs cons") => `(tactic| (k_here; (with_reducible refine gen_toks0 ?_); intro tk8))
section
variable {prog : Program} {w : World} {A : Around} {E : Value → Shared → Prop} {s : Shared} {env : Env} {h₀ : Heap} {L : Addr} {m : Str → Option Value} {news : List (Addr × Obj)}
def Join3 (h₀ : Heap) (L : Addr) (m : Str → Option Value) (news : List (Addr × Obj)) (H V S : UInt64) (s s' : Shared) : Prop :=
  ∃ h' tk t1 t2 t3, s' = { s with heap := h', toks := tk } ∧ Fr h₀ L h' (fun y => if y = Str.ofString "share" then some (.float S t3) else if y = Str.ofString "level" then some (.float V t2) else if y = Str.ofString "hue" then some (.float H t1) else m y) ∧ News h₀ L h' news
theorem if_three {test : PySem.Expr} {body orelse : List Stmt} {pos : Pos} {Q : Flow → Shared → Prop} {H V S : UInt64} (_F : Fr h₀ L s.heap m) (_N : News h₀ L s.heap news)
    (h : wpAny (model prog w) A (exec (.If test body orelse pos) env) (fun f s' => f = .next ∧ Join3 h₀ L m news H V S s s') E s)
    (k : ∀ h' tk t1 t2 t3, Fr h₀ L h' (fun y => if y = Str.ofString "share" then some (.float S t3) else if y = Str.ofString "level" then some (.float V t2) else if y = Str.ofString "hue" then some (.float H t1) else m y) → News h₀ L h' news → Q .next { s with heap := h', toks := tk }) :
    wpAny (model prog w) A (exec (.If test body orelse pos) env) Q E s := by
  refine wpAny_mono h (fun f s' q => ?_) fun _ _ e => e
  obtain ⟨rfl, h', tk, t1, t2, t3, rfl, F', N'⟩ := q
  exact k h' tk t1 t2 t3 F' N'
theorem swap_two {a b : Str} {x z : Option Value} {m : Str → Option Value} (n : a ≠ b) : (fun y => if y = a then x else if y = b then z else m y) = (fun y => if y = b then z else if y = a then x else m y) := by
  funext y
  by_cases h : y = a
  · rw [if_pos h, if_neg (fun q => n (h.symm.trans q)), if_pos h]
  · rw [if_neg h, if_neg h]
theorem join3_l {p : Addr × Obj} {H V S : UInt64} {t1 t2 t3 : Tok} {h' : Heap} {tk : Nat} (F : Fr h₀ L h' (fun y => if y = Str.ofString "share" then some (.float S t3) else if y = Str.ofString "level" then some (.float V t2) else if y = Str.ofString "hue" then some (.float H t1) else m y)) (N : News h₀ L h' (p :: news)) :
    Join3 h₀ L m news H V S s { s with heap := h', toks := tk } := ⟨h', tk, t1, t2, t3, rfl, F, fun q hq => N q (.tail _ hq)⟩
theorem join3_d {p : Addr × Obj} {H V S : UInt64} {t1 t2 t3 : Tok} {h' : Heap} {tk : Nat} (F : Fr h₀ L h' (fun y => if y = Str.ofString "level" then some (.float V t2) else if y = Str.ofString "share" then some (.float S t3) else if y = Str.ofString "hue" then some (.float H t1) else m y)) (N : News h₀ L h' (p :: news)) :
    Join3 h₀ L m news H V S s { s with heap := h', toks := tk } := by
  rw [swap_two (a := Str.ofString "level") (b := Str.ofString "share") (m := fun y => if y = Str.ofString "hue" then some (.float H t1) else m y) (by decide)] at F
  exact ⟨h', tk, t1, t2, t3, rfl, F, fun q hq => N q (.tail _ hq)⟩
def JoinT (h₀ : Heap) (L : Addr) (m : Str → Option Value) (news : List (Addr × Obj)) (B1 B2 B3 P1 P2 P3 : UInt64) (s s' : Shared) : Prop :=
  ∃ h' tk Db Dp t1 t2 t3 t4 t5 t6, s' = { s with heap := h', toks := tk } ∧ Fr h₀ L h' (fun y => if y = Str.ofString "parts" then some (.ref Dp) else if y = Str.ofString "back" then some (.ref Db) else m y) ∧
    News h₀ L h' ((Dp, ({ cls := .type "tuple", data := .seq #[.float P1 t4, .float P2 t5, .float P3 t6] } : Obj)) :: (Db, ({ cls := .type "tuple", data := .seq #[.float B1 t1, .float B2 t2, .float B3 t3] } : Obj)) :: news)
theorem joinT_i {B1 B2 B3 P1 P2 P3 : UInt64} {h' : Heap} {tk : Nat} {Db Dp : Addr} {t1 t2 t3 t4 t5 t6 : Tok} (F : Fr h₀ L h' (fun y => if y = Str.ofString "parts" then some (.ref Dp) else if y = Str.ofString "back" then some (.ref Db) else m y))
    (N : News h₀ L h' ((Dp, ({ cls := .type "tuple", data := .seq #[.float P1 t4, .float P2 t5, .float P3 t6] } : Obj)) :: (Db, ({ cls := .type "tuple", data := .seq #[.float B1 t1, .float B2 t2, .float B3 t3] } : Obj)) :: news)) :
    JoinT h₀ L m news B1 B2 B3 P1 P2 P3 s { s with heap := h', toks := tk } := ⟨h', tk, Db, Dp, t1, t2, t3, t4, t5, t6, rfl, F, N⟩
theorem if_two {test : PySem.Expr} {body orelse : List Stmt} {pos : Pos} {Q : Flow → Shared → Prop} {B1 B2 B3 P1 P2 P3 : UInt64} (_F : Fr h₀ L s.heap m) (_N : News h₀ L s.heap news)
    (h : wpAny (model prog w) A (exec (.If test body orelse pos) env) (fun f s' => f = .next ∧ JoinT h₀ L m news B1 B2 B3 P1 P2 P3 s s') E s)
    (k : ∀ h' tk Db Dp t1 t2 t3 t4 t5 t6, Fr h₀ L h' (fun y => if y = Str.ofString "parts" then some (.ref Dp) else if y = Str.ofString "back" then some (.ref Db) else m y) →
      News h₀ L h' ((Dp, ({ cls := .type "tuple", data := .seq #[.float P1 t4, .float P2 t5, .float P3 t6] } : Obj)) :: (Db, ({ cls := .type "tuple", data := .seq #[.float B1 t1, .float B2 t2, .float B3 t3] } : Obj)) :: news) → Q .next { s with heap := h', toks := tk }) :
    wpAny (model prog w) A (exec (.If test body orelse pos) env) Q E s := by
  refine wpAny_mono h (fun f s' q => ?_) fun _ _ e => e
  obtain ⟨rfl, h', tk, Db, Dp, t1, t2, t3, t4, t5, t6, rfl, F', N'⟩ := q
  exact k h' tk Db Dp t1 t2 t3 t4 t5 t6 F' N'
end
local macro_rules | `(tactic| walk_at "call ref") => `(tactic| ((with_reducible show wpAny _ _ (call (Value.ref 28) _) _ _ _); refine stop_of ?_))
local macro_rules | `(tactic| walk_at "call ref") => `(tactic| ((with_reducible show wpAny _ _ (call (Value.ref 49) _) _ _ _); refine stop_of ?_))
local macro_rules | `(tactic| walk_at "call ref") => `(tactic| ((with_reducible show wpAny _ _ (call (Value.ref 42) _) _ _ _); refine stop_of ?_))
local macro_rules | `(tactic| walk_at "call ref") => `(tactic| ((with_reducible show wpAny _ _ (call (Value.ref 21) _) _ _ _); refine stop_of ?_))
local macro_rules | `(tactic| walk_at "exec If") => `(tactic| (k_here; (with_reducible show wpAny _ _ (exec (Stmt.If (PySem.Expr.Name (Str.ofString "light") _) _ _ _) _) _ _ _); (fail_if_success (with_reducible show wpAny _ _ _ (fun f _ => f = Flow.next ∧ _) _ _)); refine stop_of ?_))
set_option maxHeartbeats 8000000 in
theorem fall_any (w : World) (mean : ExcName → Option Value) (mg mb : Str → Option Value) (news : List (Addr × Obj)) (T : Addr) (A B C : Int) (ta tb tc : Tok)
  (hA : 0 ≤ A) (hA1 : A ≤ 4096) (hB : 0 ≤ B) (hB1 : B ≤ 4096) (hC : 0 ≤ C) (hC1 : C ≤ 4096) (light : Bool) (H V S B1 B2 B3 P1 P2 P3 : UInt64) (M0 M1 M2 : Int)
  (c1 : light = true → ∀ news t1 t2 t3, Ctr w mean mg mb 21 1 news [.float (fr A) t1, .float (fr B) t2, .float (fr C) t3] (TupOut (H, V, S)))
  (c2 : light = false → ∀ news t1 t2 t3, Ctr w mean mg mb 42 1 news [.float (fr A) t1, .float (fr B) t2, .float (fr C) t3] (TupOut (H, S, V)))
  (d1 : light = true → ∀ news t1 t2 t3, Ctr w mean mg mb 28 2 news [.float H t1, .float V t2, .float S t3] (TupOut (B1, B2, B3)))
  (d2 : light = true → ∀ news t1 t2 t3, Ctr w mean mg mb 28 2 news [.float (hueFo H) t1, .float V t2, .float S t3] (TupOut (P1, P2, P3)))
  (d3 : light = false → ∀ news t1 t2 t3, Ctr w mean mg mb 49 1 news [.float H t1, .float S t2, .float V t3] (TupOut (B1, B2, B3)))
  (d4 : light = false → ∀ news t1 t2 t3, Ctr w mean mg mb 49 1 news [.float (hueFo H) t1, .float S t2, .float V t3] (TupOut (P1, P2, P3)))
  (g1 : Float64.isFinite (Float64.mul H 4618441417868443648) = true)
  (g3 : Float64.isFinite (Float64.div (Float64.mul H 4618441417868443648) (Float64.ofInt 2)) = true)
  (g4 : 0 ≤ Flt.toInt Float64.nearestOf (Float64.div (Float64.mul H 4618441417868443648) (Float64.ofInt 2))) (g5 : Flt.toInt Float64.nearestOf (Float64.div (Float64.mul H 4618441417868443648) (Float64.ofInt 2)) ≤ 3)
  (f1 : Float64.isFinite (Float64.mul (Float64.ofInt 4096) B1) = true) (r1 : Flt.toInt Float64.nearestOf (Float64.mul (Float64.ofInt 4096) B1) = A)
  (f2 : Float64.isFinite (Float64.mul (Float64.ofInt 4096) B2) = true) (r2 : Flt.toInt Float64.nearestOf (Float64.mul (Float64.ofInt 4096) B2) = B)
  (f3 : Float64.isFinite (Float64.mul (Float64.ofInt 4096) B3) = true) (r3 : Flt.toInt Float64.nearestOf (Float64.mul (Float64.ofInt 4096) B3) = C)
  (f4 : Float64.isFinite (Float64.mul (Float64.ofInt 4096) P1) = true) (r4 : Flt.toInt Float64.nearestOf (Float64.mul (Float64.ofInt 4096) P1) = M0)
  (f5 : Float64.isFinite (Float64.mul (Float64.ofInt 4096) P2) = true) (r5 : Flt.toInt Float64.nearestOf (Float64.mul (Float64.ofInt 4096) P2) = M1)
  (f6 : Float64.isFinite (Float64.mul (Float64.ofInt 4096) P3) = true) (r6 : Flt.toInt Float64.nearestOf (Float64.mul (Float64.ofInt 4096) P3) = M2)
  (ho : OrdOk ((hsvN H).fmod 6) A B C M0 M1 M2) :
  Ctr w mean mg mb 138 3 ((T, { cls := .type "list", data := .seq #[.int A ta, .int B tb, .int C tc] }) :: news) [.ref T, .bool light] (ListOut M0 M1 M2) := by
  dsimp only [Ctr]
  (k_with "Cx1" => ((with_unfolding_all refine' item_litK ?k1 ?k2 ?k3 ?k4 ?_ ?k6; (case k1 => is_list); (case k2 => decide); (case k3 => decide); (case k4 => rfl); (case k6 => with_unfolding_all rfl); k_whole)))
  (k_with "Cx2" => ((refine' div_4096 ?k0 ?k1 ?k2 ?_; (case k0 => exact rfl); (case k1 => assumption); (case k2 => assumption); (try dsimp only))))
  (k_with "Cx3" => (k_dflt (refine' getitem_use ?k1 ?k2 ?k3 ?k4 ?k5 ?kK ?kd ?ku ?_; (case k1 => k_asm); (case k2 => k_asm); (case k3 => k_asm); (case k4 => k_asm); (case k5 => k_asm); (case kK => exact rfl); (case kd => ktr_room); (case ku => ktr_units); intro D9 x9 y9 z9 t9 t8 t7 h9 tk9 O9 F9 N9; (try dsimp only); (try k_fold))))
  (k_with "Cx4" => (k_dflt (refine listcomp_tup (F₀ := by k_asm) (by rfl) (by decide) (by rfl) (by decide) (by rfl) ?_)))
  (k_with "Cx5" => (k_dflt (refine assign_listcomp_tup (F₀ := by k_asm) (by rfl) (by with_unfolding_all rfl) (by rfl) (by decide) (by rfl) (by decide) (by rfl) (by rfl) (by rfl) ?_)))
  (k_with "Cx6" => (k_dflt (refine' TSrc.floats ?a1 ?a2 ?a3 ?a4 ?a5 ?a6 ?a7 ?_ ?_ ?_ ?_; (case a1 => exact rfl); (case a2 => k_asm); (case a3 => k_asm); (case a4 => k_mem); (case a5 => assumption); (case a6 => assumption); (case a7 => assumption))))
  (k_with "Cx7" => ((with_unfolding_all refine' item_three ?k1 ?k2 ?k3 ?_ ?k6; (case k1 => k_asm); (case k2 => k_mem); (case k3 => first | exact ord_b1 (by assumption) | exact ord_b2 (by assumption) | exact ord_b3 (by assumption)); (case k6 => with_unfolding_all rfl); intro t9)))
  (k_with "Cx8" => (k_dflt (refine' ne_three ?k1 ?k2 ?k3 ?k4 ?k5 ?_; (case k1 => k_asm); (case k2 => k_mem); (case k3 => k_mem); (case k4 => first | exact rfl | exact ordOk_use (by assumption) (by assumption)); (case k5 => ktr_units))))
  (k_with "Cx9" => ((rename Fr _ _ _ _ => lF); (fail_if_success (have := mk_of lF (by assumption))); (with_reducible refine fold_m lF ?_); clear lF))
  w_top off
  k_fill
  intros; rename_i hret
  refine wpAny_call ?_
  k_dflt (refine' code_defC ?k1 ?k2 ?k3 ?k4 ?k5 ?kA ?kF ?kK ?k6 ?k7 ?k8 ?k9 ?kB ?kD ?_ ?c2 ?c3 ?c4; (case kA => exact rfl); (case kF => exact rfl); (case kK => assumption); (case k1 => k_asm); (case k2 => k_asm); (case k3 => k_asm); (case k4 => k_asm); (case k5 => k_asm); (case k6 => k_is); (case k7 => k_is); (case k8 => ktr_room); (case k9 => first | exact BindsTo.of_eq rfl | exact binds_K (by k_in) rfl (by k_is) rfl rfl rfl | fail "k_enter: no rule for these arguments"); (case kB => exact rfl); (case kD => decide +kernel); (case c2 => exact rfl); (case c3 => exact rfl); (case c4 => exact rfl); k_whole; intro g' L' h' tk' cells' FG' F' N' Y' B' X' T' l1; (try k_lt l1); k_cells Y'; (try simp only [List.cons_append, List.nil_append] at N'); (try dsimp only); (try k_lift B'); (try k_fold))
  k_steps
  unfold Stop
  k_dflt (refine' if_three (H := H) (V := V) (S := S) ?F ?N ?_ ?_)
  (case F => k_asm)
  (case N => k_asm)
  · cases light
    · k_steps
      unfold Stop
      k_dflt (refine' ctr_useT (c2 rfl _ _ _ _) ?k1 ?k2 ?k3 ?k4 ?k5 ?kK ?kd ?ku ?_)
      (case k1 => k_asm)
      (case k2 => k_asm)
      (case k3 => k_asm)
      (case k4 => k_asm)
      (case k5 => k_asm)
      (case kK => exact rfl)
      (case kd => ktr_room)
      (case ku => ktr_units)
      intro D9 t9 t8 t7 h9 tk9 F9 N9 l9
      (try simp only [LCg.Off1, and_true] at l9)
      (try dsimp only)
      (try dsimp only at N9)
      (try k_fold)
      k_steps
      refine' join3_d ?F ?N
      (case F => k_asm)
      (case N => k_asm)
    · k_steps
      unfold Stop
      k_dflt (refine' ctr_useT (c1 rfl _ _ _ _) ?k1 ?k2 ?k3 ?k4 ?k5 ?kK ?kd ?ku ?_)
      (case k1 => k_asm)
      (case k2 => k_asm)
      (case k3 => k_asm)
      (case k4 => k_asm)
      (case k5 => k_asm)
      (case kK => exact rfl)
      (case kd => ktr_room)
      (case ku => ktr_units)
      intro D9 t9 t8 t7 h9 tk9 F9 N9 l9
      (try simp only [LCg.Off1, and_true] at l9)
      (try dsimp only)
      (try dsimp only at N9)
      (try k_fold)
      k_steps
      refine' join3_l ?F ?N
      (case F => k_asm)
      (case N => k_asm)
  intro h8 tk8 t1 t2 t3 F8 N8
  k_steps
  unfold Stop
  k_dflt (refine' if_two (B1 := B1) (B2 := B2) (B3 := B3) (P1 := P1) (P2 := P2) (P3 := P3) ?F ?N ?_ ?_)
  (case F => k_asm)
  (case N => k_asm)
  · cases light
    · k_steps
      unfold Stop
      k_dflt (refine' ctr_useT (d3 rfl _ _ _ _) ?k1 ?k2 ?k3 ?k4 ?k5 ?kK ?kd ?ku ?_)
      (case k1 => k_asm)
      (case k2 => k_asm)
      (case k3 => k_asm)
      (case k4 => k_asm)
      (case k5 => k_asm)
      (case kK => exact rfl)
      (case kd => ktr_room)
      (case ku => ktr_units)
      intro D9 t9 t8 t7 h9 tk9 F9 N9 l9
      (try simp only [LCg.Off1, and_true] at l9)
      (try dsimp only)
      (try dsimp only at N9)
      (try k_fold)
      k_steps
      unfold Stop
      k_dflt (refine' ctr_useT (d4 rfl _ _ _ _) ?k1 ?k2 ?k3 ?k4 ?k5 ?kK ?kd ?ku ?_)
      (case k1 => k_asm)
      (case k2 => k_asm)
      (case k3 => k_asm)
      (case k4 => k_asm)
      (case k5 => k_asm)
      (case kK => exact rfl)
      (case kd => ktr_room)
      (case ku => ktr_units)
      intro D9 t9 t8 t7 h9 tk9 F9 N9 l9
      (try simp only [LCg.Off1, and_true] at l9)
      (try dsimp only)
      (try dsimp only at N9)
      (try k_fold)
      k_steps
      refine' joinT_i ?F ?N
      (case F => k_asm)
      (case N => k_asm)
    · k_steps
      unfold Stop
      k_dflt (refine' ctr_useT (d1 rfl _ _ _ _) ?k1 ?k2 ?k3 ?k4 ?k5 ?kK ?kd ?ku ?_)
      (case k1 => k_asm)
      (case k2 => k_asm)
      (case k3 => k_asm)
      (case k4 => k_asm)
      (case k5 => k_asm)
      (case kK => exact rfl)
      (case kd => ktr_room)
      (case ku => ktr_units)
      intro D9 t9 t8 t7 h9 tk9 F9 N9 l9
      (try simp only [LCg.Off1, and_true] at l9)
      (try dsimp only)
      (try dsimp only at N9)
      (try k_fold)
      k_steps
      unfold Stop
      k_dflt (refine' ctr_useT (d2 rfl _ _ _ _) ?k1 ?k2 ?k3 ?k4 ?k5 ?kK ?kd ?ku ?_)
      (case k1 => k_asm)
      (case k2 => k_asm)
      (case k3 => k_asm)
      (case k4 => k_asm)
      (case k5 => k_asm)
      (case kK => exact rfl)
      (case kd => ktr_room)
      (case ku => ktr_units)
      intro D9 t9 t8 t7 h9 tk9 F9 N9 l9
      (try simp only [LCg.Off1, and_true] at l9)
      (try dsimp only)
      (try dsimp only at N9)
      (try k_fold)
      k_steps
      refine' joinT_i ?F ?N
      (case F => k_asm)
      (case N => k_asm)
  intro h7 tk7 Db Dp t4 t5 t6 t7 t8 t9 F7 N7
  k_steps
  any_goals (with_reducible show RInt _ _; exact rint_of (by assumption))
  k_dflt (refine' TSrc.ints [A, B, C] ?a1 ?a2 ?a3 ?a4 ?_ ?_ ?_ ?_; (case a1 => exact rfl); (case a2 => k_asm); (case a3 => k_asm); (case a4 => k_mem))
  k_steps
  any_goals (with_reducible show RInt _ _; exact rint_of rfl)
  exact fall_fin hret (by assumption) (by assumption) (by assumption)
theorem fall_hsv (w : World) (mean : ExcName → Option Value) (mg mb : Str → Option Value) (news : List (Addr × Obj)) (T : Addr) (A B C : Int) (ta tb tc : Tok)
  (hA : 0 ≤ A) (hA1 : A ≤ 4096) (hB : 0 ≤ B) (hB1 : B ≤ 4096) (hC : 0 ≤ C) (hC1 : C ≤ 4096) (H S V B1 B2 B3 P1 P2 P3 : UInt64) (M0 M1 M2 : Int)
  (hz1 : (Float64.cmp (fmin3 (fr A) (fr B) (fr C)) (fmax3 (fr A) (fr B) (fr C)) == some Ordering.eq) = false → Float64.isZero (fmax3 (fr A) (fr B) (fr C)) = false)
  (hz2 : (Float64.cmp (fmin3 (fr A) (fr B) (fr C)) (fmax3 (fr A) (fr B) (fr C)) == some Ordering.eq) = false → Float64.isZero (Float64.sub (fmax3 (fr A) (fr B) (fr C)) (fmin3 (fr A) (fr B) (fr C))) = false)
  (e1 : rgbHsv (fr A) (fr B) (fr C) = (H, S, V))
  (g1 : Float64.isFinite (Float64.mul H 4618441417868443648) = true) (g2 : (hsvN H).natAbs ≤ 8192)
  (g3 : Float64.isFinite (Float64.div (Float64.mul H 4618441417868443648) (Float64.ofInt 2)) = true)
  (g4 : 0 ≤ Flt.toInt Float64.nearestOf (Float64.div (Float64.mul H 4618441417868443648) (Float64.ofInt 2))) (g5 : Flt.toInt Float64.nearestOf (Float64.div (Float64.mul H 4618441417868443648) (Float64.ofInt 2)) ≤ 3)
  (g6 : Float64.isFinite (Float64.mul (hueFo H) 4618441417868443648) = true) (g7 : (hsvN (hueFo H)).natAbs ≤ 8192)
  (e2 : hsvRgb H S V = (B1, B2, B3)) (e3 : hsvRgb (hueFo H) S V = (P1, P2, P3))
  (f1 : Float64.isFinite (Float64.mul (Float64.ofInt 4096) B1) = true) (r1 : Flt.toInt Float64.nearestOf (Float64.mul (Float64.ofInt 4096) B1) = A)
  (f2 : Float64.isFinite (Float64.mul (Float64.ofInt 4096) B2) = true) (r2 : Flt.toInt Float64.nearestOf (Float64.mul (Float64.ofInt 4096) B2) = B)
  (f3 : Float64.isFinite (Float64.mul (Float64.ofInt 4096) B3) = true) (r3 : Flt.toInt Float64.nearestOf (Float64.mul (Float64.ofInt 4096) B3) = C)
  (f4 : Float64.isFinite (Float64.mul (Float64.ofInt 4096) P1) = true) (r4 : Flt.toInt Float64.nearestOf (Float64.mul (Float64.ofInt 4096) P1) = M0)
  (f5 : Float64.isFinite (Float64.mul (Float64.ofInt 4096) P2) = true) (r5 : Flt.toInt Float64.nearestOf (Float64.mul (Float64.ofInt 4096) P2) = M1)
  (f6 : Float64.isFinite (Float64.mul (Float64.ofInt 4096) P3) = true) (r6 : Flt.toInt Float64.nearestOf (Float64.mul (Float64.ofInt 4096) P3) = M2)
  (ho : OrdOk ((hsvN H).fmod 6) A B C M0 M1 M2) :
  Ctr w mean mg mb 138 3 ((T, { cls := .type "list", data := .seq #[.int A ta, .int B tb, .int C tc] }) :: news) [.ref T, .bool false] (ListOut M0 M1 M2) :=
  fall_any w mean mg mb news T A B C ta tb tc hA hA1 hB hB1 hC hC1 false H V S B1 B2 B3 P1 P2 P3 M0 M1 M2 (fun e => nomatch e) (fun _ _ _ _ _ => rgbHsv_c' hz1 hz2 e1) (fun e => nomatch e) (fun e => nomatch e)
    (fun _ _ _ _ _ => hsv_c' g1 g2 e2) (fun _ _ _ _ _ => hsv_c' g6 g7 e3) g1 g3 g4 g5 f1 r1 f2 r2 f3 r3 f4 r4 f5 r5 f6 r6 ho
theorem fall_hls (w : World) (mean : ExcName → Option Value) (mg mb : Str → Option Value) (news : List (Addr × Obj)) (T : Addr) (A B C : Int) (ta tb tc : Tok)
  (hA : 0 ≤ A) (hA1 : A ≤ 4096) (hB : 0 ≤ B) (hB1 : B ≤ 4096) (hC : 0 ≤ C) (hC1 : C ≤ 4096) (H S V B1 B2 B3 P1 P2 P3 : UInt64) (M0 M1 M2 : Int)
  (hz1 : (Float64.cmp (fmin3 (fr A) (fr B) (fr C)) (fmax3 (fr A) (fr B) (fr C)) == some Ordering.eq) = false → Float64.isZero (Float64.add (fmax3 (fr A) (fr B) (fr C)) (fmin3 (fr A) (fr B) (fr C))) = false)
  (hz2 : (Float64.cmp (fmin3 (fr A) (fr B) (fr C)) (fmax3 (fr A) (fr B) (fr C)) == some Ordering.eq) = false → Float64.isZero (Float64.sub (fmax3 (fr A) (fr B) (fr C)) (fmin3 (fr A) (fr B) (fr C))) = false)
  (hz3 : (Float64.cmp (fmin3 (fr A) (fr B) (fr C)) (fmax3 (fr A) (fr B) (fr C)) == some Ordering.eq) = false → Float64.isZero (Float64.sub (Float64.sub 4611686018427387904 (fmax3 (fr A) (fr B) (fr C))) (fmin3 (fr A) (fr B) (fr C))) = false)
  (e1 : rgbHls (fr A) (fr B) (fr C) = (H, S, V))
  (g1 : Float64.isFinite (Float64.mul H 4618441417868443648) = true)
  (g3 : Float64.isFinite (Float64.div (Float64.mul H 4618441417868443648) (Float64.ofInt 2)) = true)
  (g4 : 0 ≤ Flt.toInt Float64.nearestOf (Float64.div (Float64.mul H 4618441417868443648) (Float64.ofInt 2))) (g5 : Flt.toInt Float64.nearestOf (Float64.div (Float64.mul H 4618441417868443648) (Float64.ofInt 2)) ≤ 3)
  (e2 : hlsRgb H S V = (B1, B2, B3)) (e3 : hlsRgb (hueFo H) S V = (P1, P2, P3))
  (f1 : Float64.isFinite (Float64.mul (Float64.ofInt 4096) B1) = true) (r1 : Flt.toInt Float64.nearestOf (Float64.mul (Float64.ofInt 4096) B1) = A)
  (f2 : Float64.isFinite (Float64.mul (Float64.ofInt 4096) B2) = true) (r2 : Flt.toInt Float64.nearestOf (Float64.mul (Float64.ofInt 4096) B2) = B)
  (f3 : Float64.isFinite (Float64.mul (Float64.ofInt 4096) B3) = true) (r3 : Flt.toInt Float64.nearestOf (Float64.mul (Float64.ofInt 4096) B3) = C)
  (f4 : Float64.isFinite (Float64.mul (Float64.ofInt 4096) P1) = true) (r4 : Flt.toInt Float64.nearestOf (Float64.mul (Float64.ofInt 4096) P1) = M0)
  (f5 : Float64.isFinite (Float64.mul (Float64.ofInt 4096) P2) = true) (r5 : Flt.toInt Float64.nearestOf (Float64.mul (Float64.ofInt 4096) P2) = M1)
  (f6 : Float64.isFinite (Float64.mul (Float64.ofInt 4096) P3) = true) (r6 : Flt.toInt Float64.nearestOf (Float64.mul (Float64.ofInt 4096) P3) = M2)
  (ho : OrdOk ((hsvN H).fmod 6) A B C M0 M1 M2) :
  Ctr w mean mg mb 138 3 ((T, { cls := .type "list", data := .seq #[.int A ta, .int B tb, .int C tc] }) :: news) [.ref T, .bool true] (ListOut M0 M1 M2) :=
  fall_any w mean mg mb news T A B C ta tb tc hA hA1 hB hB1 hC hC1 true H S V B1 B2 B3 P1 P2 P3 M0 M1 M2 (fun _ _ _ _ _ => rgbHls_c' hz1 hz2 hz3 e1) (fun e => nomatch e) (fun _ _ _ _ _ => hls_c' e2) (fun _ _ _ _ _ => hls_c' e3)
    (fun e => nomatch e) (fun e => nomatch e) g1 g3 g4 g5 f1 r1 f2 r2 f3 r3 f4 r4 f5 r5 f6 r6 ho
end Mine
end
section
open PySem PySem.Float64
set_option Elab.async false
namespace Mine

theorem int_le_of {a b : Int} (h : (a : Rat) < (b : Rat) + 1) : a ≤ b := by
  have : ((a : Int) : Rat) < ((b + 1 : Int) : Rat) := by rw [Rat.intCast_add]; exact h
  have := Rat.intCast_lt_intCast.mp this
  lia
theorem cast_le {a b : Int} (h : a ≤ b) : (a : Rat) ≤ (b : Rat) := Rat.intCast_le_intCast.mpr h
theorem mulL {c a b : Rat} (hc : 0 ≤ c) (h : a ≤ b) : c * a ≤ c * b := Rat.mul_le_mul_of_nonneg_left h hc
/-- a product of two bounded numbers -/
theorem mul_bd {e f E F : Rat} (h1 : -E ≤ e) (h2 : e ≤ E) (h3 : -F ≤ f) (h4 : f ≤ F) : -(E * F) ≤ e * f ∧ e * f ≤ E * F := by
  have p1 := Rat.mul_nonneg (show 0 ≤ E - e by grind) (show 0 ≤ F + f by grind)
  have p2 := Rat.mul_nonneg (show 0 ≤ E + e by grind) (show 0 ≤ F - f by grind)
  have p3 := Rat.mul_nonneg (show 0 ≤ E - e by grind) (show 0 ≤ F - f by grind)
  have p4 := Rat.mul_nonneg (show 0 ≤ E + e by grind) (show 0 ≤ F + f by grind)
  constructor <;> grind

/-! the parts' order -/
theorem fr_lt {a b : Int} (ha : 0 ≤ a) (ha1 : a ≤ 4096) (hb : 0 ≤ b) (hb1 : b ≤ 4096) : flt (fr a) (fr b) = decide (a < b) := by
  have h1 := fr_gr ha ha1
  have h2 := fr_gr hb hb1
  have hc := cmp_lt h1.1 h2.1
  have hiff : rv (fr a) < rv (fr b) ↔ a < b := by
    constructor
    · intro h
      refine Rat.intCast_lt_intCast.mp ?_
      rw [← h1.2, ← h2.2]; grind
    · intro h
      have := Rat.intCast_lt_intCast.mpr h
      rw [← h1.2, ← h2.2] at this
      grind
  unfold flt
  by_cases h : a < b
  · rw [decide_eq_true h]; exact hc.mpr (hiff.mpr h)
  · rw [decide_eq_false h]
    cases q : (cmp (fr a) (fr b) == some .lt) with
    | false => rfl
    | true => exact absurd (hiff.mp (hc.mp q)) h
theorem fr_eq {a b : Int} (ha : 0 ≤ a) (ha1 : a ≤ 4096) (hb : 0 ≤ b) (hb1 : b ≤ 4096) : (cmp (fr a) (fr b) == some .eq) = decide (a = b) := by
  have h1 := fr_gr ha ha1
  have h2 := fr_gr hb hb1
  have hc := cmp_eq h1.1 h2.1
  have hiff : rv (fr a) = rv (fr b) ↔ a = b := by
    constructor
    · intro h
      refine Rat.intCast_inj.mp ?_
      rw [← h1.2, ← h2.2, h]
    · intro h; rw [h]
  by_cases h : a = b
  · rw [decide_eq_true h]; exact hc.mpr (hiff.mpr h)
  · rw [decide_eq_false h]
    cases q : (cmp (fr a) (fr b) == some .eq) with
    | false => rfl
    | true => exact absurd (hiff.mp (hc.mp q)) h
theorem fmax_fr {A B C : Int} (hA : 0 ≤ A) (hA1 : A ≤ 4096) (hB : 0 ≤ B) (hB1 : B ≤ 4096) (hC : 0 ≤ C) (hC1 : C ≤ 4096) :
    ∃ hi, fmax3 (fr A) (fr B) (fr C) = fr hi ∧ (hi = A ∨ hi = B ∨ hi = C) ∧ A ≤ hi ∧ B ≤ hi ∧ C ≤ hi := by
  unfold fmax3
  rw [fr_lt hA hA1 hB hB1, fr_lt hB hB1 hC hC1, fr_lt hA hA1 hC hC1]
  by_cases h1 : A < B
  · by_cases h2 : B < C
    · exact ⟨C, by simp [h1, h2], by lia, by lia, by lia, by lia⟩
    · exact ⟨B, by simp [h1, h2], by lia, by lia, by lia, by lia⟩
  · by_cases h2 : A < C
    · exact ⟨C, by simp [h1, h2], by lia, by lia, by lia, by lia⟩
    · exact ⟨A, by simp [h1, h2], by lia, by lia, by lia, by lia⟩
theorem fmin_fr {A B C : Int} (hA : 0 ≤ A) (hA1 : A ≤ 4096) (hB : 0 ≤ B) (hB1 : B ≤ 4096) (hC : 0 ≤ C) (hC1 : C ≤ 4096) :
    ∃ lo, fmin3 (fr A) (fr B) (fr C) = fr lo ∧ (lo = A ∨ lo = B ∨ lo = C) ∧ lo ≤ A ∧ lo ≤ B ∧ lo ≤ C := by
  unfold fmin3
  rw [fr_lt hB hB1 hA hA1, fr_lt hC hC1 hB hB1, fr_lt hC hC1 hA hA1]
  by_cases h1 : B < A
  · by_cases h2 : C < B
    · exact ⟨C, by simp [h1, h2], by grind, by grind, by grind, by grind⟩
    · exact ⟨B, by simp [h1, h2], by grind, by grind, by grind, by grind⟩
  · by_cases h2 : C < A
    · exact ⟨C, by simp [h1, h2], by grind, by grind, by grind, by grind⟩
    · exact ⟨A, by simp [h1, h2], by grind, by grind, by grind, by grind⟩

/-- a told hue: R sixths of it are Z, nearly -/
def Hue (R Z : Int) (H : UInt64) : Prop := Fn H ∧ 1048576 * (6 * (R : Rat) * rv H - (Z : Rat)) ≤ 1 ∧ 1048576 * ((Z : Rat) - 6 * (R : Rat) * rv H) ≤ 1
def Hue2 (R Z : Int) (H : UInt64) : Prop := Fn H ∧ 2097152 * (6 * (R : Rat) * rv H - (Z : Rat)) ≤ 1 ∧ 2097152 * ((Z : Rat) - 6 * (R : Rat) * rv H) ≤ 1
theorem Hue2.hue {R Z : Int} {H : UInt64} (h : Hue2 R Z H) : Hue R Z H := by
  obtain ⟨h0, h1, h2⟩ := h
  refine ⟨h0, ?_, ?_⟩ <;> grind

/-- (hi - a) over the range -/
theorem quot_near {hi a R : Int} {x y : UInt64} (hx : Gr x (hi - a)) (hy : Gr y R) (h0 : 0 ≤ hi - a) (h1 : hi - a ≤ R) (hR : 0 < R) :
    Fn (div x y) ∧ (R : Rat) * rv (div x y) ≤ (hi : Rat) - a + R * ep ∧ (hi : Rat) - a ≤ (R : Rat) * rv (div x y) + R * ep ∧ -ep ≤ rv (div x y) ∧ rv (div x y) ≤ 1 + ep := by
  have vx := hx.2
  have vy := hy.2
  rw [Rat.intCast_sub] at vx
  have hRq : (0 : Rat) < (R : Rat) := Rat.intCast_pos.mpr hR
  have c0 := cast_le h0
  have c1 := cast_le h1
  rw [Rat.intCast_sub] at c0 c1
  have c00 : ((0 : Int) : Rat) = 0 := rfl
  rw [c00] at c0
  have hp : 0 < rv y := by grind
  obtain ⟨hf, d1, d2⟩ := div_near hx.1 hy.1 hp (by grind) (by grind)
  have hep := ep_pos
  have k1 : (R : Rat) * rv (div x y) ≤ (hi : Rat) - a + R * ep := by
    have := mulL (show (0 : Rat) ≤ 4096 by decide) d1
    rw [← vy, ← vx]
    grind
  have k2 : (hi : Rat) - a ≤ (R : Rat) * rv (div x y) + R * ep := by
    have := mulL (show (0 : Rat) ≤ 4096 by decide) d2
    rw [← vy, ← vx]
    grind
  refine ⟨hf, k1, k2, ?_, ?_⟩
  · refine Rat.le_of_mul_le_mul_left (c := (R : Rat)) ?_ hRq
    grind
  · refine Rat.le_of_mul_le_mul_left (c := (R : Rat)) ?_ hRq
    grind
end Mine
end
section
open PySem PySem.Float64
set_option Elab.async false
namespace Mine

/-- the three numbers, their greatest and least, and the hue's place in parts of the range -/
structure Sec (A B C hi lo Z : Int) : Prop where
  a0 : lo ≤ A
  a1 : A ≤ hi
  b0 : lo ≤ B
  b1 : B ≤ hi
  c0 : lo ≤ C
  c1 : C ≤ hi
  l0 : 0 ≤ lo
  lt : lo < hi
  h1 : hi ≤ 4096
  low : lo = A ∨ lo = B ∨ lo = C
  z0 : 0 ≤ Z
  z1 : Z ≤ 6 * (hi - lo)
  at_ : (A = hi ∧ (Z = B - C ∨ Z = B - C + 6 * (hi - lo))) ∨ (B = hi ∧ Z = 2 * (hi - lo) + C - A) ∨ (C = hi ∧ Z = 4 * (hi - lo) + A - B)

section
variable {A B C hi lo : Int}
theorem rgbX_near (hA : 0 ≤ A) (hA1 : A ≤ 4096) (hB : 0 ≤ B) (hB1 : B ≤ 4096) (hC : 0 ≤ C) (hC1 : C ≤ 4096)
    (hmx : fmax3 (fr A) (fr B) (fr C) = fr hi) (hhi : hi = A ∨ hi = B ∨ hi = C) (a1 : A ≤ hi) (b1 : B ≤ hi) (c1 : C ≤ hi)
    (hmn : fmin3 (fr A) (fr B) (fr C) = fr lo) (hlo : lo = A ∨ lo = B ∨ lo = C) (a0 : lo ≤ A) (b0 : lo ≤ B) (c0 : lo ≤ C) (hlt : lo < hi) :
    Fn (rgbX (fr A) (fr B) (fr C)) ∧ ∃ Z0 : Int, ((hi - lo : Int) : Rat) * rv (rgbX (fr A) (fr B) (fr C)) ≤ (Z0 : Rat) + 4 * (((hi - lo : Int) : Rat) * ep) ∧ (Z0 : Rat) ≤ ((hi - lo : Int) : Rat) * rv (rgbX (fr A) (fr B) (fr C)) + 4 * (((hi - lo : Int) : Rat) * ep) ∧
      -6 ≤ rv (rgbX (fr A) (fr B) (fr C)) ∧ rv (rgbX (fr A) (fr B) (fr C)) ≤ 6 ∧
      ((A = hi ∧ Z0 = B - C) ∨ (B = hi ∧ Z0 = 2 * (hi - lo) + C - A) ∨ (C = hi ∧ Z0 = 4 * (hi - lo) + A - B)) := by
  have ghi := fr_gr (a := hi) (by lia) (by lia)
  have glo := fr_gr (a := lo) (by lia) (by lia)
  have gA := fr_gr hA hA1
  have gB := fr_gr hB hB1
  have gC := fr_gr hC hC1
  have gR := sub_gr ghi glo (by lia)
  have qA := quot_near (sub_gr ghi gA (by lia)) gR (by lia) (by lia) (by lia)
  have qB := quot_near (sub_gr ghi gB (by lia)) gR (by lia) (by lia) (by lia)
  have qC := quot_near (sub_gr ghi gC (by lia)) gR (by lia) (by lia) (by lia)
  have eA : rgbD (fr A) (fr B) (fr C) (fr A) = div (sub (fr hi) (fr A)) (sub (fr hi) (fr lo)) := by unfold rgbD; rw [hmx, hmn]
  have eB : rgbD (fr A) (fr B) (fr C) (fr B) = div (sub (fr hi) (fr B)) (sub (fr hi) (fr lo)) := by unfold rgbD; rw [hmx, hmn]
  have eC : rgbD (fr A) (fr B) (fr C) (fr C) = div (sub (fr hi) (fr C)) (sub (fr hi) (fr lo)) := by unfold rgbD; rw [hmx, hmn]
  rw [← eA] at qA
  rw [← eB] at qB
  rw [← eC] at qC
  unfold rgbX feq
  rw [hmx, fr_eq hA hA1 (by lia) (by lia), fr_eq hB hB1 (by lia) (by lia)]
  generalize rgbD (fr A) (fr B) (fr C) (fr A) = dA at *
  generalize rgbD (fr A) (fr B) (fr C) (fr B) = dB at *
  generalize rgbD (fr A) (fr B) (fr C) (fr C) = dC at *
  obtain ⟨fA, qA1, qA2, qA3, qA4⟩ := qA
  obtain ⟨fB, qB1, qB2, qB3, qB4⟩ := qB
  obtain ⟨fC, qC1, qC2, qC3, qC4⟩ := qC
  have hep := ep_pos
  have hep1 := ep_is
  have hRq : (0 : Rat) < ((hi - lo : Int) : Rat) := Rat.intCast_pos.mpr (by lia)
  clear eA eB eC gR gA gB gC ghi glo
  generalize hRR : ((hi - lo : Int) : Rat) = R at *
  by_cases h1 : A = hi
  · rw [if_pos (decide_eq_true h1)]
    obtain ⟨sf, s1, s2⟩ := sub_near fC fB (by grind) (by grind)
    have m1 := mulL (Rat.le_of_lt hRq) s1
    have m2 := mulL (Rat.le_of_lt hRq) s2
    refine ⟨sf, B - C, ?_, ?_, ?_, ?_, .inl ⟨h1, rfl⟩⟩
    · rw [Rat.intCast_sub]; clear hhi hlo; grind
    · rw [Rat.intCast_sub]; clear hhi hlo; grind
    · clear hhi hlo; grind
    · clear hhi hlo; grind
  · rw [if_neg (by rw [decide_eq_false h1]; decide)]
    by_cases h2 : B = hi
    · rw [if_pos (decide_eq_true h2)]
      obtain ⟨af, p1, p2⟩ := add_near gr_2.1 fA (by rw [rv_2]; grind) (by rw [rv_2]; grind)
      rw [rv_2] at p1 p2
      generalize Float64.add 4611686018427387904 dA = y at *
      obtain ⟨sf, s1, s2⟩ := sub_near af fC (by grind) (by grind)
      have n1 := mulL (Rat.le_of_lt hRq) p1
      have n2 := mulL (Rat.le_of_lt hRq) p2
      have m1 := mulL (Rat.le_of_lt hRq) s1
      have m2 := mulL (Rat.le_of_lt hRq) s2
      have hz : ((2 * (hi - lo) + C - A : Int) : Rat) = 2 * R + C - A := by rw [Rat.intCast_sub, Rat.intCast_add, Rat.intCast_mul, hRR]; rfl
      refine ⟨sf, 2 * (hi - lo) + C - A, ?_, ?_, ?_, ?_, .inr (.inl ⟨h2, rfl⟩)⟩
      · rw [hz]; clear hhi hlo; grind
      · rw [hz]; clear hhi hlo; grind
      · clear hhi hlo; grind
      · clear hhi hlo; grind
    · rw [if_neg (by rw [decide_eq_false h2]; decide)]
      have h3 : C = hi := by lia
      obtain ⟨af, p1, p2⟩ := add_near gr_4.1 fB (by rw [rv_4]; grind) (by rw [rv_4]; grind)
      rw [rv_4] at p1 p2
      generalize Float64.add 4616189618054758400 dB = y at *
      obtain ⟨sf, s1, s2⟩ := sub_near af fA (by grind) (by grind)
      have n1 := mulL (Rat.le_of_lt hRq) p1
      have n2 := mulL (Rat.le_of_lt hRq) p2
      have m1 := mulL (Rat.le_of_lt hRq) s1
      have m2 := mulL (Rat.le_of_lt hRq) s2
      have hz : ((4 * (hi - lo) + A - B : Int) : Rat) = 4 * R + A - B := by rw [Rat.intCast_sub, Rat.intCast_add, Rat.intCast_mul, hRR]; rfl
      refine ⟨sf, 4 * (hi - lo) + A - B, ?_, ?_, ?_, ?_, .inr (.inr ⟨h3, rfl⟩)⟩
      · rw [hz]; clear hhi hlo; grind
      · rw [hz]; clear hhi hlo; grind
      · clear hhi hlo; grind
      · clear hhi hlo; grind
end
end Mine
end
section
open PySem PySem.Float64
set_option Elab.async false
namespace Mine
section
variable {A B C hi lo : Int}
/-- whole turns taken off: j is -1 or 0 -/
theorem turns {R Z0 j : Int} (hR : 0 < R) (h1 : -R ≤ Z0) (h2 : Z0 ≤ 5 * R) (h3 : 0 ≤ Z0 - 6 * (R * j)) (h4 : Z0 - 6 * (R * j) ≤ 6 * R) : j = 0 ∨ j = -1 := by
  have a1 : j ≤ 0 := by
    rcases Int.lt_or_le 0 j with h | h
    · exfalso
      have := Int.mul_le_mul_of_nonneg_left (show (1 : Int) ≤ j by lia) (Int.le_of_lt hR)
      rw [Int.mul_one] at this
      lia
    · lia
  have a2 : -1 ≤ j := by
    rcases Int.lt_or_le j (-1) with h | h
    · exfalso
      have := Int.mul_le_mul_of_nonneg_left (show j ≤ -2 by lia) (Int.le_of_lt hR)
      lia
    · lia
  lia

theorem rgbH_hue (hA : 0 ≤ A) (hA1 : A ≤ 4096) (hB : 0 ≤ B) (hB1 : B ≤ 4096) (hC : 0 ≤ C) (hC1 : C ≤ 4096)
    (hmx : fmax3 (fr A) (fr B) (fr C) = fr hi) (hhi : hi = A ∨ hi = B ∨ hi = C) (a1 : A ≤ hi) (b1 : B ≤ hi) (c1 : C ≤ hi)
    (hmn : fmin3 (fr A) (fr B) (fr C) = fr lo) (hlo : lo = A ∨ lo = B ∨ lo = C) (a0 : lo ≤ A) (b0 : lo ≤ B) (c0 : lo ≤ C) (hlt : lo < hi) :
    ∃ Z, Sec A B C hi lo Z ∧ Hue2 (hi - lo) Z (rgbH (fr A) (fr B) (fr C)) := by
  obtain ⟨fX, Z0, x1, x2, x3, x4, hz⟩ := rgbX_near hA hA1 hB hB1 hC hC1 hmx hhi a1 b1 c1 hmn hlo a0 b0 c0 hlt
  unfold rgbH
  generalize rgbX (fr A) (fr B) (fr C) = X at *
  have hep := ep_pos
  have hep1 := ep_is
  obtain ⟨fq, q1, q2⟩ := div_near fX gr_6.1 (by rw [rv_6]; decide) (by rw [rv_6]; grind) (by rw [rv_6]; grind)
  rw [rv_6] at q1 q2
  generalize div X 4618441417868443648 = q at *
  obtain ⟨fH, j, m1, m2, m3, m4⟩ := mod1_spec fq
  generalize mod1 q = H at *
  have hR : 0 < hi - lo := by grind
  have hR1 : hi - lo ≤ 4096 := by grind
  have hz1 : -(hi - lo) ≤ Z0 := by grind
  have hz2 : Z0 ≤ 5 * (hi - lo) := by grind
  generalize hRi : hi - lo = R at *
  have hRq : (0 : Rat) < (R : Rat) := Rat.intCast_pos.mpr hR
  have hRq1 : (R : Rat) ≤ 4096 := cast_le hR1
  have Re : (R : Rat) * ep ≤ 4096 * ep := Rat.mul_le_mul_of_nonneg_right hRq1 (Rat.le_of_lt hep)
  have Re0 : 0 < (R : Rat) * ep := Rat.mul_pos hRq hep
  -- all times R
  have u1 := mulL (Rat.le_of_lt hRq) q1
  have u2 := mulL (Rat.le_of_lt hRq) q2
  have w1 := mulL (Rat.le_of_lt hRq) m1
  have w2 := mulL (Rat.le_of_lt hRq) m2
  have w3 := mulL (Rat.le_of_lt hRq) m3
  have w4 := mulL (Rat.le_of_lt hRq) m4
  have n1 : 6 * (R : Rat) * rv H ≤ (Z0 : Rat) - 6 * ((R : Rat) * (j : Rat)) + 22 * ((R : Rat) * ep) := by clear hz hhi hlo; grind
  have n2 : (Z0 : Rat) - 6 * ((R : Rat) * (j : Rat)) ≤ 6 * (R : Rat) * rv H + 22 * ((R : Rat) * ep) := by clear hz hhi hlo; grind
  have zz : ((Z0 - 6 * (R * j) : Int) : Rat) = (Z0 : Rat) - 6 * ((R : Rat) * (j : Rat)) := by rw [Rat.intCast_sub, Rat.intCast_mul, Rat.intCast_mul]; rfl
  have b1' : 0 ≤ Z0 - 6 * (R * j) := by
    refine int_le_of ?_
    rw [zz, show ((0 : Int) : Rat) = 0 from rfl]; clear hz hhi hlo; grind
  have b2' : Z0 - 6 * (R * j) ≤ 6 * R := by
    refine int_le_of ?_
    rw [zz, Rat.intCast_mul, show ((6 : Int) : Rat) = 6 from rfl]; clear hz hhi hlo; grind
  have hj := turns hR hz1 hz2 b1' b2'
  refine ⟨Z0 - 6 * (R * j), ?_, fH, ?_, ?_⟩
  · rcases hj with rfl | rfl
    · refine ⟨a0, a1, b0, b1, c0, c1, by grind, hlt, by grind, hlo, by grind, by grind, ?_⟩
      rcases hz with ⟨p, p2⟩ | ⟨p, p2⟩ | ⟨p, p2⟩
      · exact .inl ⟨p, .inl (by grind)⟩
      · exact .inr (.inl ⟨p, by grind⟩)
      · exact .inr (.inr ⟨p, by grind⟩)
    · refine ⟨a0, a1, b0, b1, c0, c1, by grind, hlt, by grind, hlo, by grind, by grind, ?_⟩
      rcases hz with ⟨p, p2⟩ | ⟨p, p2⟩ | ⟨p, p2⟩
      · exact .inl ⟨p, .inr (by grind)⟩
      · exfalso; grind
      · exfalso; grind
  · rw [zz]; clear hz hhi hlo; grind
  · rw [zz]; clear hz hhi hlo; grind
end

/-! from the hue to sixths -/
theorem toInt_neg {x : UInt64} (hx : Fn x) : Flt.toInt truncOf x = - Flt.toInt truncOf (neg x) := by
  obtain ⟨a, m, e, h⟩ := hx
  rw [Flt.toInt_fin h, Flt.toInt_fin (neg_decode h)]
  cases a <;> simp [truncOf, ceilOf]
theorem trunc_more {x : UInt64} (hx : Fn x) (h : -1 < rv x) : 0 ≤ Flt.toInt truncOf x ∧ rv x < ((Flt.toInt truncOf x : Int) : Rat) + 1 ∧ (((Flt.toInt truncOf x : Int) : Rat) ≤ rv x ∨ Flt.toInt truncOf x = 0) := by
  rcases Rat.le_total (a := 0) (b := rv x) with h0 | h0
  · obtain ⟨t0, t1, t2⟩ := trunc_spec hx h0
    exact ⟨t0, t2, .inl t1⟩
  · have hn := rv_neg hx
    obtain ⟨t0, t1, t2⟩ := trunc_spec (Fn_neg hx) (by rw [hn]; grind)
    have e := toInt_neg hx
    have hz : Flt.toInt truncOf (neg x) = 0 := by
      have : ((Flt.toInt truncOf (neg x) : Int) : Rat) < ((0 : Int) : Rat) + 1 := by rw [hn] at t1; rw [show ((0 : Int) : Rat) = 0 from rfl]; grind
      have := int_le_of this
      lia
    rw [hz] at e
    rw [e]
    refine ⟨by decide, ?_, .inr (by decide)⟩
    rw [show ((-0 : Int) : Rat) = 0 from rfl]; grind
end Mine
end
section
open PySem PySem.Float64
set_option Elab.async false
namespace Mine

/-- R x is nearly Z -/
theorem six_near {R Z : Int} {H : UInt64} (hR : 0 < R) (hR1 : R ≤ 4096) (z0 : 0 ≤ Z) (z1 : Z ≤ 6 * R) (h : Hue R Z H) :
    Fn (mul H 4618441417868443648) ∧ (R : Rat) * rv (mul H 4618441417868443648) ≤ 6 * (R : Rat) * rv H + (R : Rat) * ep ∧ 6 * (R : Rat) * rv H ≤ (R : Rat) * rv (mul H 4618441417868443648) + (R : Rat) * ep ∧
      -1 ≤ 2 * rv H ∧ rv H ≤ 2 := by
  obtain ⟨fH, h1, h2⟩ := h
  have hep := ep_pos
  have hep1 := ep_is
  have hRq : (0 : Rat) < (R : Rat) := Rat.intCast_pos.mpr hR
  have hRq0 : (1 : Rat) ≤ (R : Rat) := cast_le (a := 1) (by lia)
  have hRq1 : (R : Rat) ≤ 4096 := cast_le hR1
  have cz0 : (0 : Rat) ≤ (Z : Rat) := cast_le (a := 0) z0
  have cz1 : (Z : Rat) ≤ 6 * (R : Rat) := by have := cast_le z1; rw [Rat.intCast_mul] at this; exact this
  have l1 : -1 ≤ 2 * rv H := by
    refine Rat.le_of_mul_le_mul_left (c := (R : Rat)) ?_ hRq
    grind
  have l2 : rv H ≤ 2 := by
    refine Rat.le_of_mul_le_mul_left (c := (R : Rat)) ?_ hRq
    grind
  obtain ⟨f6, m1, m2⟩ := mul_near fH gr_6.1 (by rw [rv_6]; grind) (by rw [rv_6]; grind)
  rw [rv_6] at m1 m2
  have u1 := mulL (Rat.le_of_lt hRq) m1
  have u2 := mulL (Rat.le_of_lt hRq) m2
  refine ⟨f6, ?_, ?_, l1, l2⟩ <;> grind

theorem sixths {R Z : Int} {H : UInt64} (hR : 0 < R) (hR1 : R ≤ 4096) (z0 : 0 ≤ Z) (z1 : Z ≤ 6 * R) (h : Hue R Z H) :
    0 ≤ hsvN H ∧ hsvN H ≤ 6 ∧ hsvN H * R ≤ Z ∧ Z ≤ (hsvN H + 1) * R := by
  obtain ⟨f6, m1, m2, l1, l2⟩ := six_near hR hR1 z0 z1 h
  obtain ⟨fH, h1, h2⟩ := h
  unfold hsvN
  generalize mul H 4618441417868443648 = x at *
  have hep := ep_pos
  have hep1 := ep_is
  have hRq : (0 : Rat) < (R : Rat) := Rat.intCast_pos.mpr hR
  have hRq0 : (1 : Rat) ≤ (R : Rat) := cast_le (a := 1) (by lia)
  have hRq1 : (R : Rat) ≤ 4096 := cast_le hR1
  have Re : (R : Rat) * ep ≤ 4096 * ep := Rat.mul_le_mul_of_nonneg_right hRq1 (Rat.le_of_lt hep)
  have cz0 : (0 : Rat) ≤ (Z : Rat) := cast_le (a := 0) z0
  have hx : -1 < rv x := by
    refine Rat.lt_of_mul_lt_mul_left (c := (R : Rat)) ?_ (Rat.le_of_lt hRq)
    grind
  obtain ⟨t0, t1, t2⟩ := trunc_more f6 hx
  generalize Flt.toInt truncOf x = n at *
  have a1 : n * R ≤ Z := by
    rcases t2 with t2 | t2
    · refine int_le_of ?_
      rw [Rat.intCast_mul]
      have := mulL (Rat.le_of_lt hRq) t2
      grind
    · rw [t2, Int.zero_mul]; exact z0
  have a2 : Z ≤ (n + 1) * R := by
    refine int_le_of ?_
    rw [Rat.intCast_mul, Rat.intCast_add, show ((1 : Int) : Rat) = 1 from rfl]
    have := mulL (Rat.le_of_lt hRq) (Rat.le_of_lt t1)
    grind
  refine ⟨t0, ?_, a1, a2⟩
  refine Int.le_of_mul_le_mul_right (a := R) ?_ hR
  lia

theorem folds {R Z : Int} {H : UInt64} (hR : 0 < R) (hR1 : R ≤ 4096) (z0 : 0 ≤ Z) (z1 : Z ≤ 6 * R) (h : Hue2 R Z H) :
    Fn (div (mul H 4618441417868443648) (ofInt 2)) ∧ 0 ≤ hueK H ∧ hueK H ≤ 3 ∧ ∃ P : Int, 0 ≤ P ∧ P ≤ R ∧ (P = Z - 2 * (hueK H * R) ∨ P = 2 * (hueK H * R) - Z) ∧ Hue R P (hueFo H) := by
  obtain ⟨f6, m1, m2, l1, l2⟩ := six_near hR hR1 z0 z1 h.hue
  obtain ⟨fH, h1, h2⟩ := h
  unfold hueFo
  have hep := ep_pos
  have hep1 := ep_is
  have hRq : (0 : Rat) < (R : Rat) := Rat.intCast_pos.mpr hR
  have hRq0 : (1 : Rat) ≤ (R : Rat) := cast_le (a := 1) (by lia)
  have hRq1 : (R : Rat) ≤ 4096 := cast_le hR1
  have Re : (R : Rat) * ep ≤ 4096 * ep := Rat.mul_le_mul_of_nonneg_right hRq1 (Rat.le_of_lt hep)
  have Re0 : 0 < (R : Rat) * ep := Rat.mul_pos hRq hep
  have cz0 : (0 : Rat) ≤ (Z : Rat) := cast_le (a := 0) z0
  have cz1 : (Z : Rat) ≤ 6 * (R : Rat) := by have := cast_le z1; rw [Rat.intCast_mul] at this; exact this
  have e2 := rv_ofInt (i := 2) (by decide)
  have e6 := rv_ofInt (i := 6) (by decide)
  have g2 := (ofInt_gr (i := 2) (by decide)).1
  have g6 := (ofInt_gr (i := 6) (by decide)).1
  rw [show ((2 : Int) : Rat) = 2 from rfl] at e2
  rw [show ((6 : Int) : Rat) = 6 from rfl] at e6
  have hK : hueK H = Flt.toInt nearestOf (div (mul H 4618441417868443648) (ofInt 2)) := rfl
  generalize hKK : hueK H = K at *
  generalize mul H 4618441417868443648 = x at *
  have x1 : -1 ≤ 4 * rv x := by
    refine Rat.le_of_mul_le_mul_left (c := (R : Rat)) ?_ hRq
    grind
  have x2 : rv x ≤ 7 := by
    refine Rat.le_of_mul_le_mul_left (c := (R : Rat)) ?_ hRq
    grind
  obtain ⟨fy, y1, y2⟩ := div_near f6 g2 (by rw [e2]; decide) (by rw [e2]; grind) (by rw [e2]; grind)
  rw [e2] at y1 y2
  have hn := nearest_spec fy
  rw [← hK] at hn
  obtain ⟨k1, k2⟩ := hn
  refine ⟨fy, ?_⟩
  generalize div x (ofInt 2) = y at *
  have K0 : 0 ≤ K := by
    have : ((0 : Int) : Rat) < (K : Rat) + 1 := by rw [show ((0 : Int) : Rat) = 0 from rfl]; grind
    exact int_le_of this
  have K3 : K ≤ 3 := by
    refine Int.lt_add_one_iff.mp ?_
    refine Rat.intCast_lt_intCast.mp ?_
    rw [show ((3 + 1 : Int) : Rat) = 4 from rfl]
    -- 2K ≤ 2y + 1 ≤ x + 2ep + 1, and R x ≤ 6R + a bit
    have x3 : rv x ≤ 6 + 1 / 2 := by
      refine Rat.le_of_mul_le_mul_left (c := (R : Rat)) ?_ hRq
      have : (1 / 2 : Rat) * 2 = 1 := by decide +kernel
      generalize (1 / 2 : Rat) = c at *
      have : (R : Rat) ≤ 2 * ((R : Rat) * c) := by
        have : 2 * ((R : Rat) * c) = (R : Rat) * (c * 2) := by grind
        rw [this]; grind
      grind
    have : (1 / 2 : Rat) * 2 = 1 := by decide +kernel
    generalize (1 / 2 : Rat) = c at *
    grind
  have v1 := mulL (Rat.le_of_lt hRq) k1
  have v2 := mulL (Rat.le_of_lt hRq) k2
  have w1 := mulL (Rat.le_of_lt hRq) y1
  have w2 := mulL (Rat.le_of_lt hRq) y2
  have kr : ((2 * (K * R) : Int) : Rat) = 2 * ((R : Rat) * (K : Rat)) := by rw [Rat.intCast_mul, Rat.intCast_mul, Rat.mul_comm (K : Rat)]; rfl
  have b1 : Z - 2 * (K * R) ≤ R := by
    refine int_le_of ?_
    rw [Rat.intCast_sub, kr]; grind
  have b2 : 2 * (K * R) - Z ≤ R := by
    refine int_le_of ?_
    rw [Rat.intCast_sub, kr]; grind
  -- the difference
  have ek := rv_ofInt (i := 2 * K) (by lia)
  have gk := (ofInt_gr (i := 2 * K) (by lia)).1
  rw [Rat.intCast_mul, show ((2 : Int) : Rat) = 2 from rfl] at ek
  have cK0 : (0 : Rat) ≤ (K : Rat) := cast_le (a := 0) K0
  have cK3 : (K : Rat) ≤ 3 := cast_le (b := 3) K3
  obtain ⟨fs, s1, s2⟩ := sub_near f6 gk (by rw [ek]; grind) (by rw [ek]; grind)
  rw [ek] at s1 s2
  generalize sub x (ofInt (2 * K)) = d at *
  have d1 := mulL (Rat.le_of_lt hRq) s1
  have d2 := mulL (Rat.le_of_lt hRq) s2
  obtain ⟨fa, ha, ha0⟩ := abs_spec fs
  have bd : -20 ≤ rv d ∧ rv d ≤ 20 := by constructor <;> grind
  have ba : rv (Float64.abs d) ≤ 20 := by rcases ha with ha | ha <;> rw [ha] <;> grind
  generalize Float64.abs d = a at *
  obtain ⟨ff, p1, p2⟩ := div_near fa g6 (by rw [e6]; decide) (by rw [e6]; grind) (by rw [e6]; grind)
  rw [e6] at p1 p2
  have o1 := mulL (Rat.le_of_lt hRq) p1
  have o2 := mulL (Rat.le_of_lt hRq) p2
  have a0 := mulL (Rat.le_of_lt hRq) ha0
  generalize div a (ofInt 6) = F at *
  refine ⟨K0, K3, ?_⟩
  rcases ha with ha | ha
  · rw [ha] at o1 o2 a0
    refine ⟨Z - 2 * (K * R), ?_, b1, .inl rfl, ff, ?_, ?_⟩
    · refine int_le_of ?_
      rw [Rat.intCast_sub, kr, show ((0 : Int) : Rat) = 0 from rfl]; grind
    · rw [Rat.intCast_sub, kr]; grind
    · rw [Rat.intCast_sub, kr]; grind
  · rw [ha] at o1 o2 a0
    refine ⟨2 * (K * R) - Z, ?_, b2, .inr rfl, ff, ?_, ?_⟩
    · refine int_le_of ?_
      rw [Rat.intCast_sub, kr, show ((0 : Int) : Rat) = 0 from rfl]; grind
    · rw [Rat.intCast_sub, kr]; grind
    · rw [Rat.intCast_sub, kr]; grind
end Mine
end
section
open PySem PySem.Float64
set_option Elab.async false
namespace Mine

/-- 4096 parts of it, rounded, are a -/
def Rd (x : UInt64) (a : Int) : Prop := isFinite (mul (ofInt 4096) x) = true ∧ Flt.toInt nearestOf (mul (ofInt 4096) x) = a
theorem rd_of {x : UInt64} {a : Int} (hx : Fn x) (h1 : 8 * (4096 * rv x - (a : Rat)) ≤ 1) (h2 : 8 * ((a : Rat) - 4096 * rv x) ≤ 1) (h3 : 0 ≤ a) (h4 : a ≤ 4096) : Rd x a := by
  have e := rv_ofInt (i := 4096) (by decide)
  have g := (ofInt_gr (i := 4096) (by decide)).1
  rw [show ((4096 : Int) : Rat) = 4096 from rfl] at e
  have c3 : (0 : Rat) ≤ (a : Rat) := cast_le (a := 0) h3
  have c4 : (a : Rat) ≤ 4096 := cast_le (b := 4096) h4
  obtain ⟨f, m1, m2⟩ := mul_near g hx (by rw [e]; grind) (by rw [e]; grind)
  rw [e] at m1 m2
  obtain ⟨n1, n2⟩ := nearest_spec f
  have hep := ep_pos
  have hep1 := ep_is
  refine ⟨Fn_finite.mpr f, ?_⟩
  generalize Flt.toInt nearestOf (mul (ofInt 4096) x) = k at *
  have a1 : k ≤ a := int_le_of (by grind)
  have a2 : a ≤ k := int_le_of (by grind)
  lia

theorem gr_rd {x : UInt64} {a : Int} (hx : Gr x a) (h3 : 0 ≤ a) (h4 : a ≤ 4096) : Rd x a := by
  have := hx.2
  exact rd_of hx.1 (by grind) (by grind) h3 h4

/-- the bounds of a saturation -/
theorem sat_bd {s h R : Rat} (hh : 0 < h) (hR0 : 0 ≤ R) (hR : R ≤ h) (h1 : s * h ≤ R + h * ep) (h2 : R ≤ s * h + h * ep) : -1 ≤ s ∧ s ≤ 2 := by
  have hep := ep_pos
  have hep1 := ep_is
  have he : h * ep ≤ h := by
    have := mulL (Rat.le_of_lt hh) (show ep ≤ 1 by grind)
    grind
  constructor
  · refine Rat.le_of_mul_le_mul_left (c := h) ?_ hh
    grind
  · refine Rat.le_of_mul_le_mul_left (c := h) ?_ hh
    grind

/-- v (1 - s f), s h being R nearly and R f being z nearly -/
theorem shade {V S F : UInt64} {hi R z : Int} (hV : Gr V hi) (hh : 0 < hi) (hh1 : hi ≤ 4096) (hR0 : 0 ≤ R) (hR : R ≤ hi) (hS : Fn S) (s1 : rv S * (hi : Rat) ≤ (R : Rat) + (hi : Rat) * ep) (s2 : (R : Rat) ≤ rv S * (hi : Rat) + (hi : Rat) * ep)
    (hF : Fn F) (f1 : -2 ≤ rv F) (f2 : rv F ≤ 2) (z1 : 65536 * ((R : Rat) * rv F - (z : Rat)) ≤ 1) (z2 : 65536 * ((z : Rat) - (R : Rat) * rv F) ≤ 1) (h0 : 0 ≤ hi - z) (h1 : hi - z ≤ 4096) :
    Rd (mul V (sub 4607182418800017408 (mul S F))) (hi - z) := by
  have hep := ep_pos
  have hep1 := ep_is
  have hhq : (0 : Rat) < (hi : Rat) := Rat.intCast_pos.mpr hh
  have hhq1 : (hi : Rat) ≤ 4096 := cast_le hh1
  have hRq : (R : Rat) ≤ (hi : Rat) := cast_le hR
  have hRq0 : (0 : Rat) ≤ (R : Rat) := cast_le (a := 0) hR0
  have he : (hi : Rat) * ep ≤ 4096 * ep := Rat.mul_le_mul_of_nonneg_right hhq1 (Rat.le_of_lt hep)
  have he0 : 0 < (hi : Rat) * ep := Rat.mul_pos hhq hep
  obtain ⟨b1, b2⟩ := sat_bd hhq hRq0 hRq s1 s2
  -- the product
  obtain ⟨c1, c2⟩ := mul_bd (E := 2) (F := 2) (show -2 ≤ rv S by grind) b2 f1 f2
  obtain ⟨fp, p1, p2⟩ := mul_near hS hF (by grind) (by grind)
  generalize mul S F = P at *
  -- hi times the product
  have u1 := mulL (Rat.le_of_lt hhq) p1
  have u2 := mulL (Rat.le_of_lt hhq) p2
  obtain ⟨d1, d2⟩ := mul_bd (e := rv S * (hi : Rat) - (R : Rat)) (E := 4096 * ep) (f := rv F) (F := 2) (by grind) (by grind) f1 f2
  have pb : -5 ≤ rv P ∧ rv P ≤ 5 := by constructor <;> grind
  obtain ⟨fd, q1, q2⟩ := sub_near gr_1.1 fp (by rw [rv_1]; grind) (by rw [rv_1]; grind)
  rw [rv_1] at q1 q2
  generalize sub 4607182418800017408 P = D at *
  have w1 := mulL (Rat.le_of_lt hhq) q1
  have w2 := mulL (Rat.le_of_lt hhq) q2
  have hv := hV.2
  have vb : 0 ≤ rv V ∧ rv V ≤ 1 := by constructor <;> grind
  have db : -7 ≤ rv D ∧ rv D ≤ 7 := by constructor <;> grind
  obtain ⟨x1, x2⟩ := mul_bd (E := 1) (F := 7) (show -1 ≤ rv V by grind) vb.2 db.1 db.2
  obtain ⟨ft, t1, t2⟩ := mul_near hV.1 fd (by grind) (by grind)
  generalize mul V D = T at *
  have ev : 4096 * (rv V * rv D) = (hi : Rat) * rv D := by rw [← hv]; grind
  refine rd_of ft ?_ ?_ h0 h1
  · rw [Rat.intCast_sub]; grind
  · rw [Rat.intCast_sub]; grind
end Mine
end
section
open PySem PySem.Float64
set_option Elab.async false
namespace Mine

theorem shadeP {V S : UInt64} {hi R : Int} (hV : Gr V hi) (hh : 0 < hi) (hh1 : hi ≤ 4096) (hR0 : 0 ≤ R) (hR : R ≤ hi) (hS : Fn S) (s1 : rv S * (hi : Rat) ≤ (R : Rat) + (hi : Rat) * ep) (s2 : (R : Rat) ≤ rv S * (hi : Rat) + (hi : Rat) * ep) :
    Rd (hsvP S V) (hi - R) := by
  unfold hsvP
  have hep := ep_pos
  have hep1 := ep_is
  have hhq : (0 : Rat) < (hi : Rat) := Rat.intCast_pos.mpr hh
  have hhq1 : (hi : Rat) ≤ 4096 := cast_le hh1
  have hRq : (R : Rat) ≤ (hi : Rat) := cast_le hR
  have hRq0 : (0 : Rat) ≤ (R : Rat) := cast_le (a := 0) hR0
  have he : (hi : Rat) * ep ≤ 4096 * ep := Rat.mul_le_mul_of_nonneg_right hhq1 (Rat.le_of_lt hep)
  have he0 : 0 < (hi : Rat) * ep := Rat.mul_pos hhq hep
  obtain ⟨b1, b2⟩ := sat_bd hhq hRq0 hRq s1 s2
  obtain ⟨fd, q1, q2⟩ := sub_near gr_1.1 hS (by rw [rv_1]; grind) (by rw [rv_1]; grind)
  rw [rv_1] at q1 q2
  generalize sub 4607182418800017408 S = D at *
  have w1 := mulL (Rat.le_of_lt hhq) q1
  have w2 := mulL (Rat.le_of_lt hhq) q2
  have hv := hV.2
  have vb : 0 ≤ rv V ∧ rv V ≤ 1 := by constructor <;> grind
  have db : -7 ≤ rv D ∧ rv D ≤ 7 := by constructor <;> grind
  obtain ⟨x1, x2⟩ := mul_bd (E := 1) (F := 7) (show -1 ≤ rv V by grind) vb.2 db.1 db.2
  obtain ⟨ft, t1, t2⟩ := mul_near hV.1 fd (by grind) (by grind)
  generalize mul V D = T at *
  have ev : 4096 * (rv V * rv D) = (hi : Rat) * rv D := by rw [← hv]; grind
  refine rd_of ft ?_ ?_ (by lia) (by lia)
  · rw [Rat.intCast_sub]; grind
  · rw [Rat.intCast_sub]; grind

theorem hsv_parts {V S H : UInt64} {hi R Z : Int} (hV : Gr V hi) (hh1 : hi ≤ 4096) (hR0 : 0 < R) (hR : R ≤ hi) (hS : Fn S) (s1 : rv S * (hi : Rat) ≤ (R : Rat) + (hi : Rat) * ep) (s2 : (R : Rat) ≤ rv S * (hi : Rat) + (hi : Rat) * ep)
    (z0 : 0 ≤ Z) (z1 : Z ≤ 6 * R) (h : Hue R Z H) :
    Rd V hi ∧ Rd (hsvP S V) (hi - R) ∧ Rd (hsvQ H S V) (hi - (Z - hsvN H * R)) ∧ Rd (hsvT H S V) (hi - (R - (Z - hsvN H * R))) := by
  obtain ⟨n0, n6, n1, n2⟩ := sixths hR0 (by lia) z0 z1 h
  obtain ⟨f6, m1, m2, l1, l2⟩ := six_near hR0 (by lia) z0 z1 h
  obtain ⟨fH, h1, h2⟩ := h
  unfold hsvQ hsvT hsvF
  generalize hsvN H = n at *
  generalize mul H 4618441417868443648 = x at *
  have hep := ep_pos
  have hep1 := ep_is
  have hRq : (0 : Rat) < (R : Rat) := Rat.intCast_pos.mpr hR0
  have hRq0 : (1 : Rat) ≤ (R : Rat) := cast_le (a := 1) (by lia)
  have hRq1 : (R : Rat) ≤ 4096 := cast_le (b := 4096) (by lia)
  have Re : (R : Rat) * ep ≤ 4096 * ep := Rat.mul_le_mul_of_nonneg_right hRq1 (Rat.le_of_lt hep)
  have Re0 : 0 < (R : Rat) * ep := Rat.mul_pos hRq hep
  have cz0 : (0 : Rat) ≤ (Z : Rat) := cast_le (a := 0) z0
  have cz1 : (Z : Rat) ≤ 6 * (R : Rat) := by have := cast_le z1; rw [Rat.intCast_mul] at this; exact this
  have cn0 : (0 : Rat) ≤ (n : Rat) := cast_le (a := 0) n0
  have cn6 : (n : Rat) ≤ 6 := cast_le (b := 6) n6
  have en := rv_ofInt (i := n) (by lia)
  have gn := (ofInt_gr (i := n) (by lia)).1
  have e2 : (n + 1) * R = n * R + R := by rw [Int.add_mul, Int.one_mul]
  rw [e2] at n2
  have x1 : -1 ≤ rv x := by
    refine Rat.le_of_mul_le_mul_left (c := (R : Rat)) ?_ hRq
    grind
  have x2 : rv x ≤ 7 := by
    refine Rat.le_of_mul_le_mul_left (c := (R : Rat)) ?_ hRq
    grind
  obtain ⟨ff, d1, d2⟩ := sub_near f6 gn (by rw [en]; grind) (by rw [en]; grind)
  rw [en] at d1 d2
  generalize sub x (ofInt n) = F at *
  have w1 := mulL (Rat.le_of_lt hRq) d1
  have w2 := mulL (Rat.le_of_lt hRq) d2
  have cn1 := cast_le n1
  have cn2 := cast_le n2
  rw [Rat.intCast_mul] at cn1
  rw [Rat.intCast_add, Rat.intCast_mul] at cn2
  have nR : ((n * R : Int) : Rat) = (R : Rat) * (n : Rat) := by rw [Rat.intCast_mul, Rat.mul_comm]
  have F1 : -2 ≤ rv F := by
    refine Rat.le_of_mul_le_mul_left (c := (R : Rat)) ?_ hRq
    grind
  have F2 : rv F ≤ 2 := by
    refine Rat.le_of_mul_le_mul_left (c := (R : Rat)) ?_ hRq
    grind
  have F1' : -1 ≤ 2 * rv F := by
    refine Rat.le_of_mul_le_mul_left (c := (R : Rat)) ?_ hRq
    grind
  obtain ⟨fg, g1, g2⟩ := sub_near gr_1.1 ff (by rw [rv_1]; grind) (by rw [rv_1]; grind)
  rw [rv_1] at g1 g2
  have v1 := mulL (Rat.le_of_lt hRq) g1
  have v2 := mulL (Rat.le_of_lt hRq) g2
  refine ⟨gr_rd hV (by lia) hh1, shadeP hV (by lia) hh1 (by lia) hR hS s1 s2, ?_, ?_⟩
  · refine shade hV (by lia) hh1 (by lia) hR hS s1 s2 ff F1 F2 ?_ ?_ (by lia) (by lia)
    · rw [Rat.intCast_sub, nR]; grind
    · rw [Rat.intCast_sub, nR]; grind
  · refine shade hV (by lia) hh1 (by lia) hR hS s1 s2 fg (by grind) (by grind) ?_ ?_ (by lia) (by lia)
    · rw [Rat.intCast_sub, Rat.intCast_sub, nR]; grind
    · rw [Rat.intCast_sub, Rat.intCast_sub, nR]; grind
end Mine
end
section
open PySem PySem.Float64
set_option Elab.async false
namespace Mine

theorem hsvRgb_cases {H S V : UInt64} (hs : feq S 0 = false) (n : Int) (hn : hsvN H = n) (h0 : 0 ≤ n) (h6 : n ≤ 6) :
    ((n = 0 ∨ n = 6) ∧ hsvRgb H S V = (V, hsvT H S V, hsvP S V)) ∨ (n = 1 ∧ hsvRgb H S V = (hsvQ H S V, V, hsvP S V)) ∨ (n = 2 ∧ hsvRgb H S V = (hsvP S V, V, hsvT H S V)) ∨
    (n = 3 ∧ hsvRgb H S V = (hsvP S V, hsvQ H S V, V)) ∨ (n = 4 ∧ hsvRgb H S V = (hsvT H S V, hsvP S V, V)) ∨ (n = 5 ∧ hsvRgb H S V = (V, hsvP S V, hsvQ H S V)) := by
  have hc : n = 0 ∨ n = 1 ∨ n = 2 ∨ n = 3 ∨ n = 4 ∨ n = 5 ∨ n = 6 := by lia
  unfold hsvRgb
  rw [hs, hn]
  rcases hc with rfl | rfl | rfl | rfl | rfl | rfl | rfl
  · exact .inl ⟨.inl rfl, rfl⟩
  · exact .inr (.inl ⟨rfl, rfl⟩)
  · exact .inr (.inr (.inl ⟨rfl, rfl⟩))
  · exact .inr (.inr (.inr (.inl ⟨rfl, rfl⟩)))
  · exact .inr (.inr (.inr (.inr (.inl ⟨rfl, rfl⟩))))
  · exact .inr (.inr (.inr (.inr (.inr ⟨rfl, rfl⟩))))
  · exact .inl ⟨.inr rfl, rfl⟩

theorem rd_eq {x : UInt64} {a b : Int} (h : Rd x a) (e : a = b) : Rd x b := e ▸ h

/-- the whole-number story of one box -/
theorem sec_ord {A B C hi lo Z n : Int} (s : Sec A B C hi lo Z) (h0 : 0 ≤ n) (h6 : n ≤ 6) (h1 : n * (hi - lo) ≤ Z) (h2 : Z ≤ (n + 1) * (hi - lo)) :
    OrdOk (n.fmod 6) A B C hi (A + B + C - hi - lo) lo := by
  obtain ⟨a0, a1, b0, b1, c0, c1, l0, lt, hh, low, z0, z1, at_⟩ := s
  have hc : n = 0 ∨ n = 1 ∨ n = 2 ∨ n = 3 ∨ n = 4 ∨ n = 5 ∨ n = 6 := by lia
  intro x y z o
  rcases hc with rfl | rfl | rfl | rfl | rfl | rfl | rfl
  · rw [show (0 : Int).fmod 6 = 0 from rfl] at o
    have : x = 0 ∧ y = 1 ∧ z = 2 := by unfold Ord at o; lia
    obtain ⟨rfl, rfl, rfl⟩ := this
    show [hi, A + B + C - hi - lo, lo] = [A, B, C]
    have e : hi = A ∧ A + B + C - hi - lo = B ∧ lo = C := by lia
    rw [← e.1, e.2.2]; congr 1; congr 1; lia
  · rw [show (1 : Int).fmod 6 = 1 from rfl] at o
    have : x = 1 ∧ y = 0 ∧ z = 2 := by unfold Ord at o; lia
    obtain ⟨rfl, rfl, rfl⟩ := this
    show [hi, A + B + C - hi - lo, lo] = [B, A, C]
    have e : hi = B ∧ A + B + C - hi - lo = A ∧ lo = C := by lia
    rw [← e.1, e.2.2]; congr 1; congr 1; lia
  · rw [show (2 : Int).fmod 6 = 2 from rfl] at o
    have : x = 1 ∧ y = 2 ∧ z = 0 := by unfold Ord at o; lia
    obtain ⟨rfl, rfl, rfl⟩ := this
    show [hi, A + B + C - hi - lo, lo] = [B, C, A]
    have e : hi = B ∧ A + B + C - hi - lo = C ∧ lo = A := by lia
    rw [← e.1, e.2.2]; congr 1; congr 1; lia
  · rw [show (3 : Int).fmod 6 = 3 from rfl] at o
    have : x = 2 ∧ y = 1 ∧ z = 0 := by unfold Ord at o; lia
    obtain ⟨rfl, rfl, rfl⟩ := this
    show [hi, A + B + C - hi - lo, lo] = [C, B, A]
    have e : hi = C ∧ A + B + C - hi - lo = B ∧ lo = A := by lia
    rw [← e.1, e.2.2]; congr 1; congr 1; lia
  · rw [show (4 : Int).fmod 6 = 4 from rfl] at o
    have : x = 2 ∧ y = 0 ∧ z = 1 := by unfold Ord at o; lia
    obtain ⟨rfl, rfl, rfl⟩ := this
    show [hi, A + B + C - hi - lo, lo] = [C, A, B]
    have e : hi = C ∧ A + B + C - hi - lo = A ∧ lo = B := by lia
    rw [← e.1, e.2.2]; congr 1; congr 1; lia
  · rw [show (5 : Int).fmod 6 = 5 from rfl] at o
    have : x = 0 ∧ y = 2 ∧ z = 1 := by unfold Ord at o; lia
    obtain ⟨rfl, rfl, rfl⟩ := this
    show [hi, A + B + C - hi - lo, lo] = [A, C, B]
    have e : hi = A ∧ A + B + C - hi - lo = C ∧ lo = B := by lia
    rw [← e.1, e.2.2]; congr 1; congr 1; lia
  · rw [show (6 : Int).fmod 6 = 0 from rfl] at o
    have : x = 0 ∧ y = 1 ∧ z = 2 := by unfold Ord at o; lia
    obtain ⟨rfl, rfl, rfl⟩ := this
    show [hi, A + B + C - hi - lo, lo] = [A, B, C]
    have e : hi = A ∧ A + B + C - hi - lo = B ∧ lo = C := by lia
    rw [← e.1, e.2.2]; congr 1; congr 1; lia

theorem sec_fold {A B C hi lo Z K P : Int} (s : Sec A B C hi lo Z) (h0 : 0 ≤ K) (h3 : K ≤ 3) (p0 : 0 ≤ P) (p1 : P ≤ hi - lo) (hp : P = Z - 2 * (K * (hi - lo)) ∨ P = 2 * (K * (hi - lo)) - Z) :
    lo + P = A + B + C - hi - lo := by
  obtain ⟨a0, a1, b0, b1, c0, c1, l0, lt, hh, low, z0, z1, at_⟩ := s
  have hc : K = 0 ∨ K = 1 ∨ K = 2 ∨ K = 3 := by lia
  rcases hc with rfl | rfl | rfl | rfl <;> lia

theorem hsv_back {A B C hi lo Z : Int} {H S V : UInt64} (s : Sec A B C hi lo Z) (hV : Gr V hi) (hS : Fn S) (hs : feq S 0 = false)
    (s1 : rv S * (hi : Rat) ≤ ((hi - lo : Int) : Rat) + (hi : Rat) * ep) (s2 : ((hi - lo : Int) : Rat) ≤ rv S * (hi : Rat) + (hi : Rat) * ep) (h : Hue (hi - lo) Z H) :
    ∃ x y z, hsvRgb H S V = (x, y, z) ∧ Rd x A ∧ Rd y B ∧ Rd z C := by
  have s' := s
  obtain ⟨a0, a1, b0, b1, c0, c1, l0, lt, hh, low, z0, z1, at_⟩ := s'
  obtain ⟨n0, n6, n1, n2⟩ := sixths (by lia) (by lia) z0 z1 h
  obtain ⟨rV, rP, rQ, rT⟩ := hsv_parts hV hh (by lia) (by lia) hS s1 s2 z0 z1 h
  have hc := hsvRgb_cases (V := V) hs (hsvN H) rfl n0 n6
  generalize hsvN H = n at *
  rcases hc with ⟨rfl | rfl, e⟩ | ⟨rfl, e⟩ | ⟨rfl, e⟩ | ⟨rfl, e⟩ | ⟨rfl, e⟩ | ⟨rfl, e⟩
  · exact ⟨_, _, _, e, rd_eq rV (by lia), rd_eq rT (by lia), rd_eq rP (by lia)⟩
  · exact ⟨_, _, _, e, rd_eq rV (by lia), rd_eq rT (by lia), rd_eq rP (by lia)⟩
  · exact ⟨_, _, _, e, rd_eq rQ (by lia), rd_eq rV (by lia), rd_eq rP (by lia)⟩
  · exact ⟨_, _, _, e, rd_eq rP (by lia), rd_eq rV (by lia), rd_eq rT (by lia)⟩
  · exact ⟨_, _, _, e, rd_eq rP (by lia), rd_eq rQ (by lia), rd_eq rV (by lia)⟩
  · exact ⟨_, _, _, e, rd_eq rT (by lia), rd_eq rP (by lia), rd_eq rV (by lia)⟩
  · exact ⟨_, _, _, e, rd_eq rV (by lia), rd_eq rP (by lia), rd_eq rQ (by lia)⟩

theorem hsv_told {hi lo P : Int} {H S V : UInt64} (hV : Gr V hi) (l0 : 0 ≤ lo) (lt : lo < hi) (hh : hi ≤ 4096) (hS : Fn S) (hs : feq S 0 = false)
    (s1 : rv S * (hi : Rat) ≤ ((hi - lo : Int) : Rat) + (hi : Rat) * ep) (s2 : ((hi - lo : Int) : Rat) ≤ rv S * (hi : Rat) + (hi : Rat) * ep) (p0 : 0 ≤ P) (p1 : P ≤ hi - lo) (h : Hue (hi - lo) P H) :
    (hsvN H).natAbs ≤ 8192 ∧ ∃ x y z, hsvRgb H S V = (x, y, z) ∧ Rd x hi ∧ Rd y (lo + P) ∧ Rd z lo := by
  obtain ⟨n0, n6, n1, n2⟩ := sixths (by lia) (by lia) p0 (by lia) h
  obtain ⟨rV, rP, rQ, rT⟩ := hsv_parts hV hh (by lia) (by lia) hS s1 s2 p0 (by lia) h
  have hc := hsvRgb_cases (V := V) hs (hsvN H) rfl n0 n6
  generalize hsvN H = n at *
  refine ⟨by lia, ?_⟩
  rcases hc with ⟨rfl | rfl, e⟩ | ⟨rfl, e⟩ | ⟨rfl, e⟩ | ⟨rfl, e⟩ | ⟨rfl, e⟩ | ⟨rfl, e⟩
  · exact ⟨_, _, _, e, rd_eq rV (by lia), rd_eq rT (by lia), rd_eq rP (by lia)⟩
  · exfalso; lia
  · exact ⟨_, _, _, e, rd_eq rQ (by lia), rd_eq rV (by lia), rd_eq rP (by lia)⟩
  · exfalso; lia
  · exfalso; lia
  · exfalso; lia
  · exfalso; lia
end Mine
end
section
open PySem PySem.Float64
set_option Elab.async false
namespace Mine

def VRel (R lo hi Y a : Int) : Prop := ∃ W, (W = Y ∨ W = Y + 6 * R ∨ W = Y - 6 * R) ∧ 0 ≤ W ∧ W ≤ 6 * R ∧ ((W ≤ R ∧ a = lo + W) ∨ (R ≤ W ∧ W ≤ 3 * R ∧ a = hi) ∨ (3 * R ≤ W ∧ W ≤ 4 * R ∧ a = lo + 4 * R - W) ∨ (4 * R ≤ W ∧ a = lo))

theorem turns3 {R Y j : Int} (hR : 0 < R) (h1 : -(2 * R) ≤ Y) (h2 : Y ≤ 8 * R) (h3 : 0 ≤ Y - 6 * (R * j)) (h4 : Y - 6 * (R * j) ≤ 6 * R) : j = 0 ∨ j = -1 ∨ j = 1 := by
  have a1 : j ≤ 1 := by
    rcases Int.lt_or_le 1 j with h | h
    · exfalso
      have := Int.mul_le_mul_of_nonneg_left (show (2 : Int) ≤ j by lia) (Int.le_of_lt hR)
      lia
    · lia
  have a2 : -1 ≤ j := by
    rcases Int.lt_or_le j (-1) with h | h
    · exfalso
      have := Int.mul_le_mul_of_nonneg_left (show j ≤ -2 by lia) (Int.le_of_lt hR)
      lia
    · lia
  lia

/-- the ramp: m1 + (m2 - m1) * w * 6 -/
theorem ramp {m1 m2 u : UInt64} {lo R z : Int} (hR0 : 0 < R) (hR1 : R ≤ 4096) (f1 : Fn m1) (f2 : Fn m2) (fu : Fn u)
    (a1 : 262144 * (4096 * rv m1 - (lo : Rat)) ≤ 1) (a2 : 262144 * ((lo : Rat) - 4096 * rv m1) ≤ 1) (b1 : 262144 * (4096 * rv m2 - ((lo : Rat) + (R : Rat))) ≤ 1) (b2 : 262144 * (((lo : Rat) + (R : Rat)) - 4096 * rv m2) ≤ 1)
    (u1 : -1 ≤ rv u) (u2 : rv u ≤ 2) (z1 : 4096 * (6 * (R : Rat) * rv u - (z : Rat)) ≤ 1) (z2 : 4096 * ((z : Rat) - 6 * (R : Rat) * rv u) ≤ 1) (h0 : 0 ≤ lo) (h1 : lo ≤ 4096) (h2 : 0 ≤ lo + z) (h3 : lo + z ≤ 4096) :
    Rd (add m1 (mul (mul (sub m2 m1) u) 4618441417868443648)) (lo + z) := by
  have hep := ep_pos
  have hep1 := ep_is
  have hRq : (0 : Rat) < (R : Rat) := Rat.intCast_pos.mpr hR0
  have hRq1 : (R : Rat) ≤ 4096 := cast_le (b := 4096) hR1
  have cl0 : (0 : Rat) ≤ (lo : Rat) := cast_le (a := 0) h0
  have cl1 : (lo : Rat) ≤ 4096 := cast_le (b := 4096) h1
  obtain ⟨fd, d1, d2⟩ := sub_near f2 f1 (by grind) (by grind)
  generalize sub m2 m1 = d at *
  have db : -2 ≤ rv d ∧ rv d ≤ 2 := by constructor <;> grind
  obtain ⟨c1, c2⟩ := mul_bd (E := 2) (F := 2) db.1 db.2 (show -2 ≤ rv u by grind) u2
  obtain ⟨fe, e1, e2⟩ := mul_near fd fu (by grind) (by grind)
  generalize mul d u = e at *
  obtain ⟨fg, g1, g2⟩ := mul_near fe gr_6.1 (by rw [rv_6]; grind) (by rw [rv_6]; grind)
  rw [rv_6] at g1 g2
  generalize mul e 4618441417868443648 = g at *
  obtain ⟨fr', r1, r2⟩ := add_near f1 fg (by grind) (by grind)
  generalize add m1 g = r at *
  -- (4096 d - R) u
  obtain ⟨k1, k2⟩ := mul_bd (e := 131072 * (4096 * rv d - (R : Rat))) (E := 2) (f := rv u) (F := 2) (by grind) (by grind) (by grind) u2
  refine rd_of fr' ?_ ?_ h2 h3
  · rw [Rat.intCast_add]; grind
  · rw [Rat.intCast_add]; grind

theorem vF_rd {m1 m2 x : UInt64} {lo hi Y : Int} (l0 : 0 ≤ lo) (lt : lo < hi) (hh : hi ≤ 4096) (f1 : Fn m1) (f2 : Fn m2) (fx : Fn x)
    (a1 : 262144 * (4096 * rv m1 - (lo : Rat)) ≤ 1) (a2 : 262144 * ((lo : Rat) - 4096 * rv m1) ≤ 1) (b1 : 262144 * (4096 * rv m2 - (hi : Rat)) ≤ 1) (b2 : 262144 * ((hi : Rat) - 4096 * rv m2) ≤ 1)
    (x1 : 131072 * (6 * ((hi - lo : Int) : Rat) * rv x - (Y : Rat)) ≤ 1) (x2 : 131072 * ((Y : Rat) - 6 * ((hi - lo : Int) : Rat) * rv x) ≤ 1) (y1 : -(2 * (hi - lo)) ≤ Y) (y2 : Y ≤ 8 * (hi - lo)) :
    ∃ a, VRel (hi - lo) lo hi Y a ∧ Rd (vF m1 m2 x) a := by
  obtain ⟨fu, j, j1, j2, j3, j4⟩ := mod1_spec fx
  unfold vF
  generalize mod1 x = u at *
  have hR0 : 0 < hi - lo := by lia
  have hR1 : hi - lo ≤ 4096 := by lia
  have bR : (hi : Rat) = (lo : Rat) + ((hi - lo : Int) : Rat) := by rw [Rat.intCast_sub]; grind
  rw [bR] at b1 b2
  generalize hRR : hi - lo = R at *
  have hep := ep_pos
  have hep1 := ep_is
  have hRq : (0 : Rat) < (R : Rat) := Rat.intCast_pos.mpr hR0
  have hRq0 : (1 : Rat) ≤ (R : Rat) := cast_le (a := 1) (by lia)
  have hRq1 : (R : Rat) ≤ 4096 := cast_le (b := 4096) hR1
  have Re : (R : Rat) * ep ≤ 4096 * ep := Rat.mul_le_mul_of_nonneg_right hRq1 (Rat.le_of_lt hep)
  have Re0 : 0 < (R : Rat) * ep := Rat.mul_pos hRq hep
  have w1 := mulL (Rat.le_of_lt hRq) j1
  have w2 := mulL (Rat.le_of_lt hRq) j2
  have w3 := mulL (Rat.le_of_lt hRq) j3
  have w4 := mulL (Rat.le_of_lt hRq) j4
  have zz : ((Y - 6 * (R * j) : Int) : Rat) = (Y : Rat) - 6 * ((R : Rat) * (j : Rat)) := by rw [Rat.intCast_sub, Rat.intCast_mul, Rat.intCast_mul]; rfl
  have v1 : 32768 * (6 * (R : Rat) * rv u - ((Y - 6 * (R * j) : Int) : Rat)) ≤ 1 := by rw [zz]; grind
  have v2 : 32768 * (((Y - 6 * (R * j) : Int) : Rat) - 6 * (R : Rat) * rv u) ≤ 1 := by rw [zz]; grind
  have c1 : 0 ≤ Y - 6 * (R * j) := by
    refine int_le_of ?_
    rw [show ((0 : Int) : Rat) = 0 from rfl]; grind
  have c2 : Y - 6 * (R * j) ≤ 6 * R := by
    refine int_le_of ?_
    rw [Rat.intCast_mul, show ((6 : Int) : Rat) = 6 from rfl]; grind
  have hj := turns3 hR0 y1 y2 c1 c2
  have hW : Y - 6 * (R * j) = Y ∨ Y - 6 * (R * j) = Y + 6 * R ∨ Y - 6 * (R * j) = Y - 6 * R := by
    rcases hj with rfl | rfl | rfl <;> lia
  generalize Y - 6 * (R * j) = W at *
  clear hj zz w1 w2 j1 j2
  obtain ⟨s1, s2⟩ := sixth_near
  obtain ⟨t1, t2⟩ := twoth_near
  have hh2 := rv_h
  have hhR : 2 * ((R : Rat) * rv 4602678819172646912) = (R : Rat) := by
    have : 2 * ((R : Rat) * rv 4602678819172646912) = (R : Rat) * (2 * rv 4602678819172646912) := by grind
    rw [this, hh2, Rat.mul_one]
  have ub1 : -1 ≤ rv u := by grind
  have ub2 : rv u ≤ 2 := by grind
  by_cases q1 : flt u 4595172819793696085 = true
  · rw [if_pos q1]
    have q := (cmp_lt fu Fn_sixth).mp q1
    have q' := mulL (Rat.le_of_lt hRq) (Rat.le_of_lt q)
    have p' := mulL (Rat.le_of_lt hRq) s1
    have hw : W ≤ R := int_le_of (by grind)
    refine ⟨lo + W, ⟨W, hW, c1, c2, .inl ⟨hw, rfl⟩⟩, ramp hR0 hR1 f1 f2 fu a1 a2 b1 b2 ub1 ub2 (by grind) (by grind) l0 (by lia) (by lia) (by lia)⟩
  · rw [if_neg q1]
    have q : rv 4595172819793696085 ≤ rv u := Rat.not_lt.mp fun h => q1 ((cmp_lt fu Fn_sixth).mpr h)
    have q' := mulL (Rat.le_of_lt hRq) q
    have p' := mulL (Rat.le_of_lt hRq) s2
    have hw1 : R ≤ W := int_le_of (by grind)
    by_cases q2 : flt u 4602678819172646912 = true
    · rw [if_pos q2]
      have k := (cmp_lt fu gr_h.1).mp q2
      have k' := mulL (Rat.le_of_lt hRq) (Rat.le_of_lt k)
      have hw2 : W ≤ 3 * R := int_le_of (by rw [Rat.intCast_mul, show ((3 : Int) : Rat) = 3 from rfl]; grind)
      refine ⟨hi, ⟨W, hW, c1, c2, .inr (.inl ⟨hw1, hw2, rfl⟩)⟩, rd_of f2 ?_ ?_ (by lia) hh⟩
      · rw [bR]; grind
      · rw [bR]; grind
    · rw [if_neg q2]
      have k : rv 4602678819172646912 ≤ rv u := Rat.not_lt.mp fun h => q2 ((cmp_lt fu gr_h.1).mpr h)
      have k' := mulL (Rat.le_of_lt hRq) k
      have hw2 : 3 * R ≤ W := int_le_of (by rw [Rat.intCast_mul, show ((3 : Int) : Rat) = 3 from rfl]; grind)
      by_cases q3 : flt u 4604180019048437077 = true
      · rw [if_pos q3]
        have g := (cmp_lt fu Fn_twoth).mp q3
        have g' := mulL (Rat.le_of_lt hRq) (Rat.le_of_lt g)
        have o1 := mulL (Rat.le_of_lt hRq) t1
        have o2 := mulL (Rat.le_of_lt hRq) t2
        have hw3 : W ≤ 4 * R := int_le_of (by rw [Rat.intCast_mul, show ((4 : Int) : Rat) = 4 from rfl]; grind)
        obtain ⟨fs, d1, d2⟩ := sub_near Fn_twoth fu (by grind) (by grind)
        generalize sub 4604180019048437077 u = d at *
        have e1 := mulL (Rat.le_of_lt hRq) d1
        have e2 := mulL (Rat.le_of_lt hRq) d2
        have hr := ramp (z := 4 * R - W) hR0 hR1 f1 f2 fs a1 a2 b1 b2 (by grind) (by grind) (by rw [Rat.intCast_sub, Rat.intCast_mul, show ((4 : Int) : Rat) = 4 from rfl]; grind) (by rw [Rat.intCast_sub, Rat.intCast_mul, show ((4 : Int) : Rat) = 4 from rfl]; grind) l0 (by lia) (by lia) (by lia)
        exact ⟨lo + 4 * R - W, ⟨W, hW, c1, c2, .inr (.inr (.inl ⟨hw2, hw3, rfl⟩))⟩, rd_eq hr (by lia)⟩
      · rw [if_neg q3]
        have g : rv 4604180019048437077 ≤ rv u := Rat.not_lt.mp fun h => q3 ((cmp_lt fu Fn_twoth).mpr h)
        have g' := mulL (Rat.le_of_lt hRq) g
        have o1 := mulL (Rat.le_of_lt hRq) t2
        have hw3 : 4 * R ≤ W := int_le_of (by rw [Rat.intCast_mul, show ((4 : Int) : Rat) = 4 from rfl]; grind)
        exact ⟨lo, ⟨W, hW, c1, c2, .inr (.inr (.inr ⟨hw3, rfl⟩))⟩, rd_of f1 (by grind) (by grind) l0 (by lia)⟩
end Mine
end
section
open PySem PySem.Float64
set_option Elab.async false
namespace Mine

def LNear (L : UInt64) (T : Int) : Prop := Fn L ∧ 8192 * rv L ≤ (T : Rat) + 8192 * ep ∧ (T : Rat) ≤ 8192 * rv L + 8192 * ep
def SNear (S : UInt64) (T R : Int) : Prop := Fn S ∧ (T : Rat) * rv S ≤ (R : Rat) + (T : Rat) * ep ∧ (R : Rat) ≤ (T : Rat) * rv S + (T : Rat) * ep ∧ -ep ≤ rv S ∧ rv S ≤ 1 + ep
def Mid (m : UInt64) (a : Int) : Prop := Fn m ∧ 262144 * (4096 * rv m - (a : Rat)) ≤ 1 ∧ 262144 * ((a : Rat) - 4096 * rv m) ≤ 1

theorem m2_near {L S : UInt64} {hi lo : Int} (l0 : 0 ≤ lo) (lt : lo < hi) (hh : hi ≤ 4096) (hL : LNear L (hi + lo))
    (hS1 : fle L 4602678819172646912 = true → SNear S (hi + lo) (hi - lo)) (hS2 : fle L 4602678819172646912 = false → SNear S (8192 - (hi + lo)) (hi - lo)) : Fn (hlsM2 L S) ∧ 524288 * (4096 * rv (hlsM2 L S) - (hi : Rat)) ≤ 1 ∧ 524288 * ((hi : Rat) - 4096 * rv (hlsM2 L S)) ≤ 1 := by
  have hep := ep_pos
  have hep1 := ep_is
  obtain ⟨fL, L1, L2⟩ := hL
  have c0 : (0 : Rat) ≤ (lo : Rat) := cast_le (a := 0) l0
  have c1 : (lo : Rat) ≤ (hi : Rat) := cast_le (by lia)
  have c2 : (hi : Rat) ≤ 4096 := cast_le (b := 4096) hh
  rw [Rat.intCast_add] at L1 L2
  have Lb : -1 ≤ rv L ∧ rv L ≤ 2 := by constructor <;> grind
  unfold hlsM2
  cases hc : fle L 4602678819172646912 with
  | true =>
    rw [if_pos rfl]
    obtain ⟨fS, S1, S2, S3, S4⟩ := hS1 hc
    rw [Rat.intCast_add, Rat.intCast_sub] at S1 S2
    obtain ⟨fa, a1, a2⟩ := add_near gr_1.1 fS (by rw [rv_1]; grind) (by rw [rv_1]; grind)
    rw [rv_1] at a1 a2
    generalize add 4607182418800017408 S = a at *
    have ab : -1 ≤ rv a ∧ rv a ≤ 3 := by constructor <;> grind
    obtain ⟨m1, m2⟩ := mul_bd (E := 2) (F := 3) (show -2 ≤ rv L by grind) Lb.2 (show -3 ≤ rv a by grind) ab.2
    obtain ⟨fm, p1, p2⟩ := mul_near fL fa (by grind) (by grind)
    generalize mul L a = m at *
    -- T a
    have hT0 : (0 : Rat) ≤ (hi : Rat) + (lo : Rat) := by grind
    have w1 := mulL hT0 a1
    have w2 := mulL hT0 a2
    have hTe : ((hi : Rat) + (lo : Rat)) * ep ≤ 8192 * ep := Rat.mul_le_mul_of_nonneg_right (by grind) (Rat.le_of_lt hep)
    have hTe0 : 0 ≤ ((hi : Rat) + (lo : Rat)) * ep := Rat.mul_nonneg hT0 (Rat.le_of_lt hep)
    obtain ⟨k1, k2⟩ := mul_bd (e := 8192 * rv L - ((hi : Rat) + (lo : Rat))) (E := 8192 * ep) (f := rv a) (F := 3) (by grind) (by grind) (by grind) ab.2
    refine ⟨fm, ?_, ?_⟩ <;> grind
  | false =>
    rw [if_neg (by decide)]
    obtain ⟨fS, S1, S2, S3, S4⟩ := hS2 hc
    rw [Rat.intCast_sub, Rat.intCast_sub, Rat.intCast_add, show ((8192 : Int) : Rat) = 8192 from rfl] at S1 S2
    obtain ⟨fa, a1, a2⟩ := add_near fL fS (by grind) (by grind)
    generalize add L S = a at *
    obtain ⟨m1, m2⟩ := mul_bd (E := 2) (F := 2) (show -2 ≤ rv L by grind) Lb.2 (show -2 ≤ rv S by grind) (by grind)
    obtain ⟨fm, p1, p2⟩ := mul_near fL fS (by grind) (by grind)
    generalize mul L S = m at *
    obtain ⟨fr', r1, r2⟩ := sub_near fa fm (by grind) (by grind)
    generalize sub a m = r at *
    have hT0 : (0 : Rat) ≤ 8192 - ((hi : Rat) + (lo : Rat)) := by grind
    have hTe : (8192 - ((hi : Rat) + (lo : Rat))) * ep ≤ 8192 * ep := Rat.mul_le_mul_of_nonneg_right (by grind) (Rat.le_of_lt hep)
    have hTe0 : 0 ≤ (8192 - ((hi : Rat) + (lo : Rat))) * ep := Rat.mul_nonneg hT0 (Rat.le_of_lt hep)
    obtain ⟨k1, k2⟩ := mul_bd (e := 8192 * rv L - ((hi : Rat) + (lo : Rat))) (E := 8192 * ep) (f := rv S) (F := 2) (by grind) (by grind) (by grind) (by grind)
    refine ⟨fr', ?_, ?_⟩ <;> grind

theorem m1_near {L S : UInt64} {hi lo : Int} (l0 : 0 ≤ lo) (lt : lo < hi) (hh : hi ≤ 4096) (hL : LNear L (hi + lo))
    (h2 : Fn (hlsM2 L S) ∧ 524288 * (4096 * rv (hlsM2 L S) - (hi : Rat)) ≤ 1 ∧ 524288 * ((hi : Rat) - 4096 * rv (hlsM2 L S)) ≤ 1) : Mid (hlsM1 L S) lo := by
  have hep := ep_pos
  have hep1 := ep_is
  obtain ⟨fL, L1, L2⟩ := hL
  have c0 : (0 : Rat) ≤ (lo : Rat) := cast_le (a := 0) l0
  have c1 : (lo : Rat) ≤ (hi : Rat) := cast_le (by lia)
  have c2 : (hi : Rat) ≤ 4096 := cast_le (b := 4096) hh
  rw [Rat.intCast_add] at L1 L2
  have Lb : -1 ≤ rv L ∧ rv L ≤ 2 := by constructor <;> grind
  obtain ⟨f2, b1, b2⟩ := h2
  unfold hlsM1
  generalize hlsM2 L S = m at *
  obtain ⟨fa, a1, a2⟩ := mul_near gr_2.1 fL (by rw [rv_2]; grind) (by rw [rv_2]; grind)
  rw [rv_2] at a1 a2
  generalize mul 4611686018427387904 L = a at *
  obtain ⟨fs, s1, s2⟩ := sub_near fa f2 (by grind) (by grind)
  refine ⟨fs, ?_, ?_⟩ <;> grind
end Mine
end
section
open PySem PySem.Float64
set_option Elab.async false
namespace Mine

theorem hls_parts {H L S : UInt64} {hi lo Z : Int} (l0 : 0 ≤ lo) (lt : lo < hi) (hh : hi ≤ 4096) (hs : feq S 0 = false) (hL : LNear L (hi + lo))
    (hS1 : fle L 4602678819172646912 = true → SNear S (hi + lo) (hi - lo)) (hS2 : fle L 4602678819172646912 = false → SNear S (8192 - (hi + lo)) (hi - lo))
    (z0 : 0 ≤ Z) (z1 : Z ≤ 6 * (hi - lo)) (h : Hue (hi - lo) Z H) :
    ∃ x y z a b c, hlsRgb H L S = (x, y, z) ∧ Rd x a ∧ Rd y b ∧ Rd z c ∧ VRel (hi - lo) lo hi (Z + 2 * (hi - lo)) a ∧ VRel (hi - lo) lo hi Z b ∧ VRel (hi - lo) lo hi (Z - 2 * (hi - lo)) c := by
  have hep := ep_pos
  have hep1 := ep_is
  have h2 := m2_near l0 lt hh hL hS1 hS2
  obtain ⟨f1, a1, a2⟩ := m1_near l0 lt hh hL h2
  obtain ⟨f2, b1, b2⟩ := h2
  have b1' : 262144 * (4096 * rv (hlsM2 L S) - (hi : Rat)) ≤ 1 := by grind
  have b2' : 262144 * ((hi : Rat) - 4096 * rv (hlsM2 L S)) ≤ 1 := by grind
  obtain ⟨_, _, _, l1, l2⟩ := six_near (by omega) (by omega) z0 z1 h
  obtain ⟨fH, h1, h2⟩ := h
  have e : hlsRgb H L S = (vF (hlsM1 L S) (hlsM2 L S) (add H 4599676419421066581), vF (hlsM1 L S) (hlsM2 L S) H, vF (hlsM1 L S) (hlsM2 L S) (sub H 4599676419421066581)) := by
    unfold hlsRgb; rw [hs, if_neg (by decide)]
  generalize hlsM1 L S = m1 at *
  generalize hlsM2 L S = m2 at *
  have hRq : (0 : Rat) < ((hi - lo : Int) : Rat) := Rat.intCast_pos.mpr (by omega)
  have hRq1 : ((hi - lo : Int) : Rat) ≤ 4096 := cast_le (b := 4096) (by omega)
  have Re : ((hi - lo : Int) : Rat) * ep ≤ 4096 * ep := Rat.mul_le_mul_of_nonneg_right hRq1 (Rat.le_of_lt hep)
  have Re0 : 0 < ((hi - lo : Int) : Rat) * ep := Rat.mul_pos hRq hep
  obtain ⟨t1, t2⟩ := third_near
  obtain ⟨fx, x1, x2⟩ := add_near fH Fn_third (by grind) (by grind)
  obtain ⟨fy, y1, y2⟩ := sub_near fH Fn_third (by grind) (by grind)
  generalize add H 4599676419421066581 = X at *
  generalize sub H 4599676419421066581 = Y at *
  have u1 := mulL (Rat.le_of_lt hRq) t1
  have u2 := mulL (Rat.le_of_lt hRq) t2
  have v1 := mulL (Rat.le_of_lt hRq) x1
  have v2 := mulL (Rat.le_of_lt hRq) x2
  have w1 := mulL (Rat.le_of_lt hRq) y1
  have w2 := mulL (Rat.le_of_lt hRq) y2
  have ep2 : ((Z + 2 * (hi - lo) : Int) : Rat) = (Z : Rat) + 2 * ((hi - lo : Int) : Rat) := by rw [Rat.intCast_add, Rat.intCast_mul]; rfl
  have em2 : ((Z - 2 * (hi - lo) : Int) : Rat) = (Z : Rat) - 2 * ((hi - lo : Int) : Rat) := by rw [Rat.intCast_sub, Rat.intCast_mul]; rfl
  obtain ⟨a, ra, rda⟩ := vF_rd (Y := Z + 2 * (hi - lo)) l0 lt hh f1 f2 fx a1 a2 b1' b2' (by rw [ep2]; grind) (by rw [ep2]; grind) (by omega) (by omega)
  obtain ⟨b, rb, rdb⟩ := vF_rd (Y := Z) l0 lt hh f1 f2 fH a1 a2 b1' b2' (by grind) (by grind) (by omega) (by omega)
  obtain ⟨c, rc, rdc⟩ := vF_rd (Y := Z - 2 * (hi - lo)) l0 lt hh f1 f2 fy a1 a2 b1' b2' (by rw [em2]; grind) (by rw [em2]; grind) (by omega) (by omega)
  exact ⟨_, _, _, a, b, c, e, rda, rdb, rdc, ra, rb, rc⟩

theorem sec_red {A B C hi lo Z a : Int} (s : Sec A B C hi lo Z) (v : VRel (hi - lo) lo hi (Z + 2 * (hi - lo)) a) : a = A := by
  obtain ⟨a0, a1, b0, b1, c0, c1, l0, lt, hh, low, z0, z1, at_⟩ := s
  obtain ⟨W, w1, w2, w3, w4⟩ := v
  omega
theorem sec_green {A B C hi lo Z a : Int} (s : Sec A B C hi lo Z) (v : VRel (hi - lo) lo hi Z a) : a = B := by
  obtain ⟨a0, a1, b0, b1, c0, c1, l0, lt, hh, low, z0, z1, at_⟩ := s
  obtain ⟨W, w1, w2, w3, w4⟩ := v
  omega
theorem sec_blue {A B C hi lo Z a : Int} (s : Sec A B C hi lo Z) (v : VRel (hi - lo) lo hi (Z - 2 * (hi - lo)) a) : a = C := by
  obtain ⟨a0, a1, b0, b1, c0, c1, l0, lt, hh, low, z0, z1, at_⟩ := s
  obtain ⟨W, w1, w2, w3, w4⟩ := v
  omega
theorem fold_red {hi lo P a : Int} (lt : lo < hi) (p0 : 0 ≤ P) (p1 : P ≤ hi - lo) (v : VRel (hi - lo) lo hi (P + 2 * (hi - lo)) a) : a = hi := by
  obtain ⟨W, w1, w2, w3, w4⟩ := v
  omega
theorem fold_green {hi lo P a : Int} (lt : lo < hi) (p0 : 0 ≤ P) (p1 : P ≤ hi - lo) (v : VRel (hi - lo) lo hi P a) : a = lo + P := by
  obtain ⟨W, w1, w2, w3, w4⟩ := v
  omega
theorem fold_blue {hi lo P a : Int} (lt : lo < hi) (p0 : 0 ≤ P) (p1 : P ≤ hi - lo) (v : VRel (hi - lo) lo hi (P - 2 * (hi - lo)) a) : a = lo := by
  obtain ⟨W, w1, w2, w3, w4⟩ := v
  omega
end Mine
end
section
open PySem PySem.Float64 PySem.W PyProof.Rows
set_option Elab.async false
set_option maxRecDepth 100000
namespace Mine

def hi3 (A B C : Int) : Int := max A (max B C)
def lo3 (A B C : Int) : Int := min A (min B C)
def mid3 (A B C : Int) : Int := A + B + C - hi3 A B C - lo3 A B C

section
variable {A B C hi lo : Int}
theorem gr_zero_no {x : UInt64} {n : Int} (h : Gr x n) (hn : n ≠ 0) : isZero x = false := by
  cases hz : isZero x with
  | false => rfl
  | true =>
    have := (isZero_iff h.1).mp hz
    have h2 := h.2
    rw [this, Rat.zero_mul] at h2
    exact absurd (Rat.intCast_eq_zero_iff.mp h2.symm) hn
theorem feq_no {S : UInt64} (hf : Fn S) (h : rv S ≠ 0) : feq S 0 = false := by
  unfold feq
  exact (cmp_eq_false hf gr_0.1).mpr (by rw [rv_0]; exact h)
theorem finite_six {H : UInt64} (h : Fn (mul H 4618441417868443648)) : isFinite (mul H 4618441417868443648) = true := Fn_finite.mpr h

/-- S over T is R: not nought -/
theorem snear_ne {S : UInt64} {T R : Int} (h : SNear S T R) (hT : T ≤ 8192) (hR : 0 < R) : rv S ≠ 0 := by
  intro h0
  obtain ⟨_, h1, h2, _, _⟩ := h
  rw [h0, Rat.mul_zero] at h2
  have hep := ep_pos
  have hep1 := ep_is
  have c1 : (T : Rat) * ep ≤ 8192 * ep := Rat.mul_le_mul_of_nonneg_right (cast_le (b := 8192) hT) (Rat.le_of_lt hep)
  have c2 : (1 : Rat) ≤ (R : Rat) := cast_le (a := 1) (by lia)
  grind
theorem snear_of {x y : UInt64} {R T : Int} (hx : Gr x R) (hy : Gr y T) (h0 : 0 ≤ R) (h1 : R ≤ T) (hT : 0 < T) : SNear (div x y) T R := by
  have := quot_near (hi := R) (a := 0) (by rw [Int.sub_zero]; exact hx) hy (by grind) (by grind) hT
  rw [show ((0 : Int) : Rat) = 0 from rfl] at this
  obtain ⟨a, b, c, d, e⟩ := this
  exact ⟨a, by grind, by grind, d, e⟩

theorem fall_gray_hsv (w : World) (mean : ExcName → Option Value) (mg mb : Str → Option Value) (news : List (Addr × Obj)) (T : Addr) (A : Int) (ta tb tc : Tok) (hA : 0 ≤ A) (hA1 : A ≤ 4096) :
    Ctr w mean mg mb 138 3 ((T, { cls := .type "list", data := .seq #[.int A ta, .int A tb, .int A tc] }) :: news) [.ref T, .bool false] (ListOut A A A) := by
  have hf := fr_eq hA hA1 hA hA1
  rw [decide_eq_true rfl] at hf
  have hlt := fr_lt hA hA1 hA hA1
  rw [decide_eq_false (Int.lt_irrefl _)] at hlt
  have hmx : fmax3 (fr A) (fr A) (fr A) = fr A := by unfold fmax3; rw [hlt]; rfl
  have hmn : fmin3 (fr A) (fr A) (fr A) = fr A := by unfold fmin3; rw [hlt]; rfl
  have rd := gr_rd (fr_gr hA hA1) hA hA1
  have hab : ∀ {p : Prop}, (cmp (fmin3 (fr A) (fr A) (fr A)) (fmax3 (fr A) (fr A) (fr A)) == some Ordering.eq) = false → p := by
    intro p h; rw [hmx, hmn, hf] at h; cases h
  have hr : rgbHsv (fr A) (fr A) (fr A) = (0, 0, fr A) := by unfold rgbHsv feq; rw [hmx, hmn, hf]; rfl
  have h00 : feq 0 0 = true := by decide +kernel
  have hv : ∀ H, hsvRgb H 0 (fr A) = (fr A, fr A, fr A) := by intro H; unfold hsvRgb; rw [h00]; rfl
  refine fall_hsv w mean mg mb news T A A A ta tb tc hA hA1 hA hA1 hA hA1 0 0 (fr A) (fr A) (fr A) (fr A) (fr A) (fr A) (fr A) A A A hab hab hr (by decide +kernel) (by decide +kernel) (by decide +kernel) (by decide +kernel) (by decide +kernel) (by decide +kernel) (by decide +kernel) (hv _) (hv _) rd.1 rd.2 rd.1 rd.2 rd.1 rd.2 rd.1 rd.2 rd.1 rd.2 rd.1 rd.2 ?_
  intro x y z o
  have h3 : ∀ k : Int, 0 ≤ k → k < 3 → [A, A, A].getD k.toNat 0 = A := by
    intro k h0 h3
    have : k = 0 ∨ k = 1 ∨ k = 2 := by lia
    rcases this with rfl | rfl | rfl <;> rfl
  rw [h3 x (ord_b1 o).1 (ord_b1 o).2, h3 y (ord_b2 o).1 (ord_b2 o).2, h3 z (ord_b3 o).1 (ord_b3 o).2]
theorem lnear_of {x : UInt64} {T : Int} (hx : Gr x T) (h0 : 0 ≤ T) (h1 : T ≤ 8192) : LNear (div x 4611686018427387904) T := by
  have hep := ep_pos
  have hep1 := ep_is
  have hv := hx.2
  have c0 : (0 : Rat) ≤ (T : Rat) := cast_le (a := 0) h0
  have c1 : (T : Rat) ≤ 8192 := cast_le (b := 8192) h1
  obtain ⟨f, q1, q2⟩ := div_near hx.1 gr_2.1 (by rw [rv_2]; decide) (by rw [rv_2]; grind) (by rw [rv_2]; grind)
  rw [rv_2] at q1 q2
  exact ⟨f, by grind, by grind⟩
theorem lnear_rd {L : UInt64} {a : Int} (h : LNear L (a + a)) (h0 : 0 ≤ a) (h1 : a ≤ 4096) : Rd L a := by
  have hep := ep_pos
  have hep1 := ep_is
  obtain ⟨f, l1, l2⟩ := h
  rw [Rat.intCast_add] at l1 l2
  exact rd_of f (by grind) (by grind) h0 h1

theorem fall_gray_hls (w : World) (mean : ExcName → Option Value) (mg mb : Str → Option Value) (news : List (Addr × Obj)) (T : Addr) (A : Int) (ta tb tc : Tok) (hA : 0 ≤ A) (hA1 : A ≤ 4096) :
    Ctr w mean mg mb 138 3 ((T, { cls := .type "list", data := .seq #[.int A ta, .int A tb, .int A tc] }) :: news) [.ref T, .bool true] (ListOut A A A) := by
  have hf := fr_eq hA hA1 hA hA1
  rw [decide_eq_true rfl] at hf
  have hlt := fr_lt hA hA1 hA hA1
  rw [decide_eq_false (Int.lt_irrefl _)] at hlt
  have hmx : fmax3 (fr A) (fr A) (fr A) = fr A := by unfold fmax3; rw [hlt]; rfl
  have hmn : fmin3 (fr A) (fr A) (fr A) = fr A := by unfold fmin3; rw [hlt]; rfl
  have gA := fr_gr hA hA1
  have gl := lnear_of (add_gr gA gA (by lia)) (by lia) (by lia)
  have rd := lnear_rd gl hA hA1
  have hab : ∀ {p : Prop}, (cmp (fmin3 (fr A) (fr A) (fr A)) (fmax3 (fr A) (fr A) (fr A)) == some Ordering.eq) = false → p := by
    intro p h; rw [hmx, hmn, hf] at h; cases h
  have hr : rgbHls (fr A) (fr A) (fr A) = (0, div (add (fr A) (fr A)) 4611686018427387904, 0) := by unfold rgbHls feq hlsL; rw [hmx, hmn, hf]; rfl
  generalize div (add (fr A) (fr A)) 4611686018427387904 = L at *
  have h00 : feq 0 0 = true := by decide +kernel
  have hv : ∀ H, hlsRgb H L 0 = (L, L, L) := by intro H; unfold hlsRgb; rw [h00]; rfl
  refine fall_hls w mean mg mb news T A A A ta tb tc hA hA1 hA hA1 hA hA1 0 L 0 L L L L L L A A A hab hab hab hr (by decide +kernel) (by decide +kernel) (by decide +kernel) (by decide +kernel) (hv _) (hv _) rd.1 rd.2 rd.1 rd.2 rd.1 rd.2 rd.1 rd.2 rd.1 rd.2 rd.1 rd.2 ?_
  intro x y z o
  have h3 : ∀ k : Int, 0 ≤ k → k < 3 → [A, A, A].getD k.toNat 0 = A := by
    intro k h0 h3
    have : k = 0 ∨ k = 1 ∨ k = 2 := by lia
    rcases this with rfl | rfl | rfl <;> rfl
  rw [h3 x (ord_b1 o).1 (ord_b1 o).2, h3 y (ord_b2 o).1 (ord_b2 o).2, h3 z (ord_b3 o).1 (ord_b3 o).2]

theorem fall_ok (w : World) (mean : ExcName → Option Value) (mg mb : Str → Option Value) (news : List (Addr × Obj)) (T : Addr) (A B C : Int) (ta tb tc : Tok) (light : Bool)
    (hA : 0 ≤ A) (hA1 : A ≤ 4096) (hB : 0 ≤ B) (hB1 : B ≤ 4096) (hC : 0 ≤ C) (hC1 : C ≤ 4096) :
    Ctr w mean mg mb 138 3 ((T, { cls := .type "list", data := .seq #[.int A ta, .int B tb, .int C tc] }) :: news) [.ref T, .bool light] (ListOut (hi3 A B C) (mid3 A B C) (lo3 A B C)) := by
  obtain ⟨hi, hmx, hhi, a1, b1, c1⟩ := fmax_fr hA hA1 hB hB1 hC hC1
  obtain ⟨lo, hmn, hlo, a0, b0, c0⟩ := fmin_fr hA hA1 hB hB1 hC hC1
  have e1 : hi3 A B C = hi := by unfold hi3; grind
  have e2 : lo3 A B C = lo := by unfold lo3; grind
  have e3 : mid3 A B C = A + B + C - hi - lo := by unfold mid3; rw [e1, e2]
  rw [e1, e2, e3]
  by_cases hlt : lo < hi
  · obtain ⟨Z, s, hH⟩ := rgbH_hue hA hA1 hB hB1 hC hC1 hmx hhi a1 b1 c1 hmn hlo a0 b0 c0 hlt
    have s' := s
    obtain ⟨_, _, _, _, _, _, l0, _, hh, _, z0, z1, _⟩ := s'
    have ghi := fr_gr (a := hi) (by grind) hh
    have glo := fr_gr (a := lo) l0 (by grind)
    have gR := sub_gr ghi glo (by grind)
    have hne : (cmp (fmin3 (fr A) (fr B) (fr C)) (fmax3 (fr A) (fr B) (fr C)) == some Ordering.eq) = false := by
      rw [hmx, hmn, fr_eq l0 (by grind) (by grind) hh]; exact decide_eq_false (by grind)
    obtain ⟨n0, n6, n1, n2⟩ := sixths (by grind) (by grind) z0 z1 hH.hue
    obtain ⟨fy, k0, k3, P, p0, p1, hP, hF⟩ := folds (by grind) (by grind) z0 z1 hH
    have hmid := sec_fold s k0 k3 p0 p1 hP
    have hord := sec_ord s n0 n6 n1 n2
    obtain ⟨f6, _⟩ := six_near (by grind) (by grind) z0 z1 hH.hue
    obtain ⟨ff6, _⟩ := six_near (by grind) (by grind) p0 (by grind) hF
    cases light with
    | false =>
      have gS := snear_of gR ghi (by grind) (by grind) (by grind)
      have hS0 := feq_no gS.1 (snear_ne gS (by grind) (by grind))
      have s1 : rv (div (sub (fr hi) (fr lo)) (fr hi)) * (hi : Rat) ≤ ((hi - lo : Int) : Rat) + (hi : Rat) * ep := by rw [Rat.mul_comm]; exact gS.2.1
      have s2 : ((hi - lo : Int) : Rat) ≤ rv (div (sub (fr hi) (fr lo)) (fr hi)) * (hi : Rat) + (hi : Rat) * ep := by rw [Rat.mul_comm (rv _)]; exact gS.2.2.1
      obtain ⟨x, y, z, eb, rx, ry, rz⟩ := hsv_back s ghi gS.1 hS0 s1 s2 hH.hue
      obtain ⟨nb, x', y', z', ep', rx', ry', rz'⟩ := hsv_told ghi l0 hlt hh gS.1 hS0 s1 s2 p0 p1 hF
      have he : rgbHsv (fr A) (fr B) (fr C) = (rgbH (fr A) (fr B) (fr C), div (sub (fr hi) (fr lo)) (fr hi), fr hi) := by
        unfold rgbHsv feq; rw [hne, if_neg (by decide), hmx, hmn]
      rw [hmid] at ry'
      exact fall_hsv w mean mg mb news T A B C ta tb tc hA hA1 hB hB1 hC hC1 _ _ _ x y z x' y' z' _ _ _ (fun _ => by rw [hmx]; exact gr_zero_no ghi (by grind)) (fun _ => by rw [hmx, hmn]; exact gr_zero_no gR (by grind)) he
        (Fn_finite.mpr f6) (by grind) (Fn_finite.mpr fy) k0 k3 (Fn_finite.mpr ff6) nb eb ep' rx.1 rx.2 ry.1 ry.2 rz.1 rz.2 rx'.1 rx'.2 ry'.1 ry'.2 rz'.1 rz'.2 hord
    | true =>
      have gT := add_gr ghi glo (by grind)
      have g2 := sub_gr (sub_gr gr_2 ghi (by grind)) glo (by grind)
      have hL : LNear (hlsL (fr A) (fr B) (fr C)) (hi + lo) := by
        unfold hlsL; rw [hmx, hmn]; exact lnear_of gT (by grind) (by grind)
      have hS1 : fle (hlsL (fr A) (fr B) (fr C)) 4602678819172646912 = true → SNear (hlsS (fr A) (fr B) (fr C)) (hi + lo) (hi - lo) := by
        intro h; unfold hlsS; rw [h, if_pos rfl, hmx, hmn]; exact snear_of gR gT (by grind) (by grind) (by grind)
      have hS2 : fle (hlsL (fr A) (fr B) (fr C)) 4602678819172646912 = false → SNear (hlsS (fr A) (fr B) (fr C)) (8192 - (hi + lo)) (hi - lo) := by
        intro h; unfold hlsS; rw [h, if_neg (by decide), hmx, hmn]
        refine snear_of gR ?_ (by grind) (by grind) (by grind)
        rw [show 8192 - (hi + lo) = 8192 - hi - lo by grind]; exact g2
      have hS0 : feq (hlsS (fr A) (fr B) (fr C)) 0 = false := by
        cases hc : fle (hlsL (fr A) (fr B) (fr C)) 4602678819172646912 with
        | true => exact feq_no (hS1 hc).1 (snear_ne (hS1 hc) (by grind) (by grind))
        | false => exact feq_no (hS2 hc).1 (snear_ne (hS2 hc) (by grind) (by grind))
      obtain ⟨x, y, z, a, b, c, eb, rx, ry, rz, va, vb, vc⟩ := hls_parts l0 hlt hh hS0 hL hS1 hS2 z0 z1 hH.hue
      obtain ⟨x', y', z', a', b', c', ep', rx', ry', rz', va', vb', vc'⟩ := hls_parts l0 hlt hh hS0 hL hS1 hS2 p0 (by grind) hF
      rw [sec_red s va] at rx
      rw [sec_green s vb] at ry
      rw [sec_blue s vc] at rz
      rw [fold_red hlt p0 p1 va'] at rx'
      rw [fold_green hlt p0 p1 vb', hmid] at ry'
      rw [fold_blue hlt p0 p1 vc'] at rz'
      have he : rgbHls (fr A) (fr B) (fr C) = (rgbH (fr A) (fr B) (fr C), hlsL (fr A) (fr B) (fr C), hlsS (fr A) (fr B) (fr C)) := by
        unfold rgbHls feq; rw [hne, if_neg (by decide)]
      exact fall_hls w mean mg mb news T A B C ta tb tc hA hA1 hB hB1 hC hC1 _ _ _ x y z x' y' z' _ _ _ (fun _ => by rw [hmx, hmn]; exact gr_zero_no gT (by grind)) (fun _ => by rw [hmx, hmn]; exact gr_zero_no gR (by grind)) (fun _ => by rw [hmx, hmn]; exact gr_zero_no g2 (by grind)) he
        (Fn_finite.mpr f6) (Fn_finite.mpr fy) k0 k3 eb ep' rx.1 rx.2 ry.1 ry.2 rz.1 rz.2 rx'.1 rx'.2 ry'.1 ry'.2 rz'.1 rz'.2 hord
  · have eA : A = hi := by grind
    have eB : B = hi := by grind
    have eC : C = hi := by grind
    have eL : lo = hi := by grind
    subst eA eL
    rw [eB, eC, show lo + lo + lo - lo - lo = lo by grind]
    cases light with
    | false => exact fall_gray_hsv w mean mg mb news T lo ta tb tc hA hA1
    | true => exact fall_gray_hls w mean mg mb news T lo ta tb tc hA hA1
end
end Mine
end
section
open PySem PySem.W PyProof.Rows
set_option Elab.async false
namespace Mine
/-! three numbers in order -/
def Ord3 (x y z a b c : Int) : Prop := (a = x ∧ b = y ∧ c = z) ∨ (a = x ∧ b = z ∧ c = y) ∨ (a = y ∧ b = x ∧ c = z) ∨ (a = y ∧ b = z ∧ c = x) ∨ (a = z ∧ b = x ∧ c = y) ∨ (a = z ∧ b = y ∧ c = x)
theorem mid_of {x y z a b c : Int} (hl : lo3 x y z = a) (hh : hi3 x y z = c) (hs : x + y + z = b + c + a) : mid3 x y z = b := by
  unfold mid3; rw [hl, hh, hs]; lia
theorem three_cases (x y z : Int) : lo3 x y z ≤ mid3 x y z ∧ mid3 x y z ≤ hi3 x y z ∧ Ord3 x y z (lo3 x y z) (mid3 x y z) (hi3 x y z) := by
  have go : ∀ a b c, lo3 x y z = a → hi3 x y z = c → x + y + z = b + c + a → a ≤ b → b ≤ c → Ord3 x y z a b c → lo3 x y z ≤ mid3 x y z ∧ mid3 x y z ≤ hi3 x y z ∧ Ord3 x y z (lo3 x y z) (mid3 x y z) (hi3 x y z) := by
    intro a b c hl hh hs h1 h2 o
    have hm := mid_of hl hh hs
    rw [hl, hm, hh]; exact ⟨h1, h2, o⟩
  unfold lo3 hi3 at go
  rcases Int.le_total x y with h1 | h1 <;> rcases Int.le_total y z with h2 | h2
  · exact go x y z (by rw [Int.min_eq_left h2, Int.min_eq_left h1]) (by rw [Int.max_eq_right h2, Int.max_eq_right (Int.le_trans h1 h2)]) (by rw [Int.add_assoc, Int.add_comm]) h1 h2 (.inl ⟨rfl, rfl, rfl⟩)
  · rcases Int.le_total x z with h3 | h3
    · exact go x z y (by rw [Int.min_eq_right h2, Int.min_eq_left h3]) (by rw [Int.max_eq_left h2, Int.max_eq_right h1]) (by rw [Int.add_assoc, Int.add_comm, Int.add_comm y z]) h3 h2 (.inr (.inl ⟨rfl, rfl, rfl⟩))
    · exact go z x y (by rw [Int.min_eq_right h2, Int.min_eq_right h3]) (by rw [Int.max_eq_left h2, Int.max_eq_right h1]) rfl h3 h1 (.inr (.inr (.inr (.inr (.inl ⟨rfl, rfl, rfl⟩)))))
  · rcases Int.le_total x z with h3 | h3
    · exact go y x z (by rw [Int.min_eq_left h2, Int.min_eq_right h1]) (by rw [Int.max_eq_right h2, Int.max_eq_right h3]) (by rw [Int.add_assoc, Int.add_assoc, Int.add_comm y z]) h1 h3 (.inr (.inr (.inl ⟨rfl, rfl, rfl⟩)))
    · exact go y z x (by rw [Int.min_eq_left h2, Int.min_eq_right h1]) (by rw [Int.max_eq_right h2, Int.max_eq_left h3]) (by rw [Int.add_assoc, Int.add_comm y z, ← Int.add_assoc, Int.add_comm x z]) h2 h3 (.inr (.inr (.inr (.inl ⟨rfl, rfl, rfl⟩))))
  · exact go z y x (by rw [Int.min_eq_right h2, Int.min_eq_right (Int.le_trans h2 h1)]) (by rw [Int.max_eq_left h2, Int.max_eq_left h1]) (by rw [Int.add_comm x y]) h2 h1 (.inr (.inr (.inr (.inr (.inr ⟨rfl, rfl, rfl⟩)))))
theorem three_perm {x y z a b c : Int} (o : Ord3 x y z a b c) : [a, b, c].Perm [x, y, z] := by
  rcases o with ⟨rfl, rfl, rfl⟩ | ⟨rfl, rfl, rfl⟩ | ⟨rfl, rfl, rfl⟩ | ⟨rfl, rfl, rfl⟩ | ⟨rfl, rfl, rfl⟩ | ⟨rfl, rfl, rfl⟩
  · exact .refl _
  · exact .cons _ (.swap _ _ _)
  · exact .swap _ _ _
  · exact (List.Perm.cons _ (.swap _ _ _)).trans (.swap _ _ _)
  · exact (List.Perm.swap _ _ _).trans (.cons _ (.swap _ _ _))
  · exact (List.Perm.swap _ _ _).trans ((List.Perm.cons _ (.swap _ _ _)).trans (.swap _ _ _))
theorem sort3 {x y z : Int} {n' : List Int} (p : n'.Perm [x, y, z]) (o : n'.Pairwise (fun a b => a ≤ b)) : [lo3 x y z, mid3 x y z, hi3 x y z] = n' := by
  obtain ⟨h1, h2, h3⟩ := three_cases x y z
  refine List.Perm.eq_of_pairwise (fun _ _ _ _ a b => Int.le_antisymm a b) ?_ o ((three_perm h3).trans p.symm)
  refine .cons (fun u hu => ?_) (.cons (fun u hu => ?_) (.cons (fun u hu => nomatch hu) .nil))
  · rcases List.mem_cons.mp hu with rfl | hu
    · exact h1
    · rw [List.mem_singleton.mp hu]; exact Int.le_trans h1 h2
  · rw [List.mem_singleton.mp hu]; exact h2
theorem three_bd {x y z : Int} (hx : 0 ≤ x ∧ x ≤ 4096) (hy : 0 ≤ y ∧ y ≤ 4096) (hz : 0 ≤ z ∧ z ≤ 4096) : (0 ≤ lo3 x y z ∧ lo3 x y z ≤ 4096) ∧ (0 ≤ mid3 x y z ∧ mid3 x y z ≤ 4096) ∧ (0 ≤ hi3 x y z ∧ hi3 x y z ≤ 4096) := by
  obtain ⟨_, _, h3⟩ := three_cases x y z
  rcases h3 with ⟨e1, e2, e3⟩ | ⟨e1, e2, e3⟩ | ⟨e1, e2, e3⟩ | ⟨e1, e2, e3⟩ | ⟨e1, e2, e3⟩ | ⟨e1, e2, e3⟩ <;> rw [e1, e2, e3] <;> exact ⟨by assumption, by assumption, by assumption⟩
theorem count3 (x y z v : Int) : (if lo3 x y z = v then 1 else 0) + (if mid3 x y z = v then 1 else 0) + (if hi3 x y z = v then 1 else 0) = (if x = v then 1 else 0) + (if y = v then 1 else 0) + (if z = v then (1 : Nat) else 0) := by
  obtain ⟨_, _, h3⟩ := three_cases x y z
  rcases h3 with ⟨e1, e2, e3⟩ | ⟨e1, e2, e3⟩ | ⟨e1, e2, e3⟩ | ⟨e1, e2, e3⟩ | ⟨e1, e2, e3⟩ | ⟨e1, e2, e3⟩ <;> rw [e1, e2, e3] <;> generalize (if x = v then (1 : Nat) else 0) = X <;> generalize (if y = v then (1 : Nat) else 0) = Y <;> generalize (if z = v then (1 : Nat) else 0) = Z
  all_goals lia
end Mine
end
section
open PySem PySem.W PyProof.Rows PySem.Spec PySem.Calls
set_option Elab.async false
namespace Mine
/-! a loop over a list of the ledger, its target of any kind, by an invariant -/
def BoxEnd (h₀ : Heap) (L : Addr) (J : (Str → Option Value) → List (Addr × Obj) → Prop) (I : Addr) (oI : Obj) (s : Shared) (Q : Flow → Shared → Prop) (f : Flow) (s₂ : Shared) : Prop :=
  match f with
  | .ret v => Q (.ret v) s₂
  | .brk => Q .next s₂
  | _ => ∃ h' tk m' nws, s₂ = { s with heap := h', toks := tk } ∧ Fr h₀ L h' m' ∧ News h₀ L h' ((I, oI) :: nws) ∧ (∀ p ∈ nws, p.1 ≠ I) ∧ J m' nws
section
variable {prog : Program} {w : World} {A : Around} {E : Value → Shared → Prop} {s : Shared} {env : Env} {h₀ : Heap} {target : PySem.Expr} {body : List Stmt} {Q : Flow → Shared → Prop}
theorem box_loop {bx : Addr} {vs : List Value} {nn : Nat} {m₀ : Str → Option Value} {news : List (Addr × Obj)} (J : Nat → (Str → Option Value) → List (Addr × Obj) → Prop)
    (hh : A.handled = none) (F : Fr h₀ env.locals s.heap m₀) (N : News h₀ env.locals s.heap news) (hJm : ∀ i m nws, J i m nws → (bx, W.listOf vs.toArray nn) ∈ nws) (h0 : J 0 m₀ news)
    (turn : ∀ i v m₁ nws I oI h tk, vs[i]? = some v → J i m₁ nws → Fr h₀ env.locals h m₁ → News h₀ env.locals h ((I, oI) :: nws) → (∀ p ∈ nws, p.1 ≠ I) →
      wpAny (model prog w) A (assign target env v) (fun _ s₃ => wpAny (model prog w) A (execs body env) (BoxEnd h₀ env.locals (J (i + 1)) I oI { s with heap := h, toks := tk } Q) E s₃) E { s with heap := h, toks := tk })
    (done : ∀ m₁ nws h tk, J vs.length m₁ nws → Fr h₀ env.locals h m₁ → News h₀ env.locals h nws → Q .next { s with heap := h, toks := tk }) :
    wpAny (model prog w) A (pyIter (.ref bx)) (fun it s₂ => TurnsAt prog w A h₀ env target body Q E it s₂) E s := by
  have hm := hJm 0 m₀ news h0
  have hax := N _ hm
  have hl : s.heap.IsList bx vs.toArray := ⟨_, hax.1, rfl, nn, rfl⟩
  have hlt : bx < s.heap.objs.size := Heap.lt_size hax.1
  have hne : bx ≠ s.heap.objs.size := Nat.ne_of_lt hlt
  refine wpAny_pyIter_list hl ?_
  have W' : KTurns prog w A target s.heap.objs.size [s.heap.objs.size, bx] [s.heap.objs.size] vs.toArray.size _ _ _ := KTurns.ofWalks (Walks.list hh s.heap.objs.size bx hne vs.toArray) fun i v s Q E st q => letGo_listiter st.1 q
  have hI0 : h₀.get? s.heap.objs.size = none := next_is_new F
  refine ⟨s.heap.objs.size, _, _, vs.toArray.size, _, _, _, m₀, news, J, rfl, W', ?_, ?_, ?_, ⟨⟨_, Heap.get?_push_size _ rfl, rfl, rfl⟩, hl.at fun o e => Heap.get?_push_of_some _ e⟩, F.push _, (fun p hp => ⟨Heap.get?_push_of_some _ (N p hp).1, (N p hp).2⟩), h0, ?_, ?_⟩
  · intro hI
    rcases List.mem_cons.mp hI with e | hI
    · exact absurd F.ns.lt (e ▸ Nat.lt_irrefl _)
    · exact hax.2.1 (List.mem_singleton.mp hI).symm
  · intro b hb
    rw [List.mem_singleton.mp hb]
    exact hI0
  · intro p hp hI
    exact absurd (Heap.lt_size (N p hp).1) ((List.mem_singleton.mp hI) ▸ Nat.lt_irrefl _)
  · intro i v m₁ news₁ h₁ tk₁ own hin hP hJ hoff hown hget hfp hst F₁ N₁
    have hP' : vs[i]? = some v := by simpa using hP
    obtain ⟨⟨oI, hoI, _⟩, _⟩ := id hst
    have hIown : (s.heap.objs.size, oI) ∈ own := hfp _ (List.mem_cons.mpr (.inl rfl)) hI0 _ hoI
    have hbx : h₁.get? bx = some (W.listOf vs.toArray nn) := (N₁ _ (List.mem_append.mpr (.inr (hJm _ _ _ hJ)))).1
    have N₂ : News h₀ env.locals h₁ ((s.heap.objs.size, oI) :: news₁) := fun p hp => by
      rcases List.mem_cons.mp hp with rfl | hp
      · exact N₁ _ (List.mem_append.mpr (.inl hIown))
      · exact N₁ _ (List.mem_append.mpr (.inr hp))
    have off : ∀ p ∈ news₁, p.1 ≠ s.heap.objs.size := fun p hp e => hoff p hp (List.mem_singleton.mpr e)
    refine wpAny_mono (turn i v m₁ news₁ s.heap.objs.size oI h₁ tk₁ hP' hJ F₁ N₂ off) (fun _ s₃ k => wpAny_mono k (fun f s₂ p => ?_) fun _ _ e => e) fun _ _ e => e
    have fin : (∃ h' tk m' nws, s₂ = { s with heap := h', toks := tk } ∧ Fr h₀ env.locals h' m' ∧ News h₀ env.locals h' ((s.heap.objs.size, oI) :: nws) ∧ (∀ p ∈ nws, p.1 ≠ s.heap.objs.size) ∧ J (i + 1) m' nws) →
        LoopStepU h₀ env.locals [s.heap.objs.size] own (J (i + 1)) { s with heap := h₁, toks := tk₁ } .next s₂ := by
      rintro ⟨h', tk, m', nws, rfl, F', N', off', hJ'⟩
      refine ⟨rfl, h', tk, m', nws, rfl, F', fun p hp => ?_, fun p hp hq => off' p hp (List.mem_singleton.mp hq), hJ'⟩
      rcases List.mem_append.mp hp with h | h
      · have hg : h₁.get? p.1 = some p.2 := hget p h
        rcases List.mem_cons.mp (hown p h) with e | e
        · rw [e, hoI] at hg
          have : p = (s.heap.objs.size, oI) := Prod.ext e (Option.some.inj hg).symm
          rw [this]
          exact N' _ (.head _)
        · have e' := List.mem_singleton.mp e
          rw [e', hbx] at hg
          have : p = (bx, W.listOf vs.toArray nn) := Prod.ext e' (Option.some.inj hg).symm
          rw [this]
          exact N' _ (.tail _ (hJm _ _ _ hJ'))
      · exact N' p (.tail _ h)
    cases f with
    | ret v => exact .ret p
    | brk => exact .brk p
    | next => exact .next (fin p)
    | cont => exact .cont (fin p)
  · intro h' tk m' news' F' N' _ hJ
    have : vs.toArray.size = vs.length := by simp
    rw [this] at hJ
    exact done m' news' h' tk hJ F' N'
end
end Mine
end
section
open PySem PySem.W PyProof.Rows PySem.Spec PySem.Calls
set_option Elab.async false
set_option maxRecDepth 100000
namespace Mine
section
variable {prog : Program} {w : World} {A : Around} {E : Value → Shared → Prop} {s : Shared} {env : Env} {h₀ : Heap} {target : PySem.Expr} {body : List Stmt} {Q : Flow → Shared → Prop}
theorem for_box {iter : PySem.Expr} {pos : Pos} {m : Str → Option Value} {bx : Addr} (F : Fr h₀ env.locals s.heap m) (hx : ∀ Q' : Value → Shared → Prop, Q' (.ref bx) s → wpAny (model prog w) A (eval iter env) Q' E s)
    (h : Stop (wpAny (model prog w) A (pyIter (.ref bx)) (fun it s₂ => TurnsAt prog w A h₀ env target body Q E it s₂) E s))
    (hs : ∀ x, foldedSetIterable iter env x = pure x := by intro _; rfl)
    (hE : PassesOwn (model prog w) A env E := by passes_own) :
    wpAny (model prog w) A (exec (.For target iter body [] pos) env) Q E s := For_turns F (hx _ h) hs hE
end
def IntsOut (ns : List Int) (v : Value) (tl : List (Addr × Obj)) : Prop := ∃ D vs n, v = .ref D ∧ tl = [(D, W.listOf vs.toArray n)] ∧ IntsAre vs ns
local macro_rules | `(tactic| k_room) => `(tactic| ktr_room)
local macro_rules | `(tactic| walk_at "exec For Tuple Name cons nil") => `(tactic| (k_here; k_extra "Bb1"))
abbrev Box := Int × Int × Int
structure GoodBox (b : Box) : Prop where
  a0 : 0 ≤ b.1
  a1 : b.1 < 5
  b0 : 0 ≤ b.2.1
  b1 : b.2.1 < 5
  c0 : 0 ≤ b.2.2
  c1 : b.2.2 < 5
  ab : b.1 ≠ b.2.1
  ac : b.1 ≠ b.2.2
  bc : b.2.1 ≠ b.2.2
def BoxAt (news : List (Addr × Obj)) (v : Value) (b : Box) : Prop := ∃ d ta tb tc, v = .ref d ∧ (d, ({ cls := .type "tuple", data := .seq #[.int b.1 ta, .int b.2.1 tb, .int b.2.2 tc] } : Obj)) ∈ news
structure BoxesAt (news : List (Addr × Obj)) (bx : Addr) (vs : List Value) (n : Nat) (bs : List Box) : Prop where
  mem : (bx, W.listOf vs.toArray n) ∈ news
  len : vs.length = bs.length
  at_ : ∀ (i : Nat) (v : Value) (b : Box), vs[i]? = some v → bs[i]? = some b → BoxAt news v b
  good : ∀ b ∈ bs, GoodBox b
def stepW (ws : List Int) (b : Box) : List Int :=
  ((ws.set b.1.toNat (Builtin.bitAnd (Builtin.bitAnd (ws.getD b.1.toNat 0) (ws.getD b.2.1.toNat 0)) (ws.getD b.2.2.toNat 0))).set b.2.1.toNat
    (Builtin.bitOr (Builtin.bitAnd (ws.getD b.1.toNat 0) (ws.getD b.2.1.toNat 0)) (Builtin.bitAnd (Builtin.bitOr (ws.getD b.1.toNat 0) (ws.getD b.2.1.toNat 0)) (ws.getD b.2.2.toNat 0)))).set b.2.2.toNat
    (Builtin.bitOr (Builtin.bitOr (ws.getD b.1.toNat 0) (ws.getD b.2.1.toNat 0)) (ws.getD b.2.2.toNat 0))
def words0 : List Int := [2863311530, 3435973836, 4042322160, 4278255360, 4294901760]
theorem stepW_len (ws : List Int) (b : Box) : (stepW ws b).length = ws.length := by unfold stepW; simp
theorem foldW_len (bs : List Box) (ws : List Int) : (bs.foldl stepW ws).length = ws.length := by
  induction bs generalizing ws with
  | nil => rfl
  | cons b r ih => rw [List.foldl_cons, ih, stepW_len]

/-- the names that a loop stores are forgotten, the others are as they were -/
def Keeps (st : List Str) (m₀ m : Str → Option Value) : Prop := ∀ y, y ∉ st → m y = m₀ y
theorem keeps_refl (st : List Str) (m : Str → Option Value) : Keeps st m m := fun _ _ => rfl
theorem keeps_set {st : List Str} {m₀ m : Str → Option Value} {a : Str} {f : Str → Option Value} (h : Keeps st m₀ m) (ha : a ∈ st) : Keeps st m₀ (fun y => if y = a then f y else m y) := by
  intro y hy
  show (if y = a then f y else m y) = m₀ y
  rw [if_neg (fun e : y = a => hy (by rw [e]; exact ha))]
  exact h y hy
def wStored : List Str := [Str.ofString "first", Str.ofString "second", Str.ofString "third", Str.ofString "one", Str.ofString "two", Str.ofString "three", Str.ofString "both", Str.ofString "either"]
theorem keeps_w {m₀ m : Str → Option Value} (h : Keeps wStored m₀ m) : m = fun y => if y = Str.ofString "first" then m y else if y = Str.ofString "second" then m y else if y = Str.ofString "third" then m y else if y = Str.ofString "one" then m y else if y = Str.ofString "two" then m y else if y = Str.ofString "three" then m y else if y = Str.ofString "both" then m y else if y = Str.ofString "either" then m y else m₀ y := by
  funext y
  by_cases hy : y ∈ wStored
  · unfold wStored at hy
    simp only [List.mem_cons, List.not_mem_nil, or_false] at hy
    rcases hy with rfl | rfl | rfl | rfl | rfl | rfl | rfl | rfl <;> simp
  · rw [h y hy]
    unfold wStored at hy
    simp only [List.mem_cons, List.not_mem_nil, or_false, not_or] at hy
    obtain ⟨h1, h2, h3, h4, h5, h6, h7, h8⟩ := hy
    simp only [if_neg h1, if_neg h2, if_neg h3, if_neg h4, if_neg h5, if_neg h6, if_neg h7, if_neg h8]
def JW (news : List (Addr × Obj)) (bs : List Box) (Wd : Addr) (m₀ : Str → Option Value) (i : Nat) (m : Str → Option Value) (nws : List (Addr × Obj)) : Prop :=
  Keeps wStored m₀ m ∧ ∃ vs n, IntsAre vs ((bs.take i).foldl stepW words0) ∧ nws = (Wd, W.listOf vs.toArray n) :: news
section
variable {prog : Program} {w : World} {A : Around} {E : Value → Shared → Prop} {s : Shared} {env : Env} {h₀ : Heap} {target : PySem.Expr} {body : List Stmt} {Q : Flow → Shared → Prop}
theorem words_loop {news : List (Addr × Obj)} {bx Wd : Addr} {bvs : List Value} {nb : Nat} {bs : List Box} {m₀ : Str → Option Value} {t0 t1 t2 t3 t4 : Tok} (hB : BoxesAt news bx bvs nb bs)
    (hh : A.handled = none) (F : Fr h₀ env.locals s.heap m₀) (N : News h₀ env.locals s.heap ((Wd, W.listOf #[.int 2863311530 t0, .int 3435973836 t1, .int 4042322160 t2, .int 4278255360 t3, .int 4294901760 t4] 0) :: news))
    (turn : ∀ i d a b c ta tb tc m₁ I oI h tk ws ns n, GoodBox (a, b, c) → ns.length = 5 → stepW ns (a, b, c) = (bs.take (i + 1)).foldl stepW words0 → IntsAre ws ns → Keeps wStored m₀ m₁ → Fr h₀ env.locals h m₁ →
      News h₀ env.locals h ((d, ({ cls := .type "tuple", data := .seq #[.int a ta, .int b tb, .int c tc] } : Obj)) :: (I, oI) :: (Wd, W.listOf ws.toArray n) :: news) → (d, ({ cls := .type "tuple", data := .seq #[.int a ta, .int b tb, .int c tc] } : Obj)) ∈ news → Wd ≠ I → (∀ p ∈ news, p.1 ≠ I) →
      wpAny (model prog w) A (assign target env (.ref d)) (fun _ s₃ => wpAny (model prog w) A (execs body env) (BoxEnd h₀ env.locals (JW news bs Wd m₀ (i + 1)) I oI { s with heap := h, toks := tk } Q) E s₃) E { s with heap := h, toks := tk })
    (done : ∀ ws n m₁ h tk, IntsAre ws (bs.foldl stepW words0) → Keeps wStored m₀ m₁ → Fr h₀ env.locals h m₁ → News h₀ env.locals h ((Wd, W.listOf ws.toArray n) :: news) → Q .next { s with heap := h, toks := tk }) :
    wpAny (model prog w) A (pyIter (.ref bx)) (fun it s₂ => TurnsAt prog w A h₀ env target body Q E it s₂) E s := by
  refine box_loop (vs := bvs) (nn := nb) (JW news bs Wd m₀) hh F N ?_ ?_ ?_ ?_
  · rintro i m nws ⟨_, vs, n, _, rfl⟩
    exact .tail _ hB.mem
  · exact ⟨fun _ _ => rfl, [.int 2863311530 t0, .int 3435973836 t1, .int 4042322160 t2, .int 4278255360 t3, .int 4294901760 t4], 0, .cons _ _ (.cons _ _ (.cons _ _ (.cons _ _ (.cons _ _ .nil)))), rfl⟩
  · rintro i v m₁ nws I oI h tk hv ⟨hk, ws, n, hi, rfl⟩ F₁ N₁ hoff
    have hlt : i < bs.length := by rw [← hB.len]; exact (List.getElem?_eq_some_iff.mp hv).1
    have hb : bs[i]? = some bs[i] := List.getElem?_eq_getElem hlt
    obtain ⟨d, ta, tb, tc, rfl, hd⟩ := hB.at_ i v _ hv hb
    have hg := hB.good _ (List.getElem_mem hlt)
    have hs : (bs.take (i + 1)).foldl stepW words0 = stepW ((bs.take i).foldl stepW words0) bs[i] := by
      rw [List.take_add_one, hb, List.foldl_append]; rfl
    generalize bs[i] = b at *
    obtain ⟨a, b, c⟩ := b
    refine turn i d a b c ta tb tc m₁ I oI h tk ws _ n hg (by rw [foldW_len]; rfl) hs.symm hi hk F₁ (fun p hp => ?_) hd (fun e => hoff _ (.head _) e) (fun p hp => hoff p (.tail _ hp))
    rcases List.mem_cons.mp hp with rfl | hp
    · exact N₁ _ (.tail _ (.tail _ hd))
    · exact N₁ _ hp
  · rintro m₁ nws h tk ⟨hk, ws, n, hi, rfl⟩ F₁ N₁
    rw [hB.len, List.take_length] at hi
    exact done ws n m₁ h tk hi hk F₁ N₁
theorem words_end {news : List (Addr × Obj)} {bs : List Box} {Wd I L : Addr} {oI : Obj} {p1 p2 : Addr × Obj} {m₀ m' : Str → Option Value} {i n : Nat} {ws : List Value} {ns : List Int} {h' : Heap} {tk : Nat}
    (F : Fr h₀ L h' m') (N : News h₀ L h' (p1 :: p2 :: (I, oI) :: (Wd, W.listOf ws.toArray n) :: news)) (hi : IntsAre ws ns) (e : ns = (bs.take (i + 1)).foldl stepW words0) (hk : Keeps wStored m₀ m') (h1 : Wd ≠ I) (h2 : ∀ p ∈ news, p.1 ≠ I) :
    BoxEnd h₀ L (JW news bs Wd m₀ (i + 1)) I oI s Q .next { s with heap := h', toks := tk } := by
  refine ⟨h', tk, m', (Wd, W.listOf ws.toArray n) :: news, rfl, F, fun p hp => N p (.tail _ (.tail _ hp)), fun p hp => ?_, hk, ws, n, e ▸ hi, rfl⟩
  rcases List.mem_cons.mp hp with rfl | hp
  · exact h1
  · exact h2 p hp
end
section
variable {prog : Program} {w : World} {A : Around} {E : Value → Shared → Prop} {s : Shared} {h₀ : Heap} {L D : Addr} {m : Str → Option Value} {news : List (Addr × Obj)} {vs : List Value} {ns : List Int} {n : Nat} {k x : Int} {t u : Tok} {p1 p2 p3 : Addr × Obj}
theorem set_at3 {Q : Unit → Shared → Prop} (F : Fr h₀ L s.heap m) (N : News h₀ L s.heap (p1 :: p2 :: p3 :: (D, W.listOf vs.toArray n) :: news)) (n1 : p1.1 ≠ D) (n2 : p2.1 ≠ D) (n3 : p3.1 ≠ D) (n4 : ∀ p ∈ news, p.1 < D) (hi : IntsAre vs ns) (h0 : 0 ≤ k) (h1 : k < 5) (h5 : ns.length = 5)
    (h : ∀ h' vs', Fr h₀ L h' m → News h₀ L h' (p1 :: p2 :: p3 :: (D, W.listOf vs'.toArray n) :: news) → IntsAre vs' (ns.set k.toNat x) → (ns.set k.toNat x).length = 5 → Q () { s with heap := h' }) :
    wpAny (model prog w) A (setItem (.ref D) (.int k t) (.int x u)) Q E s :=
  ksa_set F N (.tail n1 (.tail n2 (.tail n3 (.head fun p hp => Nat.ne_of_lt (n4 p hp))))) hi h0 (by omega) (by omega) fun h' F' N' hi' hl' _ => h h' _ F' N' hi' (hl'.trans h5)
end
local macro_rules | `(tactic| walk_at "setItem ref int") => `(tactic| (k_here; (with_reducible show wpAny _ _ (setItem (Value.ref _) (Value.int _ _) (Value.int _ _)) _ _ _); k_extra "Bb2"))
local macro_rules | `(tactic| walk_at "execs cons") => `(tactic| (k_here; k_extra "Bb3"; intro m9 F9 M9; (try dsimp only)))
local macro_rules | `(tactic| walk_at "execs cons") => `(tactic| (k_here; (with_reducible refine gen_toks0 ?_); intro tk8))
set_option maxHeartbeats 8000000 in
theorem words_c (w : World) (mean : ExcName → Option Value) (mg mb : Str → Option Value) (news : List (Addr × Obj)) (bx : Addr) (bvs : List Value) (nb : Nat) (bs : List Box) (hB : BoxesAt news bx bvs nb bs) :
  Ctr w mean mg mb 152 2 news [.ref bx] (IntsOut (bs.foldl stepW words0)) := by
  dsimp only [Ctr]
  (k_with "Bb1" => (k_dflt (refine' for_box ?k1 ?k2 ?_; (case k1 => k_asm); (case k2 => (intro Q' hq; exact ld (by k_asm) rfl hq)))))
  (k_with "Bb2" => (k_dflt (refine' set_at3 ?k1 ?k2 ?k3 ?k4 ?k5 ?k6 ?k7 ?k8 ?k9 ?k0 ?_; (case k1 => k_asm); (case k2 => k_asm); (case k3 => k_ne); (case k4 => k_ne); (case k5 => k_ne); (case k6 => assumption); (case k7 => with_reducible assumption); (case k8 => assumption); (case k9 => assumption); (case k0 => assumption); intro h' vs' F' N' hi' hl')))
  (k_with "Bb3" => ((rename Fr _ _ _ _ => lF); (fail_if_success (have := mk_of lF (by assumption))); (with_reducible refine fold_m lF ?_); clear lF))
  w_top off
  k_fill
  intros; rename_i hret
  refine wpAny_call ?_
  k_dflt cell_enter
  k_steps
  unfold Stop
  rename (∀ p ∈ news, _ < _) => hl1
  rename News _ _ _ _ => hN
  rename Fr _ _ _ _ => hF
  try dsimp only
  refine words_loop hB rfl hF hN ?_ ?_
  · intro i d a b c ta tb tc m₁ I oI h tk ws ns n hg hlen hstep hi hk F₁ N₁ hd hWI hoff
    rw [keeps_w hk] at F₁
    have hdW := ltN (hl1 _ hd)
    have hdI := neN (hoff _ hd)
    have hWI' := neN hWI
    obtain ⟨ga0, ga1, gb0, gb1, gc0, gc1, gab, gac, gbc⟩ := hg
    dsimp only at ga0 ga1 gb0 gb1 gc0 gc1 gab gac gbc hdW hdI
    try dsimp only
    k_steps
    refine words_end (ns := stepW ns (a, b, c)) (by k_asm) (by k_asm) (by assumption) hstep ?_ hWI hoff
    repeat (refine keeps_set ?_ (by decide))
    exact fun _ _ => rfl
  · intro ws n m₁ h tk hi hk F₁ N₁
    rw [keeps_w hk] at F₁
    k_steps
    exact hret _ [_] _ _ (by assumption) (by assumption) (lt_out hl1) ⟨_, _, _, rfl, rfl, hi⟩
end Mine
end
section
open PySem PySem.W PyProof.Rows PySem.Spec PySem.Calls
set_option Elab.async false
set_option maxRecDepth 100000
namespace Mine
def stepR (ws : List Int) (b : Box) : List Int :=
  ((ws.set b.1.toNat (lo3 (ws.getD b.1.toNat 0) (ws.getD b.2.1.toNat 0) (ws.getD b.2.2.toNat 0))).set b.2.1.toNat (mid3 (ws.getD b.1.toNat 0) (ws.getD b.2.1.toNat 0) (ws.getD b.2.2.toNat 0))).set b.2.2.toNat (hi3 (ws.getD b.1.toNat 0) (ws.getD b.2.1.toNat 0) (ws.getD b.2.2.toNat 0))
/-- five numbers from 0 to 4096 -/
structure Five (ws : List Int) : Prop where
  len : ws.length = 5
  bd : ∀ x ∈ ws, 0 ≤ x ∧ x ≤ 4096
theorem getD_mem {ws : List Int} {k : Nat} (h : k < ws.length) : ws.getD k 0 ∈ ws := by
  rw [List.getD_eq_getElem?_getD, List.getElem?_eq_getElem h]; exact List.getElem_mem h
theorem mem_set_or {ws : List Int} {k : Nat} {x y : Int} (h : y ∈ ws.set k x) : y = x ∨ y ∈ ws := by
  rcases List.mem_or_eq_of_mem_set h with h | h
  · exact .inr h
  · exact .inl h
theorem Five.get {ws : List Int} (f : Five ws) {k : Int} (h0 : 0 ≤ k) (h1 : k < 5) : 0 ≤ ws.getD k.toNat 0 ∧ ws.getD k.toNat 0 ≤ 4096 := f.bd _ (getD_mem (by rw [f.len]; omega))
theorem Five.step {ws : List Int} (f : Five ws) {b : Box} (g : GoodBox b) : Five (stepR ws b) := by
  refine ⟨by unfold stepR; simp [f.len], fun x hx => ?_⟩
  have t := three_bd (f.get g.a0 g.a1) (f.get g.b0 g.b1) (f.get g.c0 g.c1)
  unfold stepR at hx
  rcases mem_set_or hx with rfl | hx
  · exact t.2.2
  rcases mem_set_or hx with rfl | hx
  · exact t.2.1
  rcases mem_set_or hx with rfl | hx
  · exact t.1
  exact f.bd x hx
theorem Five.fold {ws : List Int} (f : Five ws) : ∀ {bs : List Box}, (∀ b ∈ bs, GoodBox b) → Five (bs.foldl stepR ws)
  | [], _ => f
  | b :: r, h => Five.fold (f.step (h b (.head _))) fun c hc => h c (.tail _ hc)

def rStored : List Str := [Str.ofString "light", Str.ofString "first", Str.ofString "second", Str.ofString "third", Str.ofString "trio", Str.ofString "told"]
theorem keeps_r {m₀ m : Str → Option Value} {v : Value} (h : Keeps rStored m₀ m) (hl : m (Str.ofString "light") = some v) : m = fun y => if y = Str.ofString "light" then some v else if y = Str.ofString "first" then m y else if y = Str.ofString "second" then m y else if y = Str.ofString "third" then m y else if y = Str.ofString "trio" then m y else if y = Str.ofString "told" then m y else m₀ y := by
  funext y
  by_cases hL : y = Str.ofString "light"
  · rw [if_pos hL, hL, hl]
  rw [if_neg hL]
  by_cases hy : y ∈ rStored
  · unfold rStored at hy
    simp only [List.mem_cons, List.not_mem_nil, or_false] at hy
    rcases hy with rfl | rfl | rfl | rfl | rfl | rfl
    · exact absurd rfl hL
    all_goals simp
  · rw [h y hy]
    unfold rStored at hy
    simp only [List.mem_cons, List.not_mem_nil, or_false, not_or] at hy
    obtain ⟨h1, h2, h3, h4, h5, h6⟩ := hy
    simp only [if_neg h2, if_neg h3, if_neg h4, if_neg h5, if_neg h6]
def JR (news : List (Addr × Obj)) (bs : List Box) (row : List Int) (Wd : Addr) (m₀ : Str → Option Value) (i : Nat) (m : Str → Option Value) (nws : List (Addr × Obj)) : Prop :=
  Keeps rStored m₀ m ∧ (∃ lt : Bool, m (Str.ofString "light") = some (.bool lt)) ∧ ∃ vs n, IntsAre vs ((bs.take i).foldl stepR row) ∧ nws = (Wd, W.listOf vs.toArray n) :: news
section
variable {prog : Program} {w : World} {A : Around} {E : Value → Shared → Prop} {s : Shared} {env : Env} {h₀ : Heap} {target : PySem.Expr} {body : List Stmt} {Q : Flow → Shared → Prop}
theorem run_loop {news : List (Addr × Obj)} {bx Wd : Addr} {bvs rvs : List Value} {nb rn : Nat} {bs : List Box} {row : List Int} {m₀ : Str → Option Value} (hB : BoxesAt news bx bvs nb bs) (hr : Five row)
    (hh : A.handled = none) (F : Fr h₀ env.locals s.heap m₀) (hl : m₀ (Str.ofString "light") = some (.bool false)) (N : News h₀ env.locals s.heap ((Wd, W.listOf rvs.toArray rn) :: news)) (hi0 : IntsAre rvs row)
    (turn : ∀ i d a b c ta tb tc m₁ I oI h tk ws ns n lt, GoodBox (a, b, c) → Five ns → stepR ns (a, b, c) = (bs.take (i + 1)).foldl stepR row → IntsAre ws ns → Keeps rStored m₀ m₁ → m₁ (Str.ofString "light") = some (.bool lt) → Fr h₀ env.locals h m₁ →
      News h₀ env.locals h ((d, ({ cls := .type "tuple", data := .seq #[.int a ta, .int b tb, .int c tc] } : Obj)) :: (I, oI) :: (Wd, W.listOf ws.toArray n) :: news) → (d, ({ cls := .type "tuple", data := .seq #[.int a ta, .int b tb, .int c tc] } : Obj)) ∈ news → Wd ≠ I → (∀ p ∈ news, p.1 ≠ I) →
      wpAny (model prog w) A (assign target env (.ref d)) (fun _ s₃ => wpAny (model prog w) A (execs body env) (BoxEnd h₀ env.locals (JR news bs row Wd m₀ (i + 1)) I oI { s with heap := h, toks := tk } Q) E s₃) E { s with heap := h, toks := tk })
    (done : ∀ ws n m₁ h tk lt, IntsAre ws (bs.foldl stepR row) → Keeps rStored m₀ m₁ → m₁ (Str.ofString "light") = some (.bool lt) → Fr h₀ env.locals h m₁ → News h₀ env.locals h ((Wd, W.listOf ws.toArray n) :: news) → Q .next { s with heap := h, toks := tk }) :
    wpAny (model prog w) A (pyIter (.ref bx)) (fun it s₂ => TurnsAt prog w A h₀ env target body Q E it s₂) E s := by
  refine box_loop (vs := bvs) (nn := nb) (JR news bs row Wd m₀) hh F N ?_ ?_ ?_ ?_
  · rintro i m nws ⟨_, _, vs, n, _, rfl⟩
    exact .tail _ hB.mem
  · exact ⟨fun _ _ => rfl, ⟨false, hl⟩, rvs, rn, hi0, rfl⟩
  · rintro i v m₁ nws I oI h tk hv ⟨hk, ⟨lt, hlt'⟩, ws, n, hi, rfl⟩ F₁ N₁ hoff
    have hlt : i < bs.length := by rw [← hB.len]; exact (List.getElem?_eq_some_iff.mp hv).1
    have hb : bs[i]? = some bs[i] := List.getElem?_eq_getElem hlt
    obtain ⟨d, ta, tb, tc, rfl, hd⟩ := hB.at_ i v _ hv hb
    have hg := hB.good _ (List.getElem_mem hlt)
    have hs : (bs.take (i + 1)).foldl stepR row = stepR ((bs.take i).foldl stepR row) bs[i] := by
      rw [List.take_add_one, hb, List.foldl_append]; rfl
    generalize bs[i] = b at *
    obtain ⟨a, b, c⟩ := b
    refine turn i d a b c ta tb tc m₁ I oI h tk ws _ n lt hg (hr.fold fun b hb => hB.good b (List.mem_of_mem_take hb)) hs.symm hi hk hlt' F₁ (fun p hp => ?_) hd (fun e => hoff _ (.head _) e) (fun p hp => hoff p (.tail _ hp))
    rcases List.mem_cons.mp hp with rfl | hp
    · exact N₁ _ (.tail _ (.tail _ hd))
    · exact N₁ _ hp
  · rintro m₁ nws h tk ⟨hk, ⟨lt, hlt'⟩, ws, n, hi, rfl⟩ F₁ N₁
    rw [hB.len, List.take_length] at hi
    exact done ws n m₁ h tk lt hi hk hlt' F₁ N₁
end
section
variable {w : World} {mean : ExcName → Option Value} {mg mb : Str → Option Value} {f : Addr} {k : Nat} {news : List (Addr × Obj)} {vs : List Value} {dp un : Nat} {gd : Option (List Code)} {cn : Str} {cs : Scope} {a : Addr} {ccd : Value} {cl : List (Str × Addr)} {outer : List Env} {A₀ : Around} {base h₀ : Heap} {L : Addr} {m : Str → Option Value} {s : Shared} {Q E : Value → Shared → Prop}
theorem fall_use {T : Addr} {A B C : Int} {ta tb tc : Tok} {light : Bool} (hA : 0 ≤ A ∧ A ≤ 4096) (hB : 0 ≤ B ∧ B ≤ 4096) (hC : 0 ≤ C ∧ C ≤ 4096) (Bl : Below A₀ base outer h₀) (F : Fr h₀ L s.heap m) (X : (Mine.hd.heap_39 w.params).In h₀) (N : News h₀ L s.heap ((T, W.listOf #[.int A ta, .int B tb, .int C tc] 0) :: news))
    (Tp : Top Mine.hd.view_39 (looseW Mine.hd.view_39 [Str.ofString "ONE_THIRD", Str.ofString "ONE_SIXTH", Str.ofString "TWO_THIRD"]) mean mg mb h₀) (hk : cs.kind = .function) (hd : dp + 3 < recursionLimit) (hu : un + 8 * 3 + 200 < cLine)
    (ret : ∀ D t1 t2 t3 h' tk', Fr h₀ L h' m → News h₀ L h' ((D, W.listOf #[.int (hi3 A B C) t1, .int (mid3 A B C) t2, .int (lo3 A B C) t3] 3) :: (T, W.listOf #[.int A ta, .int B tb, .int C tc] 0) :: news) → LCg.Off1 D ((T, W.listOf #[.int A ta, .int B tb, .int C tc] 0) :: news) → Q (.ref D) { s with heap := h', toks := tk' }) :
    wpAny (model Challenge.rw_pe0115_01.row.prog w) (ktrTop dp un gd cn cs L a ccd cl outer) (call (.ref 138) [.ref T, .bool light]) Q E s :=
  fall_ok w mean mg mb news T A B C ta tb tc light hA.1 hA.2 hB.1 hB.2 hC.1 hC.2 _ _ _ _ _ _ _ _ _ _ _ _ _ _ _ _ _ Bl F X N Tp hk hd hu fun v tl h' tk' F' N' hl ho => by
    obtain ⟨D, t1, t2, t3, rfl, rfl⟩ := ho
    exact ret D t1 t2 t3 h' tk' F' N' (off1_of fun q hq => hl q hq _ (.head _))
end
local macro_rules | `(tactic| k_room) => `(tactic| ktr_room)
local macro_rules | `(tactic| walk_at "exec For Tuple Name cons nil") => `(tactic| (k_here; k_extra "Bc1"))
local macro_rules | `(tactic| walk_at "call type:list") => `(tactic| (k_here; (with_reducible show wpAny _ _ (call (Value.type _) [Value.ref _]) _ _ _); k_extra "Bc2"; intro D' c' h' F' N' l1))
section
variable {s : Shared} {h₀ : Heap} {Q : Flow → Shared → Prop}
theorem run_end {news : List (Addr × Obj)} {bs : List Box} {row : List Int} {Wd I L : Addr} {oI : Obj} {p1 p2 p3 p4 p5 : Addr × Obj} {m₀ m' : Str → Option Value} {i n : Nat} {ws : List Value} {ns : List Int} {h' : Heap} {tk : Nat}
    (F : Fr h₀ L h' m') (N : News h₀ L h' (p1 :: p2 :: p3 :: p4 :: p5 :: (I, oI) :: (Wd, W.listOf ws.toArray n) :: news)) (hi : IntsAre ws ns) (e : ns = (bs.take (i + 1)).foldl stepR row) (hk : Keeps rStored m₀ m') (hlt : ∃ lt : Bool, m' (Str.ofString "light") = some (.bool lt)) (h1 : Wd ≠ I) (h2 : ∀ p ∈ news, p.1 ≠ I) :
    BoxEnd h₀ L (JR news bs row Wd m₀ (i + 1)) I oI s Q .next { s with heap := h', toks := tk } := by
  refine ⟨h', tk, m', (Wd, W.listOf ws.toArray n) :: news, rfl, F, fun p hp => N p (.tail _ (.tail _ (.tail _ (.tail _ (.tail _ hp))))), fun p hp => ?_, hk, hlt, ws, n, e ▸ hi, rfl⟩
  rcases List.mem_cons.mp hp with rfl | hp
  · exact h1
  · exact h2 p hp
end
local macro_rules | `(tactic| walk_at "call ref") => `(tactic| ((with_reducible show wpAny _ _ (call (Value.ref 138) _) _ _ _); refine stop_of ?_))
local macro_rules | `(tactic| walk_at "execs cons") => `(tactic| (k_here; k_extra "Bc3"; intro m9 F9 M9; (try dsimp only)))
local macro_rules | `(tactic| walk_at "execs cons") => `(tactic| (k_here; (with_reducible refine gen_toks0 ?_); intro tk8))
set_option maxHeartbeats 8000000 in
theorem run_c (w : World) (mean : ExcName → Option Value) (mg mb : Str → Option Value) (news : List (Addr × Obj)) (bx : Addr) (bvs : List Value) (nb : Nat) (bs : List Box) (hB : BoxesAt news bx bvs nb bs) (Rw : Addr) (rvs : List Value) (rn : Nat) (row : List Int)
  (hR : (Rw, W.listOf rvs.toArray rn) ∈ news) (hri : IntsAre rvs row) (hr : Five row) :
  Ctr w mean mg mb 145 5 news [.ref bx, .ref Rw] (IntsOut (bs.foldl stepR row)) := by
  have hsz : rvs.toArray.size ≤ sizeLine := by rw [List.size_toArray, hri.length, hr.len]; decide
  dsimp only [Ctr]
  (k_with "Bc1" => (k_dflt (refine' for_box ?k1 ?k2 ?_; (case k1 => k_asm); (case k2 => (intro Q' hq; exact ld (by k_asm) rfl hq)))))
  (k_with "Bc2" => (k_dflt (refine' list_copyK ?k1 ?k2 ?k3 ?_ ?z; (case k1 => k_asm); (case k2 => k_asm); (case k3 => exact ⟨_, News.get (by k_asm) (by assumption), rfl, _, rfl⟩); (case z => assumption))))
  (k_with "Bc3" => ((rename Fr _ _ _ _ => lF); (fail_if_success (have := mk_of lF (by assumption))); (with_reducible refine fold_m lF ?_); clear lF))
  w_top off
  k_fill
  intros; rename_i hret
  refine wpAny_call ?_
  k_dflt cell_enter
  k_steps
  unfold Stop

  rename (∀ p ∈ news, _ < _) => hl1
  rename News _ _ _ _ => hN
  rename Fr _ _ _ _ => hF
  try dsimp only
  refine run_loop hB hr rfl hF rfl hN hri ?_ ?_
  · intro i d a b c ta tb tc m₁ I oI h tk ws ns n lt hg hf hstep hi hk hlt F₁ N₁ hd hWI hoff
    rw [keeps_r hk hlt] at F₁
    have hdW := ltN (hl1 _ hd)
    have hdI := neN (hoff _ hd)
    have hWI' := neN hWI
    have hlen := hf.len
    have hx := hf.get hg.a0 hg.a1
    have hy := hf.get hg.b0 hg.b1
    have hz := hf.get hg.c0 hg.c1
    obtain ⟨ga0, ga1, gb0, gb1, gc0, gc1, gab, gac, gbc⟩ := hg
    dsimp only at ga0 ga1 gb0 gb1 gc0 gc1 gab gac gbc hdW hdI hx hy hz
    try dsimp only
    k_steps
    unfold Stop
    k_dflt (refine' fall_use ?p1 ?p2 ?p3 ?k1 ?k2 ?k3 ?k4 ?k5 ?kK ?kd ?ku ?_)
    (case k1 => k_asm)
    (case k2 => k_asm)
    (case k3 => k_asm)
    (case k4 => k_asm)
    (case k5 => k_asm)
    (case kK => exact rfl)
    (case kd => ktr_room)
    (case ku => ktr_units)
    (case p1 => assumption)
    (case p2 => assumption)
    (case p3 => assumption)
    intro D9 t9 t8 t7 h9 tk9 F9 N9 l9
    (try simp only [LCg.Off1, and_true] at l9)
    (try dsimp only)
    (try k_fold)
    k_steps
    · refine run_end (ns := stepR ns (a, b, c)) (by k_asm) (by k_asm) (by assumption) hstep ?_ ⟨_, rfl⟩ hWI hoff
      repeat (first | with_reducible exact keeps_refl _ _ | refine keeps_set ?_ (by decide))
    · exfalso
      exact absurd (sort3 (by assumption) (by assumption)) (by assumption)
  · intro ws n m₁ h tk lt hi hk hlt F₁ N₁
    rw [keeps_r hk hlt] at F₁
    k_steps
    exact hret _ [_] _ _ (by assumption) (by assumption) (lt_out hl1) ⟨_, _, _, rfl, rfl, hi⟩
end Mine
end
section
open PySem PySem.W PyProof.Rows PySem.Spec PySem.Calls
set_option Elab.async false
set_option maxRecDepth 100000
namespace Mine
theorem kl_cut_at : ∀ (l : List Value) (k : Nat) (h : k < l.length), kl_cut l k = some (l.take k, l[k], l.drop (k + 1))
  | [], _, h => absurd h (Nat.not_lt_zero _)
  | x :: r, 0, _ => rfl
  | x :: r, k + 1, h => by
    have := kl_cut_at r k (Nat.lt_of_succ_lt_succ h)
    unfold kl_cut
    rw [this]
    rfl
theorem ints_erase : ∀ {vs : List Value} {ns : List Int}, IntsAre vs ns → ∀ k : Nat, IntsAre (vs.take k ++ vs.drop (k + 1)) (ns.eraseIdx k)
  | _, _, .nil, k => by simp; exact .nil
  | _, _, .cons i t h, 0 => by simpa using h
  | _, _, .cons i t h, k + 1 => by
    have := ints_erase h k
    simpa using IntsAre.cons i t this
section
variable {prog : Program} {w : World} {A : Around} {E : Value → Shared → Prop} {s : Shared} {h₀ : Heap} {L D : Addr} {m : Str → Option Value} {rest : List (Addr × Obj)} {vs : List Value} {ns : List Int} {n : Nat} {i : Int} {u : Tok}
theorem pop_any {Q : Value → Shared → Prop} (F : Fr h₀ L s.heap m) (N : News h₀ L s.heap ((D, W.listOf vs.toArray n) :: rest)) (off : ∀ p ∈ rest, p.1 ≠ D) (hi : IntsAre vs ns) (h0 : 0 ≤ i) (h1 : i < ns.length) (h5 : ns.length ≤ 5)
    (h : ∀ h' t vs', Fr h₀ L h' m → News h₀ L h' ((D, W.listOf vs'.toArray (n + 1)) :: rest) → IntsAre vs' (ns.eraseIdx i.toNat) → (ns.eraseIdx i.toNat).length + 1 = ns.length → Q (.int (ns.getD i.toNat 0) t) { s with heap := h' }) :
    wpAny (model prog w) A (call (.builtin "list.pop") [.ref D, .int i u]) Q E s := by
  have hl : vs.length = ns.length := hi.length
  have hk : i.toNat < vs.length := by lia
  obtain ⟨t, hx⟩ := hi.get i.toNat (ns[i.toNat]'(by lia)) (List.getElem?_eq_getElem (by lia))
  have hv : vs[i.toNat] = .int (ns.getD i.toNat 0) t := by
    rw [List.getElem?_eq_getElem hk] at hx
    rw [Option.some.inj hx, List.getD_eq_getElem?_getD, List.getElem?_eq_getElem (by lia)]
    rfl
  have hc := kl_cut_at vs i.toNat hk
  rw [hv] at hc
  refine kl_popAt F N ?_ ?_ (k := i.toNat) (by simpa using hc) (.head off) ?_ fun h' F' N' => h h' t _ F' N' (ints_erase hi _) ?_
  · unfold Builtin.List.listFitsIndex
    simp
    lia
  · unfold seqIndex?
    have : ¬ i < 0 := by lia
    simp [this, h0]
    lia
  · have : vs.toArray.toList = vs := by simp
    rw [this, hl]
    exact Nat.le_trans h5 (by decide)
  · rw [List.length_eraseIdx]
    have : i.toNat < ns.length := by lia
    rw [if_pos this]; lia
end
theorem idx5 (x : Int) : 0 ≤ x.fmod 5 ∧ x.fmod 5 < 5 := by rw [Int.fmod_eq_emod_of_nonneg _ (by decide)]; lia
theorem idx4 (x : Int) : 0 ≤ x.fmod 4 ∧ x.fmod 4 < 4 := by rw [Int.fmod_eq_emod_of_nonneg _ (by decide)]; lia
theorem idx3 (x : Int) : 0 ≤ (x.fmod 60).fdiv 20 ∧ (x.fmod 60).fdiv 20 < 3 := by
  rw [Int.fmod_eq_emod_of_nonneg _ (by decide), Int.fdiv_eq_ediv_of_nonneg _ (by decide)]; lia
theorem allLt_mem {d : Addr} : ∀ {l : List (Addr × Obj)}, AllLt d l → ∀ p ∈ l, p.1 < d
  | [], _, _, hp => absurd hp List.not_mem_nil
  | _ :: _, h, p, hp => by
    rcases List.mem_cons.mp hp with rfl | hp
    · exact h.1
    · exact allLt_mem h.2 p hp
section
variable {prog : Program} {w : World} {A : Around} {E : Value → Shared → Prop} {s : Shared} {h₀ : Heap} {L D : Addr} {m : Str → Option Value} {rest : List (Addr × Obj)} {vs : List Value} {ns : List Int} {n : Nat} {x : Int} {u t0 t1 t2 t3 t4 : Tok} {Q : Value → Shared → Prop}
theorem pop1 (F : Fr h₀ L s.heap m) (N : News h₀ L s.heap ((D, W.listOf #[.int 0 t0, .int 1 t1, .int 2 t2, .int 3 t3, .int 4 t4] n) :: rest)) (off : AllLt D rest)
    (h : ∀ h' t vs', Fr h₀ L h' m → News h₀ L h' ((D, W.listOf vs'.toArray (n + 1)) :: rest) → IntsAre vs' (([0, 1, 2, 3, 4] : List Int).eraseIdx (x.fmod 5).toNat) → (([0, 1, 2, 3, 4] : List Int).eraseIdx (x.fmod 5).toNat).length = 4 → Q (.int (([0, 1, 2, 3, 4] : List Int).getD (x.fmod 5).toNat 0) t) { s with heap := h' }) :
    wpAny (model prog w) A (call (.builtin "list.pop") [.ref D, .int (x.fmod 5) u]) Q E s :=
  pop_any (vs := [.int 0 t0, .int 1 t1, .int 2 t2, .int 3 t3, .int 4 t4]) F N (fun p hp => Nat.ne_of_lt (allLt_mem off p hp)) (.cons _ _ (.cons _ _ (.cons _ _ (.cons _ _ (.cons _ _ .nil))))) (idx5 x).1 (idx5 x).2 (Nat.le_refl _) fun h' t vs' F' N' hi hl => h h' t vs' F' N' hi (Nat.succ.inj hl)
theorem pop2 (F : Fr h₀ L s.heap m) (N : News h₀ L s.heap ((D, W.listOf vs.toArray n) :: rest)) (off : AllLt D rest) (hi : IntsAre vs ns) (hl : ns.length = 4)
    (h : ∀ h' t vs', Fr h₀ L h' m → News h₀ L h' ((D, W.listOf vs'.toArray (n + 1)) :: rest) → IntsAre vs' (ns.eraseIdx (x.fmod 4).toNat) → (ns.eraseIdx (x.fmod 4).toNat).length = 3 → Q (.int (ns.getD (x.fmod 4).toNat 0) t) { s with heap := h' }) :
    wpAny (model prog w) A (call (.builtin "list.pop") [.ref D, .int (x.fmod 4) u]) Q E s :=
  pop_any F N (fun p hp => Nat.ne_of_lt (allLt_mem off p hp)) hi (idx4 x).1 (by rw [hl]; exact (idx4 x).2) (by grind) fun h' t vs' F' N' hi' hl' => h h' t vs' F' N' hi' (by grind)
theorem pop3 (F : Fr h₀ L s.heap m) (N : News h₀ L s.heap ((D, W.listOf vs.toArray n) :: rest)) (off : AllLt D rest) (hi : IntsAre vs ns) (hl : ns.length = 3)
    (h : ∀ h' t (vs' : List Value), Fr h₀ L h' m → News h₀ L h' ((D, W.listOf vs'.toArray (n + 1)) :: rest) → Q (.int (ns.getD ((x.fmod 60).fdiv 20).toNat 0) t) { s with heap := h' }) :
    wpAny (model prog w) A (call (.builtin "list.pop") [.ref D, .int ((x.fmod 60).fdiv 20) u]) Q E s :=
  pop_any F N (fun p hp => Nat.ne_of_lt (allLt_mem off p hp)) hi (idx3 x).1 (by rw [hl]; exact (idx3 x).2) (by lia) fun h' t vs' F' N' _ _ => h h' t vs' F' N'
end
def pickA (x : Int) : Int := ([0, 1, 2, 3, 4] : List Int).getD (x.fmod 5).toNat 0
def pickB (x y : Int) : Int := (([0, 1, 2, 3, 4] : List Int).eraseIdx (x.fmod 5).toNat).getD (y.fmod 4).toNat 0
def pickC (x y z : Int) : Int := ((([0, 1, 2, 3, 4] : List Int).eraseIdx (x.fmod 5).toNat).eraseIdx (y.fmod 4).toNat).getD ((z.fmod 60).fdiv 20).toNat 0
theorem pick_all : ∀ a : Fin 5, ∀ b : Fin 4, ∀ c : Fin 3, let f := ([0, 1, 2, 3, 4] : List Int).getD a.1 0; let g := (([0, 1, 2, 3, 4] : List Int).eraseIdx a.1).getD b.1 0; let k := ((([0, 1, 2, 3, 4] : List Int).eraseIdx a.1).eraseIdx b.1).getD c.1 0;
    0 ≤ f ∧ f < 5 ∧ 0 ≤ g ∧ g < 5 ∧ 0 ≤ k ∧ k < 5 ∧ f ≠ g ∧ f ≠ k ∧ g ≠ k := by decide +kernel
theorem pick_good (x y z : Int) : GoodBox (pickA x, pickB x y, pickC x y z) := by
  have h5 := idx5 x
  have h4 := idx4 y
  have h3 := idx3 z
  have h := pick_all ⟨(x.fmod 5).toNat, by omega⟩ ⟨(y.fmod 4).toNat, by omega⟩ ⟨((z.fmod 60).fdiv 20).toNat, by omega⟩
  exact ⟨h.1, h.2.1, h.2.2.1, h.2.2.2.1, h.2.2.2.2.1, h.2.2.2.2.2.1, h.2.2.2.2.2.2.1, h.2.2.2.2.2.2.2.1, h.2.2.2.2.2.2.2.2⟩

def bStored : List Str := [Str.ofString "cell", Str.ofString "n", Str.ofString "wires", Str.ofString "first", Str.ofString "second", Str.ofString "third"]
theorem keeps_b {m₀ m : Str → Option Value} (h : Keeps bStored m₀ m) : m = fun y => if y = Str.ofString "cell" then m y else if y = Str.ofString "n" then m y else if y = Str.ofString "wires" then m y else if y = Str.ofString "first" then m y else if y = Str.ofString "second" then m y else if y = Str.ofString "third" then m y else m₀ y := by
  funext y
  by_cases hy : y ∈ bStored
  · unfold bStored at hy
    simp only [List.mem_cons, List.not_mem_nil, or_false] at hy
    rcases hy with rfl | rfl | rfl | rfl | rfl | rfl <;> simp
  · rw [h y hy]
    unfold bStored at hy
    simp only [List.mem_cons, List.not_mem_nil, or_false, not_or] at hy
    obtain ⟨h1, h2, h3, h4, h5, h6⟩ := hy
    simp only [if_neg h1, if_neg h2, if_neg h3, if_neg h4, if_neg h5, if_neg h6]
/-- the boxes so far -/
structure Part (tl : List (Addr × Obj)) (Bx : Addr) (vs : List Value) (bs : List Box) : Prop where
  len : vs.length = bs.length
  at_ : ∀ (i : Nat) (v : Value) (b : Box), vs[i]? = some v → bs[i]? = some b → BoxAt tl v b
  good : ∀ b ∈ bs, GoodBox b
  gt : ∀ p ∈ tl, Bx < p.1
theorem BoxAt.mono {l k : List (Addr × Obj)} {v : Value} {b : Box} (h : BoxAt l v b) (hs : ∀ p ∈ l, p ∈ k) : BoxAt k v b := by
  obtain ⟨d, ta, tb, tc, e, hd⟩ := h
  exact ⟨d, ta, tb, tc, e, hs _ hd⟩
theorem Part.nil {Bx : Addr} : Part [] Bx [] [] := ⟨rfl, fun i v b h => by simp at h, fun b h => absurd h List.not_mem_nil, fun p h => absurd h List.not_mem_nil⟩
theorem Part.snoc {tl : List (Addr × Obj)} {Bx T : Addr} {vs : List Value} {bs : List Box} {b : Box} {ta tb tc : Tok} (h : Part tl Bx vs bs) (hg : GoodBox b) (hT : Bx < T) :
    Part ((T, ({ cls := .type "tuple", data := .seq #[.int b.1 ta, .int b.2.1 tb, .int b.2.2 tc] } : Obj)) :: tl) Bx (vs ++ [.ref T]) (bs ++ [b]) := by
  refine ⟨by simp [h.len], fun i v c hv hc => ?_, fun c hc => ?_, fun p hp => ?_⟩
  · by_cases hi : i < vs.length
    · rw [List.getElem?_append_left hi] at hv
      rw [List.getElem?_append_left (by rw [← h.len]; exact hi)] at hc
      exact (h.at_ i v c hv hc).mono fun p hp => .tail _ hp
    · rw [List.getElem?_append_right (by omega)] at hv
      rw [List.getElem?_append_right (by rw [← h.len]; omega)] at hc
      rw [← h.len] at hc
      have h0 : i - vs.length = 0 := by
        have := (List.getElem?_eq_some_iff.mp hv).1
        simp at this
        omega
      rw [h0] at hv hc
      simp at hv hc
      subst hv hc
      exact ⟨T, ta, tb, tc, rfl, .head _⟩
  · rcases List.mem_append.mp hc with hc | hc
    · exact h.good c hc
    · rw [List.mem_singleton.mp hc]; exact hg
  · rcases List.mem_cons.mp hp with rfl | hp
    · exact hT
    · exact h.gt p hp
def JB (base : List (Addr × Obj)) (Bx : Addr) (m₀ : Str → Option Value) (i : Nat) (m : Str → Option Value) (nws : List (Addr × Obj)) : Prop :=
  Keeps bStored m₀ m ∧ ∃ vs n tl bs, nws = (Bx, W.listOf vs.toArray n) :: (tl ++ base) ∧ vs.length = i ∧ Part tl Bx vs bs
def BoxOut (v : Value) (tl : List (Addr × Obj)) : Prop := ∃ bx vs n bs, v = .ref bx ∧ BoxesAt tl bx vs n bs
section
variable {prog : Program} {w : World} {A : Around} {E : Value → Shared → Prop} {s : Shared} {env : Env} {h₀ : Heap} {target : PySem.Expr} {body : List Stmt} {Q : Flow → Shared → Prop}
theorem boxes_loop {base : List (Addr × Obj)} {Cl Bx : Addr} {cvs : List Value} {cs : List Int} {cn : Nat} {m₀ : Str → Option Value} (hC : (Cl, W.listOf cvs.toArray cn) ∈ base) (hci : IntsAre cvs cs) (hc6 : cs.length = 6)
    (hh : A.handled = none) (F : Fr h₀ env.locals s.heap m₀) (N : News h₀ env.locals s.heap ((Bx, W.listOf #[] 0) :: base))
    (turn : ∀ i c t m₁ I oI h tk vs n tl bs X, i < 6 → vs.length = i → X = tl ++ base → Part tl Bx vs bs → Keeps bStored m₀ m₁ → Fr h₀ env.locals h m₁ → News h₀ env.locals h ((I, oI) :: (Bx, W.listOf vs.toArray n) :: X) → Bx ≠ I → (∀ p ∈ X, p.1 ≠ I) →
      wpAny (model prog w) A (assign target env (.int c t)) (fun _ s₃ => wpAny (model prog w) A (execs body env) (BoxEnd h₀ env.locals (JB base Bx m₀ (i + 1)) I oI { s with heap := h, toks := tk } Q) E s₃) E { s with heap := h, toks := tk })
    (done : ∀ vs n tl bs m₁ h tk, vs.length = 6 → Part tl Bx vs bs → Keeps bStored m₀ m₁ → Fr h₀ env.locals h m₁ → News h₀ env.locals h ((Bx, W.listOf vs.toArray n) :: (tl ++ base)) → Q .next { s with heap := h, toks := tk }) :
    wpAny (model prog w) A (pyIter (.ref Cl)) (fun it s₂ => TurnsAt prog w A h₀ env target body Q E it s₂) E s := by
  refine box_loop (vs := cvs) (nn := cn) (JB base Bx m₀) hh F N ?_ ?_ ?_ ?_
  · rintro i m nws ⟨_, vs, n, tl, bs, rfl, _, _⟩
    exact .tail _ (List.mem_append_right _ hC)
  · exact ⟨fun _ _ => rfl, [], 0, [], [], rfl, rfl, .nil⟩
  · rintro i v m₁ nws I oI h tk hv ⟨hk, vs, n, tl, bs, rfl, hl, hp⟩ F₁ N₁ hoff
    have hlt : i < cs.length := by rw [← hci.length]; exact (List.getElem?_eq_some_iff.mp hv).1
    obtain ⟨t, hx⟩ := hci.get i (cs[i]'hlt) (List.getElem?_eq_getElem hlt)
    have hv' : v = .int cs[i] t := by rw [hx] at hv; exact (Option.some.inj hv).symm
    subst hv'
    exact turn i _ t m₁ I oI h tk vs n tl bs _ (by lia) hl rfl hp hk F₁ N₁ (fun e => hoff _ (.head _) e) fun p hp => hoff p (.tail _ hp)
  · rintro m₁ nws h tk ⟨hk, vs, n, tl, bs, rfl, hl, hp⟩ F₁ N₁
    exact done vs n tl bs m₁ h tk (by rw [hl, hci.length, hc6]) hp hk F₁ N₁
theorem boxes_end {base X : List (Addr × Obj)} {Bx I L T : Addr} {oI : Obj} {p1 : Addr × Obj} {m₀ m' : Str → Option Value} {i n : Nat} {vs : List Value} {tl : List (Addr × Obj)} {bs : List Box} {b : Box} {ta tb tc : Tok} {h' : Heap} {tk : Nat}
    (F : Fr h₀ L h' m') (N : News h₀ L h' ((T, ({ cls := .type "tuple", data := .seq #[.int b.1 ta, .int b.2.1 tb, .int b.2.2 tc] } : Obj)) :: p1 :: (I, oI) :: (Bx, W.listOf (vs ++ [Value.ref T]).toArray n) :: X)) (e : X = tl ++ base) (hp : Part tl Bx vs bs) (hl : vs.length = i) (hg : GoodBox b) (hT : Bx < T) (hTI : T ≠ I) (hk : Keeps bStored m₀ m') (h1 : Bx ≠ I) (h2 : ∀ p ∈ X, p.1 ≠ I) :
    BoxEnd h₀ L (JB base Bx m₀ (i + 1)) I oI s Q .next { s with heap := h', toks := tk } := by
  subst e
  refine ⟨h', tk, m', (Bx, W.listOf (vs ++ [Value.ref T]).toArray n) :: (((T, ({ cls := .type "tuple", data := .seq #[.int b.1 ta, .int b.2.1 tb, .int b.2.2 tc] } : Obj)) :: tl) ++ base), rfl, F, fun p hp => N p ?_, fun p hp => ?_, hk, vs ++ [Value.ref T], n, _, bs ++ [b], rfl, by simp [hl], hp.snoc hg hT⟩
  · rcases List.mem_cons.mp hp with rfl | hp
    · exact .tail _ (.tail _ (.head _))
    · rcases List.mem_cons.mp hp with rfl | hp
      · exact .tail _ (.tail _ (.tail _ (.head _)))
      · rcases List.mem_cons.mp hp with rfl | hp
        · exact .head _
        · exact .tail _ (.tail _ (.tail _ (.tail _ hp)))
  · rcases List.mem_cons.mp hp with rfl | hp
    · exact h1
    · rcases List.mem_cons.mp hp with rfl | hp
      · exact hTI
      · exact h2 p hp
theorem append_box {D : Addr} {L : Addr} {m : Str → Option Value} {X : List (Addr × Obj)} {p1 p2 p3 : Addr × Obj} {vs : List Value} {n : Nat} {x : Value} {Q : Value → Shared → Prop} (F : Fr h₀ L s.heap m) (N : News h₀ L s.heap (p1 :: p2 :: p3 :: (D, W.listOf vs.toArray n) :: X)) (n1 : p1.1 ≠ D) (n2 : p2.1 ≠ D) (n3 : p3.1 ≠ D) (n4 : ∀ p ∈ X, p.1 ≠ D) (hz : vs.length < 6)
    (h : ∀ h', Fr h₀ L h' m → News h₀ L h' (p1 :: p2 :: p3 :: (D, W.listOf (vs ++ [x]).toArray (n + 1)) :: X) → Q .none { s with heap := h' }) : wpAny (model prog w) A (call (.builtin "list.append") [.ref D, x]) Q E s := by
  have e : vs.toArray.push x = (vs ++ [x]).toArray := by simp
  refine append_K F N (.tail n1 (.tail n2 (.tail n3 (.head n4)))) (fun h' F' N' => ?_) (by rw [List.size_toArray]; exact Nat.le_trans (Nat.le_of_lt hz) (by decide))
  rw [e] at N'
  exact h h' F' N'
end
theorem part_off {base X tl : List (Addr × Obj)} {Bx : Addr} {vs : List Value} {bs : List Box} (hX : X = tl ++ base) (hp : Part tl Bx vs bs) (hb : ∀ p ∈ base, p.1 < Bx) : ∀ p ∈ X, p.1 ≠ Bx := by
  subst hX
  intro p h
  rcases List.mem_append.mp h with h | h
  · exact Nat.ne_of_gt (hp.gt p h)
  · exact Nat.ne_of_lt (hb p h)
theorem news_dup {h₀ h : Heap} {L : Addr} {p q : Addr × Obj} {X : List (Addr × Obj)} (N : News h₀ L h (p :: X)) (hq : q ∈ X) : News h₀ L h (p :: q :: X) := fun r hr => by
  rcases List.mem_cons.mp hr with rfl | hr
  · exact N _ (.head _)
  · rcases List.mem_cons.mp hr with rfl | hr
    · exact N _ (.tail _ hq)
    · exact N _ (.tail _ hr)
theorem Part.boxes {tl : List (Addr × Obj)} {Bx : Addr} {vs : List Value} {bs : List Box} {n : Nat} (h : Part tl Bx vs bs) : BoxesAt ((Bx, W.listOf vs.toArray n) :: tl) Bx vs n bs :=
  ⟨.head _, h.len, fun i v b hv hb => (h.at_ i v b hv hb).mono fun p hp => .tail _ hp, h.good⟩
theorem boxes_fin {h₀ h : Heap} {L : Addr} {m : Str → Option Value} {base tl : List (Addr × Obj)} {Bx : Addr} {vs : List Value} {bs : List Box} {n : Nat} {s : Shared} {tk : Nat} {Q : Value → Shared → Prop}
    (hret : ∀ (v : Value) (tl : List (Addr × Obj)) (h' : Heap) (tk' : Nat), Fr h₀ L h' m → News h₀ L h' (tl ++ base) → (∀ p ∈ base, ∀ q ∈ tl, p.1 ≠ q.1) → BoxOut v tl → Q v { s with heap := h', toks := tk' })
    (F : Fr h₀ L h m) (hp : Part tl Bx vs bs) (hb : ∀ p ∈ base, p.1 < Bx) (N : ∀ p ∈ (Bx, W.listOf vs.toArray n) :: (tl ++ base), h.get? p.1 = some p.2 ∧ p.1 ≠ L ∧ h₀.get? p.1 = none) : Q (.ref Bx) { s with heap := h, toks := tk } := by
  refine hret (.ref Bx) ((Bx, W.listOf vs.toArray n) :: tl) h tk F N (fun p h1 q h2 => ?_) ⟨Bx, vs, n, bs, rfl, hp.boxes⟩
  rcases List.mem_cons.mp h2 with rfl | h2
  · exact Nat.ne_of_lt (hb p h1)
  · exact Nat.ne_of_lt (Nat.lt_trans (hb p h1) (hp.gt q h2))
section
variable {prog : Program} {w : World} {A : Around} {E : Value → Shared → Prop} {s : Shared} {h₀ : Heap}
theorem extend_box {D e : Addr} {L : Addr} {m : Str → Option Value} {X : List (Addr × Obj)} {p2 p3 p4 p5 : Addr × Obj} {vs : List Value} {v0 v1 v2 v3 : Value} {n k : Nat} {Q : Value → Shared → Prop} (F : Fr h₀ L s.heap m) (N : News h₀ L s.heap ((e, W.listOf #[v0, v1, v2, v3] k) :: p2 :: p3 :: p4 :: p5 :: (D, W.listOf vs.toArray n) :: X))
    (n1 : e ≠ D) (n2 : p2.1 ≠ D) (n3 : p3.1 ≠ D) (n4 : p4.1 ≠ D) (n5 : p5.1 ≠ D) (n6 : ∀ p ∈ X, p.1 ≠ D) (hz : vs.length = 6)
    (h : ∀ h', Fr h₀ L h' m → News h₀ L h' ((e, W.listOf #[v0, v1, v2, v3] k) :: p2 :: p3 :: p4 :: p5 :: (D, W.listOf (vs ++ [v0, v1, v2, v3]).toArray (n + 1)) :: X) → Q .none { s with heap := h' }) : wpAny (model prog w) A (call (.builtin "list.extend") [.ref D, .ref e]) Q E s := by
  have hs : vs.toArray.size = 6 := by simp [hz]
  refine kl_extend F N (.head _) (l := vs ++ [v0, v1, v2, v3]) (by simp) (by simp) (.tail n1 (.tail n2 (.tail n3 (.tail n4 (.tail n5 (.head n6)))))) ?_ ?_ ?_ h
  · rw [hs]
    have : Builtin.List.listTooLong (6 + (#[v0, v1, v2, v3] : Array Value).size) = false := by
      show decide (6 + 4 > sizeLine) = false
      decide
    rw [this]; simp
  · have : vs.toArray.toList = vs := by simp
    rw [this, hz]; decide
  · rw [hs]; show 6 + 4 ≤ sizeLine + 1; decide
end
theorem box_a : GoodBox (0, 1, 2) := ⟨by decide, by decide, by decide, by decide, by decide, by decide, by decide, by decide, by decide⟩
theorem box_b : GoodBox (1, 2, 3) := ⟨by decide, by decide, by decide, by decide, by decide, by decide, by decide, by decide, by decide⟩
theorem box_c' : GoodBox (2, 3, 4) := ⟨by decide, by decide, by decide, by decide, by decide, by decide, by decide, by decide, by decide⟩
end Mine
end
section
open PySem PySem.W PyProof.Rows PySem.Spec PySem.Calls
set_option Elab.async false
set_option maxRecDepth 100000
namespace Mine
section
variable {h₀ h : Heap} {L : Addr} {m : Str → Option Value} {base tl : List (Addr × Obj)} {Bx : Addr} {vs : List Value} {bs : List Box} {n : Nat} {s : Shared} {tk : Nat} {Q : Value → Shared → Prop}
theorem boxes_fin4 {e T1 T2 T3 T4 : Addr} {oe : Obj} {q : Addr × Obj} {a1 b1 c1 a2 b2 c2 a3 b3 c3 a4 b4 c4 : Tok}
    (hret : ∀ (v : Value) (tl : List (Addr × Obj)) (h' : Heap) (tk' : Nat), Fr h₀ L h' m → News h₀ L h' (tl ++ base) → (∀ p ∈ base, ∀ q ∈ tl, p.1 ≠ q.1) → BoxOut v tl → Q v { s with heap := h', toks := tk' })
    (F : Fr h₀ L h m) (hp : Part tl Bx vs bs) (hb : ∀ p ∈ base, p.1 < Bx)
    (N : News h₀ L h ((e, oe) :: (T4, ({ cls := .type "tuple", data := .seq #[.int 0 a4, .int 1 b4, .int 2 c4] } : Obj)) :: (T3, ({ cls := .type "tuple", data := .seq #[.int 2 a3, .int 3 b3, .int 4 c3] } : Obj)) :: (T2, ({ cls := .type "tuple", data := .seq #[.int 1 a2, .int 2 b2, .int 3 c2] } : Obj)) :: (T1, ({ cls := .type "tuple", data := .seq #[.int 0 a1, .int 1 b1, .int 2 c1] } : Obj)) :: (Bx, W.listOf (vs ++ [Value.ref T1, Value.ref T2, Value.ref T3, Value.ref T4]).toArray n) :: q :: (tl ++ base)))
    (h1 : Bx < T1) (h2 : Bx < T2) (h3 : Bx < T3) (h4 : Bx < T4) : Q (.ref Bx) { s with heap := h, toks := tk } := by
  have e4 : vs ++ [Value.ref T1, Value.ref T2, Value.ref T3, Value.ref T4] = (((vs ++ [Value.ref T1]) ++ [Value.ref T2]) ++ [Value.ref T3]) ++ [Value.ref T4] := by simp
  rw [e4] at N
  refine boxes_fin (n := n) hret F ((((hp.snoc (b := (0, 1, 2)) (ta := a1) (tb := b1) (tc := c1) box_a h1).snoc (b := (1, 2, 3)) (ta := a2) (tb := b2) (tc := c2) box_b h2).snoc (b := (2, 3, 4)) (ta := a3) (tb := b3) (tc := c3) box_c' h3).snoc (b := (0, 1, 2)) (ta := a4) (tb := b4) (tc := c4) box_a h4) hb (fun p hp => N p ?_)
  simp only [List.mem_cons, List.cons_append] at hp ⊢
  rcases hp with h | h | h | h | h | h
  · exact .inr (.inr (.inr (.inr (.inr (.inl h)))))
  · exact .inr (.inl h)
  · exact .inr (.inr (.inl h))
  · exact .inr (.inr (.inr (.inl h)))
  · exact .inr (.inr (.inr (.inr (.inl h))))
  · exact .inr (.inr (.inr (.inr (.inr (.inr (.inr h))))))
theorem boxes_fin0 {q : Addr × Obj}
    (hret : ∀ (v : Value) (tl : List (Addr × Obj)) (h' : Heap) (tk' : Nat), Fr h₀ L h' m → News h₀ L h' (tl ++ base) → (∀ p ∈ base, ∀ q ∈ tl, p.1 ≠ q.1) → BoxOut v tl → Q v { s with heap := h', toks := tk' })
    (F : Fr h₀ L h m) (hp : Part tl Bx vs bs) (hb : ∀ p ∈ base, p.1 < Bx)
    (N : News h₀ L h ((Bx, W.listOf vs.toArray n) :: q :: (tl ++ base))) : Q (.ref Bx) { s with heap := h, toks := tk } := by
  refine boxes_fin (n := n) hret F hp hb (fun p hp => N p ?_)
  rcases List.mem_cons.mp hp with rfl | h
  · exact .head _
  · exact .tail _ (.tail _ h)
end
local macro_rules | `(tactic| k_room) => `(tactic| ktr_room)
local macro_rules | `(tactic| walk_at "subscriptTail Name Constant ref int") => `(tactic| (k_here; (with_reducible show wpAny _ _ (subscriptTail _ _ (Value.ref _) (Value.int _ _)) _ _ _); k_extra "Be1"))
local macro_rules | `(tactic| walk_at "call builtin:list.extend") => `(tactic| (k_here; k_extra "Be2"))
local macro_rules | `(tactic| walk_at "exec For Name Name cons nil") => `(tactic| (k_here; k_extra "Be3"))
local macro_rules | `(tactic| walk_at "call builtin:list.pop") => `(tactic| (k_here; (with_reducible show wpAny _ _ (call (Value.builtin _) [Value.ref _, Value.int _ _]) _ _ _); k_extra "Be4"))
local macro_rules | `(tactic| walk_at "call builtin:list.append") => `(tactic| (k_here; k_extra "Be5"))
local macro_rules | `(tactic| walk_at "callWith") => `(tactic| ((try dsimp only); (with_reducible show wpAny _ _ (callWith _ (Value.builtin _) [Value.ref _] (backTo _ (starEach (_ :: _) _)) []) _ _ _); refine callWith_method1 ?_))
local macro_rules | `(tactic| walk_at "execs cons") => `(tactic| (k_here; k_extra "Be6"; intro m9 F9 M9; (try dsimp only)))
local macro_rules | `(tactic| walk_at "execs cons") => `(tactic| (k_here; (with_reducible refine gen_toks0 ?_); intro tk8))
set_option maxHeartbeats 8000000 in
theorem boxes_c (w : World) (mean : ExcName → Option Value) (mg mb : Str → Option Value) (news : List (Addr × Obj)) (Cl : Addr) (c0 c1 c2 c3 c4 c5 : Int) (t0 t1 t2 t3 t4 t5 : Tok) (cn : Nat) :
  Ctr w mean mg mb 133 1 ((Cl, W.listOf #[.int c0 t0, .int c1 t1, .int c2 t2, .int c3 t3, .int c4 t4, .int c5 t5] cn) :: news) [.ref Cl] BoxOut := by
  dsimp only [Ctr]
  (k_with "Be1" => ((with_unfolding_all refine' item_litK ?k1 ?k2 ?k3 ?k4 ?_ ?k6; (case k1 => exact ⟨_, News.get (by k_asm) (by k_mem), rfl, _, rfl⟩); (case k2 => decide); (case k3 => decide); (case k4 => rfl); (case k6 => with_unfolding_all rfl); k_whole)))
  (k_with "Be2" => (k_dflt (refine' extend_box ?F ?N ?a ?b ?c ?d ?e ?f ?z ?_; (case F => k_asm); (case N => k_asm); (case a => k_ne); (case b => k_ne); (case c => k_ne); (case d => k_ne); (case e => k_ne); (case f => assumption); (case z => assumption); intro h' F' N')))
  (k_with "Be3" => (k_dflt (refine' for_box ?k1 ?k2 ?_; (case k1 => k_asm); (case k2 => (intro Q' hq; exact ld (by k_asm) rfl hq)))))
  (k_with "Be4" => (k_dflt (first | (refine' pop1 ?F ?N ?o ?_; (case F => k_asm); (case N => k_asm); (case o => ktn_lt); intro h' t' vs' F' N' hi' hl') | (refine' pop2 ?F ?N ?o ?i ?l ?_; (case F => k_asm); (case N => k_asm); (case o => ktn_lt); (case i => assumption); (case l => assumption); intro h' t' vs' F' N' hi' hl') | (refine' pop3 ?F ?N ?o ?i ?l ?_; (case F => k_asm); (case N => k_asm); (case o => ktn_lt); (case i => assumption); (case l => assumption); intro h' t' vs' F' N'))))
  (k_with "Be5" => (k_dflt (refine' append_box ?F ?N ?a ?b ?c ?d ?z ?_; (case F => k_asm); (case N => k_asm); (case a => k_ne); (case b => k_ne); (case c => k_ne); (case d => assumption); (case z => assumption); intro h' F' N')))
  (k_with "Be6" => ((rename Fr _ _ _ _ => lF); (fail_if_success (have := mk_of lF (by assumption))); (with_reducible refine fold_m lF ?_); clear lF))
  w_top off
  k_fill
  intros; rename_i hret
  refine wpAny_call ?_
  k_dflt cell_enter
  k_steps
  unfold Stop
  rename (_ < _ ∧ AllLt _ news) => hl1
  rename News _ _ _ _ => hN
  rename Fr _ _ _ _ => hF
  try dsimp only
  refine boxes_loop (cvs := [.int c0 t0, .int c1 t1, .int c2 t2, .int c3 t3, .int c4 t4, .int c5 t5]) (.head _) (.cons _ _ (.cons _ _ (.cons _ _ (.cons _ _ (.cons _ _ (.cons _ _ .nil)))))) rfl rfl hF hN ?_ ?_
  · intro i c t m₁ I oI h tk vs n tl bs X hi hvl hX hp hk F₁ N₁ hBI hoff
    rw [keeps_b hk] at F₁
    have hBI' := neN hBI
    have hvs : vs.length < 6 := by omega
    have hXB := part_off hX hp (allLt_mem (l := _ :: _) hl1)
    k_steps
    refine boxes_end (b := (pickA (c.fmod 60), pickB (c.fmod 60) ((c.fmod 60).fdiv 5), pickC (c.fmod 60) ((c.fmod 60).fdiv 5) c)) (by k_asm) (by k_asm) hX hp hvl (pick_good _ _ _) (ltN (by omega)) (neN (by omega)) ?_ hBI hoff
    repeat (first | with_reducible exact keeps_refl _ _ | refine keeps_set ?_ (by decide))
  · intro vs n tl bs m₁ h tk hvl hp hk F₁ N₁
    rw [keeps_b hk] at F₁
    have hb := allLt_mem (l := (Cl, W.listOf #[.int c0 t0, .int c1 t1, .int c2 t2, .int c3 t3, .int c4 t4, .int c5 t5] cn) :: news) hl1
    have hXB := part_off rfl hp hb
    have hXB' : ∀ p ∈ (Cl, W.listOf #[.int c0 t0, .int c1 t1, .int c2 t2, .int c3 t3, .int c4 t4, .int c5 t5] cn) :: (tl ++ (Cl, W.listOf #[.int c0 t0, .int c1 t1, .int c2 t2, .int c3 t3, .int c4 t4, .int c5 t5] cn) :: news), p.1 ≠ _ := fun p hp => (List.mem_cons.mp hp).elim (fun e => hXB p (e ▸ List.mem_append_right _ (.head _))) (hXB p)
    have N₂ := news_dup (q := (Cl, W.listOf #[.int c0 t0, .int c1 t1, .int c2 t2, .int c3 t3, .int c4 t4, .int c5 t5] cn)) N₁ (List.mem_append_right _ (.head _))
    clear N₁ hN hF
    generalize hX : tl ++ (Cl, W.listOf #[.int c0 t0, .int c1 t1, .int c2 t2, .int c3 t3, .int c4 t4, .int c5 t5] cn) :: news = X at *
    k_steps
    · subst hX
      exact boxes_fin4 hret (by k_asm) hp hb (by k_asm) (ltN (by omega)) (ltN (by omega)) (ltN (by omega)) (ltN (by omega))
    · subst hX
      exact boxes_fin0 hret (by k_asm) hp hb (by k_asm)
end Mine
end
section
open PySem PySem.W PyProof.Rows PySem.Spec PySem.Calls
set_option Elab.async false
namespace Mine
/-! a loop over a range by an invariant -/
section
variable {prog : Program} {w : World} {A : Around} {E : Value → Shared → Prop} {s : Shared} {env : Env} {h₀ : Heap} {target : PySem.Expr} {body : List Stmt} {Q : Flow → Shared → Prop}
theorem range_loop {r : Addr} {n : Nat} {b₀ : Int} {t₀ u₀ v₀ : Tok} {m₀ : Str → Option Value} {news : List (Addr × Obj)} (J : Nat → (Str → Option Value) → List (Addr × Obj) → Prop)
    (hh : A.handled = none) (hgo : ∀ it v, letOwnedTupleGo target it v = pure ()) (hr : IsRange s.heap r 0 b₀ 1 t₀ u₀ v₀) (hsmall : Builtin.Range.small 0 b₀ 1 = true) (hn : Builtin.Range.rangeSize 0 b₀ 1 = (n : Int))
    (F : Fr h₀ env.locals s.heap m₀) (N : News h₀ env.locals s.heap news) (h0 : J 0 m₀ news)
    (turn : ∀ (i : Nat) t m₁ nws I oI h tk, i < n → J i m₁ nws → Fr h₀ env.locals h m₁ → News h₀ env.locals h ((I, oI) :: nws) → (∀ p ∈ nws, p.1 ≠ I) →
      wpAny (model prog w) A (assign target env (.int (i : Int) t)) (fun _ s₃ => wpAny (model prog w) A (execs body env) (BoxEnd h₀ env.locals (J (i + 1)) I oI { s with heap := h, toks := tk } Q) E s₃) E { s with heap := h, toks := tk })
    (done : ∀ m₁ nws h tk, J n m₁ nws → Fr h₀ env.locals h m₁ → News h₀ env.locals h nws → Q .next { s with heap := h, toks := tk }) :
    wpAny (model prog w) A (pyIter (.ref r)) (fun it s₂ => TurnsAt prog w A h₀ env target body Q E it s₂) E s := by
  refine wpAny_pyIter_range hr hsmall ?_
  have W : Walks prog w A s.heap.objs.size [s.heap.objs.size] [s.heap.objs.size] n (fun i v => i < n ∧ ∃ t, v = .int (0 + i * 1) t)
      (fun i h => IsRangeIter h s.heap.objs.size (0 + (i : Nat) * 1) ((n : Int) - (i : Nat)) 1) := (Walks.range hh _ 0 1 n).bound
  have W' : KTurns prog w A target s.heap.objs.size [s.heap.objs.size] [s.heap.objs.size] n _ _ _ := KTurns.ofWalks W fun i v s Q E st q => by
    rw [hgo]; exact wpAny_pure q
  have hI0 : h₀.get? s.heap.objs.size = none := next_is_new F
  refine ⟨s.heap.objs.size, _, _, n, _, _, _, m₀, news, J, rfl, W', ?_, ?_, ?_, (by show IsRangeIter _ _ _ _ _; rw [hn]; simpa using Heap.get?_push_size _ rfl), F.push _, (fun p hp => ⟨Heap.get?_push_of_some _ (N p hp).1, (N p hp).2⟩), h0, ?_, ?_⟩
  · intro hI
    exact absurd F.ns.lt ((List.mem_singleton.mp hI) ▸ Nat.lt_irrefl _)
  · intro b hb
    rw [List.mem_singleton.mp hb]
    exact hI0
  · intro p hp hI
    exact absurd (Heap.lt_size (N p hp).1) ((List.mem_singleton.mp hI) ▸ Nat.lt_irrefl _)
  · rintro i v m₁ news₁ h₁ tk₁ own hin ⟨_, t, rfl⟩ hJ hoff hown hget hfp hst F₁ N₁
    have ez : (0 : Int) + (i : Int) * 1 = (i : Int) := by lia
    rw [ez]
    have hst' : h₁.get? s.heap.objs.size ≠ none := by
      have := hst
      unfold IsRangeIter at this
      rw [this]
      exact fun h => nomatch h
    obtain ⟨oI, hoI⟩ := Option.ne_none_iff_exists'.mp hst'
    have hIown : (s.heap.objs.size, oI) ∈ own := hfp _ (List.mem_singleton.mpr rfl) hI0 _ hoI
    have N₂ : News h₀ env.locals h₁ ((s.heap.objs.size, oI) :: news₁) := fun p hp => by
      rcases List.mem_cons.mp hp with rfl | hp
      · exact N₁ _ (List.mem_append.mpr (.inl hIown))
      · exact N₁ _ (List.mem_append.mpr (.inr hp))
    have off : ∀ p ∈ news₁, p.1 ≠ s.heap.objs.size := fun p hp e => hoff p hp (List.mem_singleton.mpr e)
    refine wpAny_mono (turn i t m₁ news₁ s.heap.objs.size oI h₁ tk₁ hin hJ F₁ N₂ off) (fun _ s₃ k => wpAny_mono k (fun f s₂ p => ?_) fun _ _ e => e) fun _ _ e => e
    have fin : (∃ h' tk m' nws, s₂ = { s with heap := h', toks := tk } ∧ Fr h₀ env.locals h' m' ∧ News h₀ env.locals h' ((s.heap.objs.size, oI) :: nws) ∧ (∀ p ∈ nws, p.1 ≠ s.heap.objs.size) ∧ J (i + 1) m' nws) →
        LoopStepU h₀ env.locals [s.heap.objs.size] own (J (i + 1)) { s with heap := h₁, toks := tk₁ } .next s₂ := by
      rintro ⟨h', tk, m', nws, rfl, F', N', off', hJ'⟩
      refine ⟨rfl, h', tk, m', nws, rfl, F', fun p hp => ?_, fun p hp hq => off' p hp (List.mem_singleton.mp hq), hJ'⟩
      rcases List.mem_append.mp hp with h | h
      · have hg : h₁.get? p.1 = some p.2 := hget p h
        have e := List.mem_singleton.mp (hown p h)
        rw [e, hoI] at hg
        have : p = (s.heap.objs.size, oI) := Prod.ext e (Option.some.inj hg).symm
        rw [this]
        exact N' _ (.head _)
      · exact N' p (.tail _ h)
    cases f with
    | ret v => exact .ret p
    | brk => exact .brk p
    | next => exact .next (fin p)
    | cont => exact .cont (fin p)
  · intro h' tk m' news' F' N' _ hJ
    exact done m' news' h' tk hJ F' N'
end
end Mine
end
section
open PySem PySem.W PyProof.Rows
set_option Elab.async false
namespace Mine
/-! plain law: bits -/
def bt (p : Nat) (x : Int) : Bool := x.toNat.testBit p
theorem and_nn {x y : Int} (hx : 0 ≤ x) (hy : 0 ≤ y) : Builtin.bitAnd x y = ((x.toNat &&& y.toNat : Nat) : Int) := by
  unfold Builtin.bitAnd; rw [decide_eq_true hx, decide_eq_true hy]
theorem or_nn {x y : Int} (hx : 0 ≤ x) (hy : 0 ≤ y) : Builtin.bitOr x y = ((x.toNat ||| y.toNat : Nat) : Int) := by
  have h1 : ¬ (0 ≤ Builtin.bitNot x) := by unfold Builtin.bitNot; lia
  have h2 : ¬ (0 ≤ Builtin.bitNot y) := by unfold Builtin.bitNot; lia
  have e : ∀ z : Int, Builtin.bitNot (Builtin.bitNot z) = z := fun z => by unfold Builtin.bitNot; lia
  unfold Builtin.bitOr Builtin.bitAnd
  rw [decide_eq_false h1, decide_eq_false h2]
  simp only [e]
theorem andnot_nn {x y : Int} (hx : 0 ≤ x) (hy : 0 ≤ y) : Builtin.bitAnd x (Builtin.bitNot y) = ((x.toNat - (x.toNat &&& y.toNat) : Nat) : Int) := by
  have h2 : ¬ (0 ≤ Builtin.bitNot y) := by unfold Builtin.bitNot; lia
  have e : ∀ z : Int, Builtin.bitNot (Builtin.bitNot z) = z := fun z => by unfold Builtin.bitNot; lia
  unfold Builtin.bitAnd
  rw [decide_eq_true hx, decide_eq_false h2]
  simp only [e]
  have : x.toNat &&& y.toNat ≤ x.toNat := Nat.and_le_left
  lia
theorem low_nn {x : Int} (hx : 0 < x) : Builtin.bitAnd x (-x) = ((x.toNat - (x.toNat &&& (x.toNat - 1)) : Nat) : Int) := by
  have h2 : ¬ (0 ≤ -x) := by grind
  have e : (Builtin.bitNot (-x)).toNat = x.toNat - 1 := by unfold Builtin.bitNot; grind
  unfold Builtin.bitAnd
  rw [decide_eq_true (Int.le_of_lt hx), decide_eq_false h2]
  simp only [e]
  have : x.toNat &&& (x.toNat - 1) ≤ x.toNat := Nat.and_le_left
  grind
theorem and_half (a b : Nat) : (a &&& b) / 2 = (a / 2) &&& (b / 2) := Nat.and_div_two
theorem and_par (a b : Nat) : (a &&& b) % 2 = (a % 2) * (b % 2) := by
  have h := Nat.testBit_and a b 0
  simp only [Nat.testBit_zero] at h
  have ha := Nat.mod_two_eq_zero_or_one a
  have hb := Nat.mod_two_eq_zero_or_one b
  have hc := Nat.mod_two_eq_zero_or_one (a &&& b)
  rcases ha with ha | ha <;> rcases hb with hb | hb <;> rcases hc with hc | hc <;> simp [ha, hb, hc] at h ⊢
theorem bit_sub (p : Nat) : ∀ x y : Nat, (x - (x &&& y)).testBit p = (x.testBit p && !y.testBit p) := by
  induction p with
  | zero =>
    intro x y
    have h1 := and_par x y
    have h2 : x &&& y ≤ x := Nat.and_le_left
    simp only [Nat.testBit_zero]
    rcases Nat.mod_two_eq_zero_or_one x with hx | hx <;> rcases Nat.mod_two_eq_zero_or_one y with hy | hy <;> rw [hx, hy] at h1 <;> simp [hy] <;> omega
  | succ p ih =>
    intro x y
    rw [Nat.testBit_succ, Nat.testBit_succ, Nat.testBit_succ, ← ih]
    congr 1
    have h1 := and_par x y
    have h2 : x &&& y ≤ x := Nat.and_le_left
    have h3 := and_half x y
    rw [← h3]
    rcases Nat.mod_two_eq_zero_or_one x with hx | hx <;> rcases Nat.mod_two_eq_zero_or_one y with hy | hy <;> rw [hx, hy] at h1 <;> omega
theorem low_pow : ∀ n : Nat, 0 < n → ∃ k, n - (n &&& (n - 1)) = 2 ^ k ∧ n.testBit k = true := by
  intro n
  induction n using Nat.strongRecOn with
  | _ n ih =>
    intro hn
    have h2 : n &&& (n - 1) ≤ n := Nat.and_le_left
    have h3 := and_half n (n - 1)
    have h1 := and_par n (n - 1)
    rcases Nat.mod_two_eq_zero_or_one n with hx | hx
    · obtain ⟨k, e, b⟩ := ih (n / 2) (by grind) (by grind)
      refine ⟨k + 1, ?_, by rw [Nat.testBit_succ]; exact b⟩
      have h4 : (n - 1) / 2 = n / 2 - 1 := by grind
      have h5 : n / 2 &&& (n / 2 - 1) ≤ n / 2 := Nat.and_le_left
      rw [h4] at h3
      rw [hx, Nat.zero_mul] at h1
      rw [Nat.pow_succ]
      grind
    · refine ⟨0, ?_, by simp [hx]⟩
      have h4 : (n - 1) / 2 = n / 2 := by grind
      rw [h4, Nat.and_self] at h3
      have h5 : (n - 1) % 2 = 0 := by grind
      rw [h5, Nat.mul_zero] at h1
      rw [Nat.pow_zero]; grind
/-- a word: from 0 to 2^32 - 1 -/
def Wd32 (x : Int) : Prop := 0 ≤ x ∧ x.toNat < 2 ^ 32
theorem wd_and {x y : Int} (hx : Wd32 x) (hy : Wd32 y) : Wd32 (Builtin.bitAnd x y) ∧ ∀ p, bt p (Builtin.bitAnd x y) = (bt p x && bt p y) := by
  rw [and_nn hx.1 hy.1]
  refine ⟨⟨Int.natCast_nonneg _, ?_⟩, fun p => ?_⟩
  · rw [Int.toNat_natCast]; exact Nat.and_lt_two_pow _ hy.2
  · unfold bt; rw [Int.toNat_natCast, Nat.testBit_and]
theorem wd_or {x y : Int} (hx : Wd32 x) (hy : Wd32 y) : Wd32 (Builtin.bitOr x y) ∧ ∀ p, bt p (Builtin.bitOr x y) = (bt p x || bt p y) := by
  rw [or_nn hx.1 hy.1]
  refine ⟨⟨Int.natCast_nonneg _, ?_⟩, fun p => ?_⟩
  · rw [Int.toNat_natCast]; exact Nat.or_lt_two_pow hx.2 hy.2
  · unfold bt; rw [Int.toNat_natCast, Nat.testBit_or]
theorem wd_andnot {x y : Int} (hx : Wd32 x) (hy : Wd32 y) : Wd32 (Builtin.bitAnd x (Builtin.bitNot y)) ∧ ∀ p, bt p (Builtin.bitAnd x (Builtin.bitNot y)) = (bt p x && !bt p y) := by
  rw [andnot_nn hx.1 hy.1]
  refine ⟨⟨Int.natCast_nonneg _, ?_⟩, fun p => ?_⟩
  · rw [Int.toNat_natCast]; exact Nat.lt_of_le_of_lt (Nat.sub_le _ _) hx.2
  · unfold bt; rw [Int.toNat_natCast, bit_sub]
theorem wd_zero {x : Int} (hx : Wd32 x) (h : ∀ p, bt p x = false) : x = 0 := by
  have : x.toNat = 0 := Nat.eq_of_testBit_eq fun p => by rw [Nat.zero_testBit]; exact h p
  have := hx.1
  lia
theorem wd_low {x : Int} (hx : Wd32 x) (h : x ≠ 0) : ∃ k : Nat, k < 32 ∧ Builtin.bitAnd x (-x) = 2 ^ k ∧ bt k x = true := by
  have h0 := hx.1
  rw [low_nn (by lia)]
  obtain ⟨k, e, b⟩ := low_pow x.toNat (by lia)
  refine ⟨k, ?_, ?_, b⟩
  · refine Decidable.byContradiction fun hk => ?_
    have := Nat.ge_two_pow_of_testBit b
    have h2 : 2 ^ 32 ≤ 2 ^ k := Nat.pow_le_pow_right (by decide) (by lia)
    have := hx.2
    lia
  · rw [e]; simp

/-! the boxes on bits -/
def stepB (ws : List Bool) (b : Box) : List Bool :=
  let x := ws.getD b.1.toNat false; let y := ws.getD b.2.1.toNat false; let z := ws.getD b.2.2.toNat false
  ((ws.set b.1.toNat (x && y && z)).set b.2.1.toNat ((x && y) || ((x || y) && z))).set b.2.2.toNat (x || y || z)
theorem getD_map_in {f : Int → Bool} {ws : List Int} {k : Nat} (h : k < ws.length) : (ws.map f).getD k false = f (ws.getD k 0) := by
  simp [List.getD_eq_getElem?_getD, List.getElem?_eq_getElem h]
theorem stepB_map {f : Int → Bool} {ws : List Int} {b : Box} {u v t : Int} (hl : ws.length = 5) (hb : GoodBox b)
    (hu : f u = (f (ws.getD b.1.toNat 0) && f (ws.getD b.2.1.toNat 0) && f (ws.getD b.2.2.toNat 0)))
    (hv : f v = ((f (ws.getD b.1.toNat 0) && f (ws.getD b.2.1.toNat 0)) || ((f (ws.getD b.1.toNat 0) || f (ws.getD b.2.1.toNat 0)) && f (ws.getD b.2.2.toNat 0))))
    (ht : f t = (f (ws.getD b.1.toNat 0) || f (ws.getD b.2.1.toNat 0) || f (ws.getD b.2.2.toNat 0))) :
    (((ws.set b.1.toNat u).set b.2.1.toNat v).set b.2.2.toNat t).map f = stepB (ws.map f) b := by
  have h1 : b.1.toNat < ws.length := by have := hb.a0; have := hb.a1; lia
  have h2 : b.2.1.toNat < ws.length := by have := hb.b0; have := hb.b1; lia
  have h3 : b.2.2.toNat < ws.length := by have := hb.c0; have := hb.c1; lia
  unfold stepB
  simp only [List.map_set, getD_map_in h1, getD_map_in h2, getD_map_in h3, hu, hv, ht]
structure Words (ws : List Int) : Prop where
  len : ws.length = 5
  wd : ∀ x ∈ ws, Wd32 x
theorem Words.get {ws : List Int} (f : Words ws) {k : Int} (h0 : 0 ≤ k) (h1 : k < 5) : Wd32 (ws.getD k.toNat 0) := f.wd _ (getD_mem (by rw [f.len]; lia))
theorem Words.step {ws : List Int} (f : Words ws) {b : Box} (g : GoodBox b) : Words (stepW ws b) ∧ ∀ p, (stepW ws b).map (bt p) = stepB (ws.map (bt p)) b := by
  have hx := f.get g.a0 g.a1
  have hy := f.get g.b0 g.b1
  have hz := f.get g.c0 g.c1
  have xy := wd_and hx hy
  have oxy := wd_or hx hy
  have u := wd_and xy.1 hz
  have v1 := wd_and oxy.1 hz
  have v := wd_or xy.1 v1.1
  have t := wd_or oxy.1 hz
  refine ⟨⟨by rw [stepW_len, f.len], fun x hx => ?_⟩, fun p => ?_⟩
  · unfold stepW at hx
    rcases mem_set_or hx with rfl | hx
    · exact t.1
    rcases mem_set_or hx with rfl | hx
    · exact v.1
    rcases mem_set_or hx with rfl | hx
    · exact u.1
    exact f.wd x hx
  · unfold stepW
    exact stepB_map f.len g (by rw [u.2, xy.2]) (by rw [v.2, v1.2, xy.2, oxy.2]) (by rw [t.2, oxy.2])
theorem Words.fold {ws : List Int} (f : Words ws) : ∀ {bs : List Box}, (∀ b ∈ bs, GoodBox b) → Words (bs.foldl stepW ws) ∧ ∀ p, (bs.foldl stepW ws).map (bt p) = bs.foldl stepB (ws.map (bt p))
  | [], _ => ⟨f, fun _ => rfl⟩
  | b :: r, h => by
    have s := f.step (h b (.head _))
    have i := Words.fold s.1 (bs := r) fun c hc => h c (.tail _ hc)
    exact ⟨i.1, fun p => by rw [List.foldl_cons, i.2, List.foldl_cons, s.2]⟩
theorem words0_ok : Words words0 := ⟨rfl, by
  intro x hx
  unfold words0 at hx
  simp only [List.mem_cons, List.not_mem_nil, or_false] at hx
  rcases hx with rfl | rfl | rfl | rfl | rfl <;> exact ⟨by decide, by decide⟩⟩
def ge3 (t : Int) (x : Int) : Bool := decide (t ≤ x)
theorem ge3_mono {t a b : Int} (h : a ≤ b) : (!ge3 t a || ge3 t b) = true := by
  unfold ge3
  by_cases q : t ≤ a
  · rw [decide_eq_true q, decide_eq_true (Int.le_trans q h)]; rfl
  · rw [decide_eq_false q]; rfl
theorem three_bool : ∀ X Y Z : Bool, (!X || Y) = true → (!Y || Z) = true → (X = (X && Y && Z) ∧ Y = ((X && Y) || ((X || Y) && Z)) ∧ Z = (X || Y || Z)) := by decide
theorem sym_bool : ∀ X Y Z : Bool, ((X && Z && Y) = (X && Y && Z) ∧ ((X && Z) || ((X || Z) && Y)) = ((X && Y) || ((X || Y) && Z)) ∧ (X || Z || Y) = (X || Y || Z)) ∧ ((Y && X && Z) = (X && Y && Z) ∧ ((Y && X) || ((Y || X) && Z)) = ((X && Y) || ((X || Y) && Z)) ∧ (Y || X || Z) = (X || Y || Z)) := by decide
def Sym3 (X Y Z a b c : Bool) : Prop := (a && b && c) = (X && Y && Z) ∧ ((a && b) || ((a || b) && c)) = ((X && Y) || ((X || Y) && Z)) ∧ (a || b || c) = (X || Y || Z)
theorem sym3 {x y z a b c t : Int} (o : Ord3 x y z a b c) : Sym3 (ge3 t x) (ge3 t y) (ge3 t z) (ge3 t a) (ge3 t b) (ge3 t c) := by
  rcases o with ⟨rfl, rfl, rfl⟩ | ⟨rfl, rfl, rfl⟩ | ⟨rfl, rfl, rfl⟩ | ⟨rfl, rfl, rfl⟩ | ⟨rfl, rfl, rfl⟩ | ⟨rfl, rfl, rfl⟩
  · exact ⟨rfl, rfl, rfl⟩
  · exact (sym_bool _ _ _).1
  · exact (sym_bool _ _ _).2
  · obtain ⟨p, q, r⟩ := (sym_bool (ge3 t a) (ge3 t c) (ge3 t b)).1; obtain ⟨p', q', r'⟩ := (sym_bool (ge3 t c) (ge3 t a) (ge3 t b)).2; exact ⟨p.trans p', q.trans q', r.trans r'⟩
  · obtain ⟨p, q, r⟩ := (sym_bool (ge3 t b) (ge3 t a) (ge3 t c)).2; obtain ⟨p', q', r'⟩ := (sym_bool (ge3 t b) (ge3 t c) (ge3 t a)).1; exact ⟨p.trans p', q.trans q', r.trans r'⟩
  · obtain ⟨p, q, r⟩ := (sym_bool (ge3 t b) (ge3 t a) (ge3 t c)).2; obtain ⟨p', q', r'⟩ := (sym_bool (ge3 t b) (ge3 t c) (ge3 t a)).1; obtain ⟨p2, q2, r2⟩ := (sym_bool (ge3 t c) (ge3 t b) (ge3 t a)).2; exact ⟨p.trans (p'.trans p2), q.trans (q'.trans q2), r.trans (r'.trans r2)⟩
theorem three_ge (x y z t : Int) : ge3 t (lo3 x y z) = (ge3 t x && ge3 t y && ge3 t z) ∧ ge3 t (mid3 x y z) = ((ge3 t x && ge3 t y) || ((ge3 t x || ge3 t y) && ge3 t z)) ∧ ge3 t (hi3 x y z) = (ge3 t x || ge3 t y || ge3 t z) := by
  obtain ⟨h1, h2, o⟩ := three_cases x y z
  obtain ⟨p, q, r⟩ := three_bool _ _ _ (ge3_mono (t := t) h1) (ge3_mono (t := t) h2)
  obtain ⟨p', q', r'⟩ := sym3 (t := t) o
  exact ⟨p.trans p', q.trans q', r.trans r'⟩
theorem stepR_ge {ws : List Int} {b : Box} (hl : ws.length = 5) (g : GoodBox b) (t : Int) : (stepR ws b).map (ge3 t) = stepB (ws.map (ge3 t)) b :=
  stepB_map hl g (three_ge _ _ _ t).1 (three_ge _ _ _ t).2.1 (three_ge _ _ _ t).2.2
theorem foldR_len (bs : List Box) (ws : List Int) : (bs.foldl stepR ws).length = ws.length := by
  induction bs generalizing ws with
  | nil => rfl
  | cons b r ih => rw [List.foldl_cons, ih]; unfold stepR; simp
theorem foldR_ge (t : Int) : ∀ {bs : List Box} {ws : List Int}, ws.length = 5 → (∀ b ∈ bs, GoodBox b) → (bs.foldl stepR ws).map (ge3 t) = bs.foldl stepB (ws.map (ge3 t))
  | [], _, _, _ => rfl
  | b :: r, ws, hl, h => by
    rw [List.foldl_cons, foldR_ge t (bs := r) (by unfold stepR; simp [hl]) fun c hc => h c (.tail _ hc), List.foldl_cons, stepR_ge hl (h b (.head _))]
theorem words0_bits : ∀ p : Fin 32, words0.map (bt p.1) = [p.1.testBit 0, p.1.testBit 1, p.1.testBit 2, p.1.testBit 3, p.1.testBit 4] := by decide +kernel
/-- the zero-one law: where the row's blacks and whites at the level t are the figures of p -/
theorem zero_one {bs : List Box} {row : List Int} (hg : ∀ b ∈ bs, GoodBox b) (hl : row.length = 5) {t : Int} {p : Nat} (hp : p < 32)
    (h : row.map (ge3 t) = [p.testBit 0, p.testBit 1, p.testBit 2, p.testBit 3, p.testBit 4]) : (bs.foldl stepW words0).map (bt p) = (bs.foldl stepR row).map (ge3 t) := by
  rw [(words0_ok.fold hg).2, foldR_ge t hl hg, h, words0_bits ⟨p, hp⟩]
def b2n (b : Bool) : Nat := if b then 1 else 0
def placeN (l : List Bool) : Nat := b2n (l.getD 0 false) + 2 * b2n (l.getD 1 false) + 4 * b2n (l.getD 2 false) + 8 * b2n (l.getD 3 false) + 16 * b2n (l.getD 4 false)
theorem placeN_ok : ∀ a b c d e : Bool, placeN [a, b, c, d, e] < 32 ∧ [a, b, c, d, e] = [(placeN [a, b, c, d, e]).testBit 0, (placeN [a, b, c, d, e]).testBit 1, (placeN [a, b, c, d, e]).testBit 2, (placeN [a, b, c, d, e]).testBit 3, (placeN [a, b, c, d, e]).testBit 4] := by decide
theorem place_lt (l : List Bool) : placeN l < 32 := placeN_ok _ _ _ _ _ |>.1
theorem list5 {α : Type} {l : List α} (h : l.length = 5) : ∃ a b c d e, l = [a, b, c, d, e] := by
  match l, h with
  | [a, b, c, d, e], _ => exact ⟨a, b, c, d, e, rfl⟩
theorem place_bits {l : List Bool} (h : l.length = 5) : l = [(placeN l).testBit 0, (placeN l).testBit 1, (placeN l).testBit 2, (placeN l).testBit 3, (placeN l).testBit 4] := by
  obtain ⟨a, b, c, d, e, rfl⟩ := list5 h
  exact (placeN_ok a b c d e).2
theorem zero_one_place {bs : List Box} {row : List Int} (hg : ∀ b ∈ bs, GoodBox b) (hl : row.length = 5) (t : Int) :
    (bs.foldl stepW words0).map (bt (placeN (row.map (ge3 t)))) = (bs.foldl stepR row).map (ge3 t) :=
  zero_one hg hl (place_lt _) (place_bits (by simp [hl]))
end Mine
end
section
open PySem PySem.W PyProof.Rows
set_option Elab.async false
namespace Mine
theorem eqv (x v : Int) : (x == v) = decide (x = v) := by
  by_cases h : x = v <;> simp [h]
theorem count_set' {l : List Int} {i : Nat} {a v : Int} (h : i < l.length) : (l.set i a).count v + (if l.getD i 0 = v then 1 else 0) = l.count v + (if a = v then 1 else 0) := by
  rw [List.count_set h, List.getD_eq_getElem?_getD, List.getElem?_eq_getElem h]
  have hc : l[i] = v → 1 ≤ l.count v := fun e => List.count_pos_iff.mpr (e ▸ List.getElem_mem h)
  simp only [eqv, Option.getD_some, decide_eq_true_eq]
  by_cases h1 : l[i] = v
  · have := hc h1
    simp only [h1, if_true]; grind
  · simp only [h1, if_false]; grind
theorem getD_set_ne {l : List Int} {i j : Nat} {a : Int} (h : i ≠ j) : (l.set i a).getD j 0 = l.getD j 0 := by
  simp [List.getD_eq_getElem?_getD, List.getElem?_set_ne h]
theorem stepR_perm {ws : List Int} {b : Box} (hl : ws.length = 5) (g : GoodBox b) : (stepR ws b).Perm ws := by
  rw [List.perm_iff_count]
  intro v
  have h1 : b.1.toNat < ws.length := by have := g.a0; have := g.a1; grind
  have h2 : b.2.1.toNat < ws.length := by have := g.b0; have := g.b1; grind
  have h3 : b.2.2.toNat < ws.length := by have := g.c0; have := g.c1; grind
  have n1 : b.1.toNat ≠ b.2.1.toNat := by have := g.a0; have := g.b0; have := g.ab; grind
  have n2 : b.1.toNat ≠ b.2.2.toNat := by have := g.a0; have := g.c0; have := g.ac; grind
  have n3 : b.2.1.toNat ≠ b.2.2.toNat := by have := g.b0; have := g.c0; have := g.bc; grind
  unfold stepR
  generalize hx : ws.getD b.1.toNat 0 = x
  generalize hy : ws.getD b.2.1.toNat 0 = y
  generalize hz : ws.getD b.2.2.toNat 0 = z
  have c1 := count_set' (a := lo3 x y z) (v := v) h1
  have c2 := count_set' (l := ws.set b.1.toNat (lo3 x y z)) (a := mid3 x y z) (v := v) (i := b.2.1.toNat) (by simpa using h2)
  have c3 := count_set' (l := (ws.set b.1.toNat (lo3 x y z)).set b.2.1.toNat (mid3 x y z)) (a := hi3 x y z) (v := v) (i := b.2.2.toNat) (by simpa using h3)
  rw [getD_set_ne n1, hy] at c2
  rw [getD_set_ne n3, getD_set_ne n2, hz] at c3
  rw [hx] at c1
  have := count3 x y z v
  grind
theorem foldR_perm : ∀ {bs : List Box} {ws : List Int}, ws.length = 5 → (∀ b ∈ bs, GoodBox b) → (bs.foldl stepR ws).Perm ws
  | [], _, _, _ => .refl _
  | b :: r, ws, hl, h => (foldR_perm (bs := r) (by unfold stepR; simp [hl]) fun c hc => h c (.tail _ hc)).trans (stepR_perm hl (h b (.head _)))
/-- one wire -/
theorem wire_at {bs : List Box} {row : List Int} (hg : ∀ b ∈ bs, GoodBox b) (hl : row.length = 5) {t : Int} {p : Nat} (h : (bs.foldl stepW words0).map (bt p) = (bs.foldl stepR row).map (ge3 t)) (i : Nat) (hi : i < 5) :
    bt p ((bs.foldl stepW words0).getD i 0) = ge3 t ((bs.foldl stepR row).getD i 0) := by
  have l1 : (bs.foldl stepW words0).length = 5 := by rw [foldW_len]; rfl
  have l2 : (bs.foldl stepR row).length = 5 := by rw [foldR_len]; exact hl
  have e1 := getD_map_in (f := bt p) (ws := bs.foldl stepW words0) (k := i) (by lia)
  have e2 := getD_map_in (f := ge3 t) (ws := bs.foldl stepR row) (k := i) (by lia)
  rw [← e1, ← e2, h]
/-- no bad place: the row is left in order -/
theorem left_sorted {bs : List Box} {row : List Int} (hg : ∀ b ∈ bs, GoodBox b) (hl : row.length = 5)
    (hb : ∀ p, ∀ i, i < 4 → bt p ((bs.foldl stepW words0).getD i 0) = true → bt p ((bs.foldl stepW words0).getD (i + 1) 0) = true) : (bs.foldl stepR row).Pairwise (fun a b => a ≤ b) := by
  have h : ∀ i, i < 4 → (bs.foldl stepR row).getD i 0 ≤ (bs.foldl stepR row).getD (i + 1) 0 := by
    intro i hi
    have z := zero_one_place hg hl ((bs.foldl stepR row).getD i 0)
    have a := wire_at hg hl z i (by grind)
    have b := wire_at hg hl z (i + 1) (by grind)
    have c := hb _ i hi (by rw [a]; unfold ge3; simp)
    rw [b] at c
    unfold ge3 at c
    exact of_decide_eq_true c
  have l2 : (bs.foldl stepR row).length = 5 := by rw [foldR_len]; exact hl
  obtain ⟨a, b, c, d, e, he⟩ := list5 l2
  rw [he] at h ⊢
  have h0 := h 0 (by grind)
  have h1 := h 1 (by grind)
  have h2 := h 2 (by grind)
  have h3 := h 3 (by grind)
  simp at h0 h1 h2 h3
  simp; grind
def badW (ws : List Int) : Int :=
  Builtin.bitOr (Builtin.bitOr (Builtin.bitOr (Builtin.bitOr 0 (Builtin.bitAnd (ws.getD 0 0) (Builtin.bitNot (ws.getD 1 0)))) (Builtin.bitAnd (ws.getD 1 0) (Builtin.bitNot (ws.getD 2 0)))) (Builtin.bitAnd (ws.getD 2 0) (Builtin.bitNot (ws.getD 3 0)))) (Builtin.bitAnd (ws.getD 3 0) (Builtin.bitNot (ws.getD 4 0)))
theorem wd_0 : Wd32 0 := ⟨by decide, by decide⟩
theorem bad_ok {ws : List Int} (h : Words ws) : Wd32 (badW ws) ∧ ∀ p, bt p (badW ws) = ((bt p (ws.getD 0 0) && !bt p (ws.getD 1 0)) || (bt p (ws.getD 1 0) && !bt p (ws.getD 2 0)) || (bt p (ws.getD 2 0) && !bt p (ws.getD 3 0)) || (bt p (ws.getD 3 0) && !bt p (ws.getD 4 0))) := by
  have g : ∀ k : Nat, k < 5 → Wd32 (ws.getD k 0) := fun k hk => h.wd _ (getD_mem (by rw [h.len]; exact hk))
  have a0 := wd_andnot (g 0 (by grind)) (g 1 (by grind))
  have a1 := wd_andnot (g 1 (by grind)) (g 2 (by grind))
  have a2 := wd_andnot (g 2 (by grind)) (g 3 (by grind))
  have a3 := wd_andnot (g 3 (by grind)) (g 4 (by grind))
  have o0 := wd_or wd_0 a0.1
  have o1 := wd_or o0.1 a1.1
  have o2 := wd_or o1.1 a2.1
  have o3 := wd_or o2.1 a3.1
  refine ⟨o3.1, fun p => ?_⟩
  unfold badW
  rw [o3.2, o2.2, o1.2, o0.2, a0.2, a1.2, a2.2, a3.2]
  have : bt p 0 = false := by unfold bt; simp
  rw [this, Bool.false_or]
theorem good_end {bs : List Box} {row : List Int} (hg : ∀ b ∈ bs, GoodBox b) (hl : row.length = 5) (h0 : badW (bs.foldl stepW words0) = 0) : (bs.foldl stepR row).Pairwise (fun a b => a ≤ b) := by
  have hw := (words0_ok.fold hg).1
  refine left_sorted hg hl fun p i hi hp => ?_
  have e := (bad_ok hw).2 p
  rw [h0] at e
  have z : bt p 0 = false := by unfold bt; simp
  rw [z] at e
  have e := e.symm
  simp only [Bool.or_eq_false_iff, Bool.and_eq_false_iff, Bool.not_eq_false'] at e
  obtain ⟨⟨⟨e0, e1⟩, e2⟩, e3⟩ := e
  match i, hi with
  | 0, _ => rcases e0 with e | e
            · rw [e] at hp; cases hp
            · exact e
  | 1, _ => rcases e1 with e | e
            · rw [e] at hp; cases hp
            · exact e
  | 2, _ => rcases e2 with e | e
            · rw [e] at hp; cases hp
            · exact e
  | 3, _ => rcases e3 with e | e
            · rw [e] at hp; cases hp
            · exact e
/-- the row of black and white at the place k -/
def spotRow (k : Nat) : List Int := [4096 * b2n (k.testBit 0), 4096 * b2n (k.testBit 1), 4096 * b2n (k.testBit 2), 4096 * b2n (k.testBit 3), 4096 * b2n (k.testBit 4)]
theorem b2n_cases (b : Bool) : (b2n b : Int) = 0 ∨ (b2n b : Int) = 1 := by cases b <;> simp [b2n]
theorem spotRow_five (k : Nat) : Five (spotRow k) := ⟨rfl, fun x hx => by
  unfold spotRow at hx
  simp only [List.mem_cons, List.not_mem_nil, or_false] at hx
  rcases hx with rfl | rfl | rfl | rfl | rfl
  · have := b2n_cases (k.testBit 0); lia
  · have := b2n_cases (k.testBit 1); lia
  · have := b2n_cases (k.testBit 2); lia
  · have := b2n_cases (k.testBit 3); lia
  · have := b2n_cases (k.testBit 4); lia⟩
theorem spotRow_bw (k : Nat) : ∀ x ∈ spotRow k, x = 0 ∨ x = 4096 := fun x hx => by
  unfold spotRow at hx
  simp only [List.mem_cons, List.not_mem_nil, or_false] at hx
  rcases hx with rfl | rfl | rfl | rfl | rfl
  · have := b2n_cases (k.testBit 0); lia
  · have := b2n_cases (k.testBit 1); lia
  · have := b2n_cases (k.testBit 2); lia
  · have := b2n_cases (k.testBit 3); lia
  · have := b2n_cases (k.testBit 4); lia
theorem ge3_b (b : Bool) : ge3 1 (4096 * b2n b) = b := by cases b <;> decide
theorem spotRow_ge (k : Nat) : (spotRow k).map (ge3 1) = [k.testBit 0, k.testBit 1, k.testBit 2, k.testBit 3, k.testBit 4] := by
  unfold spotRow
  simp only [List.map_cons, List.map_nil, ge3_b]
theorem shown_at {bs : List Box} (hg : ∀ b ∈ bs, GoodBox b) {k : Nat} (hk : k < 32) (i : Nat) (hi : i < 5) :
    (bs.foldl stepR (spotRow k)).getD i 0 = 4096 * b2n (bt k ((bs.foldl stepW words0).getD i 0)) := by
  have z := zero_one (bs := bs) hg (row := spotRow k) rfl hk (spotRow_ge k)
  have w := wire_at hg rfl z i hi
  have l2 : (bs.foldl stepR (spotRow k)).length = 5 := by rw [foldR_len]; rfl
  have m := spotRow_bw k _ ((foldR_perm rfl hg).mem_iff.mp (getD_mem (ws := bs.foldl stepR (spotRow k)) (k := i) (by lia)))
  rw [w]
  unfold ge3
  rcases m with m | m <;> rw [m] <;> decide
theorem shown_bad {bs : List Box} (hg : ∀ b ∈ bs, GoodBox b) {k : Nat} (hk : k < 32) (hb : bt k (badW (bs.foldl stepW words0)) = true) : ¬ (bs.foldl stepR (spotRow k)).Pairwise (fun a b => a ≤ b) := by
  have hw := (words0_ok.fold hg).1
  rw [(bad_ok hw).2] at hb
  have l2 : (bs.foldl stepR (spotRow k)).length = 5 := by rw [foldR_len]; rfl
  have s := shown_at hg hk
  obtain ⟨a, b, c, d, e, he⟩ := list5 l2
  rw [he] at s ⊢
  have s0 := s 0 (by lia)
  have s1 := s 1 (by lia)
  have s2 := s 2 (by lia)
  have s3 := s 3 (by lia)
  have s4 := s 4 (by lia)
  simp only [Bool.or_eq_true, Bool.and_eq_true, Bool.not_eq_true'] at hb
  simp only [List.getD_cons_zero, List.getD_cons_succ] at s0 s1 s2 s3 s4
  intro hp
  simp only [List.pairwise_cons, List.mem_cons, List.not_mem_nil, or_false, List.Pairwise.nil, and_true] at hp
  obtain ⟨p0, p1, p2, p3, _⟩ := hp
  have q0 := p0 b (.inl rfl)
  have q1 := p1 c (.inl rfl)
  have q2 := p2 d (.inl rfl)
  have q3 := p3 e rfl
  rcases hb with ((hb | hb) | hb) | hb
  · rw [hb.1] at s0; rw [hb.2] at s1; simp [b2n] at s0 s1; lia
  · rw [hb.1] at s1; rw [hb.2] at s2; simp [b2n] at s1 s2; lia
  · rw [hb.1] at s2; rw [hb.2] at s3; simp [b2n] at s2 s3; lia
  · rw [hb.1] at s3; rw [hb.2] at s4; simp [b2n] at s3 s4; lia
end Mine
end
section
open PySem PySem.W PyProof.Rows PySem.Spec PySem.Calls
set_option Elab.async false
set_option maxRecDepth 100000
namespace Mine
def fixedL : List Int := [2900, 17, 4096, 0, 1033, 7, 44, 25, 58, 31, 12]
section
variable {prog : Program} {w : World} {A : Around} {E : Value → Shared → Prop} {s : Shared} {h₀ : Heap} {L l : Addr} {m : Str → Option Value} {news : List (Addr × Obj)} {value slice : PySem.Expr} {Q : Value → Shared → Prop}
theorem slice_fixed {t0 t1 t2 t3 t4 t5 t6 t7 t8 t9 t10 tt : Tok} {nn k : Nat} (F : Fr h₀ L s.heap m) (N : News h₀ L s.heap news) (hl : (l, W.listOf #[.int 2900 t0, .int 17 t1, .int 4096 t2, .int 0 t3, .int 1033 t4, .int 7 t5, .int 44 t6, .int 25 t7, .int 58 t8, .int 31 t9, .int 12 t10] nn) ∈ news)
    (h : ∀ D ws h', Fr h₀ L h' m → News h₀ L h' ((D, W.listOf (List.toArray ws) 0) :: news) → (∀ p ∈ news, p.1 < D) → IntsAre ws (fixedL.drop k) → Q (.ref D) { s with heap := h' })
    (hs : subscripted slice false (.ref l) (.ref s.heap.objs.size) = operate [.ref s.heap.objs.size, .ref l] (getItem (.ref l) (.ref s.heap.objs.size))) (ht : ∀ r, letTemporaryGo value (.ref l) r = pure ()) :
    wpAny (model prog w) A (subscriptTail value slice (.ref l) (.ref s.heap.objs.size)) Q E { s with heap := s.heap.push { cls := .type "slice", data := .fields #[.int (k : Int) tt, .none, .none] } } := by
  have hi : IntsAre [.int 2900 t0, .int 17 t1, .int 4096 t2, .int 0 t3, .int 1033 t4, .int 7 t5, .int 44 t6, .int 25 t7, .int 58 t8, .int 31 t9, .int 12 t10] fixedL := .cons _ _ (.cons _ _ (.cons _ _ (.cons _ _ (.cons _ _ (.cons _ _ (.cons _ _ (.cons _ _ (.cons _ _ (.cons _ _ (.cons _ _ .nil))))))))))
  have hm := kmk_from hi (x := (k : Int)) (Int.natCast_nonneg k)
  rw [Int.toNat_natCast] at hm
  refine kmk_slice_ints (vs := [.int 2900 t0, .int 17 t1, .int 4096 t2, .int 0 t3, .int 1033 t4, .int 7 t5, .int 44 t6, .int 25 t7, .int 58 t8, .int 31 t9, .int 12 t10]) F N (News.isList N hl) (IsPart.int _ _) IsPart.none hi hm rfl (fun D ws h' F' N' l1 hI _ _ => h D ws h' F' N' l1 hI) hs ht ?_
  show 11 ≤ sizeLine
  decide
end
theorem ints_cons {us : List Value} {l : List Int} {n : Nat} (h : IntsAre us l) (hl : l.length = n + 1) : ∃ c t us' l', us = .int c t :: us' ∧ IntsAre us' l' ∧ l'.length = n := by
  cases h with
  | nil => simp at hl
  | cons c t h => exact ⟨c, t, _, _, rfl, h, by simpa using hl⟩
theorem ints_nil {us : List Value} {l : List Int} (h : IntsAre us l) (hl : l.length = 0) : us = [] := by
  cases h with
  | nil => rfl
  | cons c t h => simp at hl
theorem ints11 {us : List Value} {l : List Int} (h : IntsAre us l) (hl : l.length = 11) : ∃ c0 c1 c2 c3 c4 c5 c6 c7 c8 c9 c10 t0 t1 t2 t3 t4 t5 t6 t7 t8 t9 t10, us = [.int c0 t0, .int c1 t1, .int c2 t2, .int c3 t3, .int c4 t4, .int c5 t5, .int c6 t6, .int c7 t7, .int c8 t8, .int c9 t9, .int c10 t10] := by
  obtain ⟨c0, t0, u0, k0, e0, g0, l0⟩ := ints_cons h hl
  obtain ⟨c1, t1, u1, k1, e1, g1, l1⟩ := ints_cons g0 l0
  obtain ⟨c2, t2, u2, k2, e2, g2, l2⟩ := ints_cons g1 l1
  obtain ⟨c3, t3, u3, k3, e3, g3, l3⟩ := ints_cons g2 l2
  obtain ⟨c4, t4, u4, k4, e4, g4, l4⟩ := ints_cons g3 l3
  obtain ⟨c5, t5, u5, k5, e5, g5, l5⟩ := ints_cons g4 l4
  obtain ⟨c6, t6, u6, k6, e6, g6, l6⟩ := ints_cons g5 l5
  obtain ⟨c7, t7, u7, k7, e7, g7, l7⟩ := ints_cons g6 l6
  obtain ⟨c8, t8, u8, k8, e8, g8, l8⟩ := ints_cons g7 l7
  obtain ⟨c9, t9, u9, k9, e9, g9, l9⟩ := ints_cons g8 l8
  obtain ⟨c10, t10, u10, k10, e10, g10, l10⟩ := ints_cons g9 l9
  have z := ints_nil g10 l10
  subst z
  subst e10
  subst e9
  subst e8
  subst e7
  subst e6
  subst e5
  subst e4
  subst e3
  subst e2
  subst e1
  subst e0
  exact ⟨c0, c1, c2, c3, c4, c5, c6, c7, c8, c9, c10, t0, t1, t2, t3, t4, t5, t6, t7, t8, t9, t10, rfl⟩
section
variable {prog : Program} {w : World} {A : Around} {E : Value → Shared → Prop} {s : Shared} {h₀ : Heap} {L a b : Addr} {m : Str → Option Value} {news : List (Addr × Obj)} {vs ws : List Value} {ns : List Int} {na nb : Nat} {Q : Value → Shared → Prop}
theorem add_cells (F : Fr h₀ L s.heap m) (N : News h₀ L s.heap news) (ha : (a, W.listOf vs.toArray na) ∈ news) (hb : (b, W.listOf ws.toArray nb) ∈ news) (hi : IntsAre vs (ns.take 11)) (hj : IntsAre ws (fixedL.drop ns.length))
    (h : ∀ (D : Addr) (h' : Heap) (c0 c1 c2 c3 c4 c5 c6 c7 c8 c9 c10 : Int) (t0 t1 t2 t3 t4 t5 t6 t7 t8 t9 t10 : Tok), Fr h₀ L h' m → News h₀ L h' ((D, W.listOf #[.int c0 t0, .int c1 t1, .int c2 t2, .int c3 t3, .int c4 t4, .int c5 t5, .int c6 t6, .int c7 t7, .int c8 t8, .int c9 t9, .int c10 t10] 0) :: news) → (∀ p ∈ news, p.1 < D) → Q (.ref D) { s with heap := h' }) : wpAny (model prog w) A (binaryOp .Add (.ref a) (.ref b)) Q E s := by
  have hl : (ns.take 11 ++ fixedL.drop ns.length).length = 11 := by
    rw [List.length_append, List.length_take, List.length_drop]
    show min 11 ns.length + (11 - ns.length) = 11
    omega
  refine kmk_add_ints F N (News.isList N ha) (News.isList N hb) hi hj (fun D us h' F' N' l1 hI => ?_) ?_
  · obtain ⟨c0, c1, c2, c3, c4, c5, c6, c7, c8, c9, c10, t0, t1, t2, t3, t4, t5, t6, t7, t8, t9, t10, e⟩ := ints11 hI hl
    subst e
    exact h D h' c0 c1 c2 c3 c4 c5 c6 c7 c8 c9 c10 t0 t1 t2 t3 t4 t5 t6 t7 t8 t9 t10 F' N' l1
  · rw [List.length_append] at hl
    rw [hl]; decide
end
end Mine
end
section
open PySem PySem.W PyProof.Rows PySem.Spec PySem.Calls
set_option Elab.async false
set_option maxRecDepth 100000
namespace Mine
section
variable {w : World} {mean : ExcName → Option Value} {mg mb : Str → Option Value} {f : Addr} {k : Nat} {news : List (Addr × Obj)} {dp un : Nat} {gd : Option (List Code)} {cn : Str} {cs : Scope} {a : Addr} {ccd : Value} {cl : List (Str × Addr)} {outer : List Env} {A₀ : Around} {base h₀ : Heap} {L : Addr} {m : Str → Option Value} {s : Shared} {Q E : Value → Shared → Prop}
theorem boxes_use {Cl : Addr} {c0 c1 c2 c3 c4 c5 : Int} {t0 t1 t2 t3 t4 t5 : Tok} {cn' : Nat} (Bl : Below A₀ base outer h₀) (F : Fr h₀ L s.heap m) (X : (Mine.hd.heap_39 w.params).In h₀)
    (N : News h₀ L s.heap ((Cl, W.listOf #[.int c0 t0, .int c1 t1, .int c2 t2, .int c3 t3, .int c4 t4, .int c5 t5] cn') :: news))
    (Tp : Top Mine.hd.view_39 (looseW Mine.hd.view_39 [Str.ofString "ONE_THIRD", Str.ofString "ONE_SIXTH", Str.ofString "TWO_THIRD"]) mean mg mb h₀) (hk : cs.kind = .function) (hd : dp + 1 < recursionLimit) (hu : un + 8 * 1 + 200 < cLine)
    (ret : ∀ bx vs n bs tl h' tk', Fr h₀ L h' m → News h₀ L h' (tl ++ (Cl, W.listOf #[.int c0 t0, .int c1 t1, .int c2 t2, .int c3 t3, .int c4 t4, .int c5 t5] cn') :: news) → (∀ p ∈ news, ∀ q ∈ tl, p.1 ≠ q.1) → BoxesAt tl bx vs n bs → Q (.ref bx) { s with heap := h', toks := tk' }) :
    wpAny (model Challenge.rw_pe0115_01.row.prog w) (ktrTop dp un gd cn cs L a ccd cl outer) (call (.ref 133) [.ref Cl]) Q E s :=
  boxes_c w mean mg mb news Cl c0 c1 c2 c3 c4 c5 t0 t1 t2 t3 t4 t5 cn' _ _ _ _ _ _ _ _ _ _ _ _ _ _ _ _ _ Bl F X N Tp hk hd hu fun v tl h' tk' F' N' hl ho => by
    obtain ⟨bx, vs, n, bs, rfl, hB⟩ := ho
    exact ret bx vs n bs tl h' tk' F' N' (fun p hp => hl p (.tail _ hp)) hB
theorem BoxesAt.mono {l k : List (Addr × Obj)} {bx : Addr} {vs : List Value} {n : Nat} {bs : List Box} (h : BoxesAt l bx vs n bs) (hs : ∀ p ∈ l, p ∈ k) : BoxesAt k bx vs n bs :=
  ⟨hs _ h.mem, h.len, fun i v b hv hb => (h.at_ i v b hv hb).mono hs, h.good⟩
theorem words_use {bx : Addr} {bvs : List Value} {nb : Nat} {bs : List Box} (hB : BoxesAt news bx bvs nb bs) (Bl : Below A₀ base outer h₀) (F : Fr h₀ L s.heap m) (X : (Mine.hd.heap_39 w.params).In h₀) (N : News h₀ L s.heap news)
    (Tp : Top Mine.hd.view_39 (looseW Mine.hd.view_39 [Str.ofString "ONE_THIRD", Str.ofString "ONE_SIXTH", Str.ofString "TWO_THIRD"]) mean mg mb h₀) (hk : cs.kind = .function) (hd : dp + 2 < recursionLimit) (hu : un + 8 * 2 + 200 < cLine)
    (ret : ∀ D vs n h' tk', Fr h₀ L h' m → News h₀ L h' ((D, W.listOf (List.toArray vs) n) :: news) → (∀ p ∈ news, p.1 ≠ D) → IntsAre vs (bs.foldl stepW words0) → Q (.ref D) { s with heap := h', toks := tk' }) :
    wpAny (model Challenge.rw_pe0115_01.row.prog w) (ktrTop dp un gd cn cs L a ccd cl outer) (call (.ref 152) [.ref bx]) Q E s :=
  words_c w mean mg mb news bx bvs nb bs hB _ _ _ _ _ _ _ _ _ _ _ _ _ _ _ _ _ Bl F X N Tp hk hd hu fun v tl h' tk' F' N' hl ho => by
    obtain ⟨D, vs, n, rfl, rfl, hi⟩ := ho
    exact ret D vs n h' tk' F' N' (fun p hp => hl p hp _ (.head _)) hi
theorem run_use {bx : Addr} {bvs : List Value} {nb : Nat} {bs : List Box} (hB : BoxesAt news bx bvs nb bs) {Rw : Addr} {rvs : List Value} {rn : Nat} {row : List Int} (hR : (Rw, W.listOf rvs.toArray rn) ∈ news) (hri : IntsAre rvs row) (hr : Five row)
    (Bl : Below A₀ base outer h₀) (F : Fr h₀ L s.heap m) (X : (Mine.hd.heap_39 w.params).In h₀) (N : News h₀ L s.heap news)
    (Tp : Top Mine.hd.view_39 (looseW Mine.hd.view_39 [Str.ofString "ONE_THIRD", Str.ofString "ONE_SIXTH", Str.ofString "TWO_THIRD"]) mean mg mb h₀) (hk : cs.kind = .function) (hd : dp + 5 < recursionLimit) (hu : un + 8 * 5 + 200 < cLine)
    (ret : ∀ D vs n h' tk', Fr h₀ L h' m → News h₀ L h' ((D, W.listOf (List.toArray vs) n) :: news) → (∀ p ∈ news, p.1 ≠ D) → IntsAre vs (bs.foldl stepR row) → Q (.ref D) { s with heap := h', toks := tk' }) :
    wpAny (model Challenge.rw_pe0115_01.row.prog w) (ktrTop dp un gd cn cs L a ccd cl outer) (call (.ref 145) [.ref bx, .ref Rw]) Q E s :=
  run_c w mean mg mb news bx bvs nb bs hB Rw rvs rn row hR hri hr _ _ _ _ _ _ _ _ _ _ _ _ _ _ _ _ _ Bl F X N Tp hk hd hu fun v tl h' tk' F' N' hl ho => by
    obtain ⟨D, vs, n, rfl, rfl, hi⟩ := ho
    exact ret D vs n h' tk' F' N' (fun p hp => hl p hp _ (.head _)) hi
end
theorem five_row {c0 c1 c2 c3 c4 : Int} : Five (List.map (fun k' : Int => k'.fmod 4097) [c0, c1, c2, c3, c4]) := ⟨rfl, fun x hx => by
  obtain ⟨c, _, rfl⟩ := List.mem_map.mp hx
  show 0 ≤ c.fmod 4097 ∧ c.fmod 4097 ≤ 4096
  rw [Int.fmod_eq_emod_of_nonneg _ (by decide)]; omega⟩
end Mine
end
section
open PySem PySem.W PyProof.Rows PySem.Spec PySem.Calls
set_option Elab.async false
set_option maxRecDepth 100000
namespace Mine
section
variable {h₀ h : Heap} {L : Addr} {tl : List (Addr × Obj)} {q0 r q2 q3 q4 q5 q6 c : Addr × Obj}
theorem sift_news (N : News h₀ L h (tl ++ [q0, r, q2, q3, q4, q5, q6, c])) : News h₀ L h (r :: c :: tl) := fun p hp => by
  refine N p ?_
  rcases List.mem_cons.mp hp with rfl | hp
  · exact List.mem_append_right _ (.tail _ (.head _))
  rcases List.mem_cons.mp hp with rfl | hp
  · exact List.mem_append_right _ (.tail _ (.tail _ (.tail _ (.tail _ (.tail _ (.tail _ (.tail _ (.head _))))))))
  · exact List.mem_append_left _ hp
theorem sift_c (l : ∀ p ∈ [r, q2, q3, q4, q5, q6, c], ∀ q ∈ tl, p.1 ≠ q.1) : ∀ p ∈ tl, p.1 ≠ c.1 := fun p hp e => l c (.tail _ (.tail _ (.tail _ (.tail _ (.tail _ (.tail _ (.head _))))))) p hp e.symm
theorem sift_r (l : ∀ p ∈ [r, q2, q3, q4, q5, q6, c], ∀ q ∈ tl, p.1 ≠ q.1) : ∀ p ∈ tl, p.1 ≠ r.1 := fun p hp e => l r (.head _) p hp e.symm
end
end Mine
end
section
open PySem PySem.W PyProof.Rows
set_option Elab.async false
namespace Mine
/-! the count of tokens never falls -/
theorem runs_toks {M : Model} {Γ : Ctx} {p : Pos} {t : Sem Fin} {fs : List Frame} {s s' : Shared} {e : End} (h : Runs M Γ p t fs s e s') : s.toks ≤ s'.toks := by
  induction h with
  | done | raise | yield => exact Nat.le_refl _
  | again _ _ ih | rule _ ih | «at» _ ih | load _ _ ih | update _ _ ih | loadIfAlive _ ih | point _ ih | alloc _ ih | ask _ ih | choose _ _ ih | os _ ih | handled _ ih | genState _ _ ih | stack _ ih | thread _ ih | newGen _ ih => exact ih
  | fresh _ ih => exact Nat.le_trans (Nat.le_succ _) ih
  | call _ _ i j => exact Nat.le_trans i j
  | callSusp _ i => exact i
  | resumeFresh _ _ _ _ i j => exact Nat.le_trans i j
  | resumeSuspended _ _ _ _ i j => exact Nat.le_trans i j
  | resumeJustStarted _ _ _ i => exact i
  | resumeThrowFresh _ _ i => exact i
  | resumeRunning _ _ i => exact i
  | resumeFinished _ _ i => exact i
  | segRet _ _ i j => exact Nat.le_trans i j
  | segGen _ _ i j => exact Nat.le_trans i j
  | segSuspOut _ _ i => exact i
  | segSuspGen _ _ _ _ i j => exact Nat.le_trans i j
theorem wakes_toks {M : Model} {Γ : Ctx} {p : Pos} {g : Nat} {r : Resume} {s s' : Shared} {res : GenResult} (h : Wakes M Γ p g r s res s') : s.toks ≤ s'.toks := by
  unfold Wakes at h
  split at h
  · exact h.elim
  · split at h
    · obtain ⟨e₁, s₁, h₁, _, _, rfl⟩ := h; exact (show (s.setGen g .running).toks ≤ s₁.toks from runs_toks h₁)
    · obtain ⟨_, rfl⟩ := h; exact Nat.le_refl _
    · obtain ⟨_, rfl⟩ := h; exact Nat.le_refl _
  · obtain ⟨e₁, s₁, h₁, _, _, rfl⟩ := h; exact (show (s.setGen g .running).toks ≤ s₁.toks from runs_toks h₁)
  · obtain ⟨_, rfl⟩ := h; exact Nat.le_refl _
  · obtain ⟨_, rfl⟩ := h; exact Nat.le_refl _
theorem wp_toks {X : Type} {Q : X → Pos → Shared → Prop} {E : Value → Pos → Shared → Prop} (M : Model) (Γ : Ctx) (T : Nat) (t : Sem X) (p : Pos) (s : Shared) (hT : T ≤ s.toks)
    (h : Sem.wp M Γ t (fun a p' s' => T ≤ s'.toks → Q a p' s') (fun e p' s' => T ≤ s'.toks → E e p' s') p s) : Sem.wp M Γ t Q E p s := by
  revert h
  induction t generalizing p s with
  | pure x => exact fun h => h hT
  | raise v => exact fun h => h hT
  | unsupported | finish | yield | fork | await | register => exact id
  | rule _ k ih | «at» _ k ih | alloc _ k ih | loadIfAlive _ k ih | point _ k ih | ask k ih | os _ _ k ih | handled _ k ih | newGen _ k ih | stack k ih | thread k ih => exact ih _ _ _ hT
  | fresh k ih => exact ih _ _ _ (Nat.le_trans hT (Nat.le_succ _))
  | load a _ k ih | genState a k ih => exact fun ⟨o, ho, h⟩ => ⟨o, ho, ih _ _ _ hT h⟩
  | update a _ f k ih | choose _ _ k ih => exact fun ⟨ha, h⟩ => ⟨ha, ih _ _ _ hT h⟩
  | call c h g l k ih => exact fun ⟨r, s', hr, hR⟩ => ⟨r, s', hr, ih r p s' (Nat.le_trans hT (runs_toks hr)) hR⟩
  | resume g r l k ih => exact fun ⟨res, s', hw, h⟩ => ⟨res, s', hw, ih _ _ _ (Nat.le_trans hT (wakes_toks hw)) h⟩
/-- behind a step the count of tokens is not below what it was -/
theorem wpAny_toks {α : Type} {M : Model} {A : Around} {t : Sem α} {Q : α → Shared → Prop} {E : Value → Shared → Prop} {s : Shared}
    (h : wpAny M A t (fun a s' => s.toks ≤ s'.toks → Q a s') (fun e s' => s.toks ≤ s'.toks → E e s') s) : wpAny M A t Q E s :=
  fun Γ p hΓ => wp_toks M Γ s.toks t p s (Nat.le_refl _) (h Γ p hΓ)
theorem wpAny_toks' {α : Type} {M : Model} {A : Around} {t : Sem α} {Q : α → Shared → Prop} {E : Value → Shared → Prop} {s : Shared}
    (h : wpAny M A t (fun a s' => s.toks ≤ s'.toks → Q a s') E s) : wpAny M A t Q E s :=
  wpAny_toks (wpAny_mono h (fun _ _ q => q) fun _ _ q _ => q)
/-- forget the count, but not that it has risen -/
theorem gen_toks {α : Type} {M : Model} {A : Around} {t : Sem α} {Q : α → Shared → Prop} {E : Value → Shared → Prop} {hp : Heap} {g : Array GenState} {d : Drawn} {Y : Nat} {os : OsState}
    (h : ∀ tk, Y < tk → wpAny M A t Q E ⟨hp, g, d, tk, os⟩) : wpAny M A t Q E ⟨hp, g, d, Y + 1, os⟩ := h _ (Nat.lt_succ_self _)
end Mine
end
section
open PySem PySem.W PyProof.Rows PySem.Spec PySem.Calls
set_option Elab.async false
namespace Mine
/-! a list comprehension over a range that tells of its items' tokens: none is below the count at the start -/
/-- an element: from a count that is not below T comes a value with G, and the count behind it is not below T -/
def TokElt (prog : Program) (w : World) (A : Around) (h₀ : Heap) (L : Addr) (m : Str → Option Value) (env : Env) (elt : PySem.Expr) (x : Str) (scope : Scope) (cl : List (Str × Addr)) (s : Shared) (news : List (Addr × Obj)) (a : Int) (n T : Nat) (G : Int → Value → Prop) : Prop :=
  ∀ k t I oI C oC D m₂ ys h tk (E' : Value → Shared → Prop), T ≤ tk → a ≤ k → k < a + (n : Int) → LCg.NsObj oC m₂ → m₂ x = some (.int k t) → Fr h₀ L h m → News h₀ L h ((I, oI) :: (C, oC) :: (D, LCg.lst ys) :: news) → LCg.Off3 I C D news → ((@Ne Nat I C) ∧ (@Ne Nat I D) ∧ (@Ne Nat C D)) →
    wpAny (model prog w) A (eval elt (compEnvC scope cl C env)) (fun y s₂ => ∃ h' tk', s₂ = { s with heap := h', toks := tk' } ∧ Fr h₀ L h' m ∧ News h₀ L h' ((I, oI) :: (C, oC) :: (D, LCg.lst ys) :: news) ∧ G k y) E' { s with heap := h, toks := tk }
def RSrcT (prog : Program) (w : World) (A : Around) (h₀ : Heap) (L : Addr) (m : Str → Option Value) (env : Env) (elt : PySem.Expr) (x : Str) (scope : Scope) (cl : List (Str × Addr)) (Q : Value → Shared → Prop) (xv : Value) (s₁ : Shared) : Prop :=
  ∃ r b t u v n news G, xv = .ref r ∧ A.handled = none ∧ Fr h₀ L s₁.heap m ∧ News h₀ L s₁.heap news ∧ IsRange s₁.heap r 0 b 1 t u v ∧ Builtin.Range.small 0 b 1 = true ∧ Builtin.Range.rangeSize 0 b 1 = ((n : Nat) : Int) ∧ n ≤ sizeLine ∧
    TokElt prog w A h₀ L m env elt x scope cl s₁ news 0 n s₁.toks G ∧
    ∀ D h tk ys, Fr h₀ L h m → News h₀ L h ((D, LCg.lst ys) :: news) → LCg.Off1 D news → ys.length = n → (∀ (i : Nat) (v : Value), ys[i]? = some v → G (i : Int) v) → s₁.toks ≤ tk → Q (.ref D) { s₁ with heap := h, toks := tk }
section
variable {prog : Program} {w : World} {A : Around} {E : Value → Shared → Prop} {s : Shared} {h₀ : Heap} {L : Addr} {m : Str → Option Value} {env : Env}
theorem block_T {elt iter : PySem.Expr} {x : Str} {px : Pos} {scope : Scope} {cl : List (Str × Addr)} {pos : Pos} {s₂ : Shared} {I : Addr} {n : Nat} {news : List (Addr × Obj)} {G : Int → Value → Prop} {RR : Value → Addr → Result → Shared → Prop}
    (hh : A.handled = none) (hsz : n ≤ sizeLine)
    (hcell : ∀ y ∈ scope.names, y.2 ≠ .cell) (hkind : scope.kind = .function) (hx : scope.names.lookup x = some .local) (hst : IsRangeIter s₂.heap I 0 (n : Int) 1)
    (F : Fr h₀ L s₂.heap m) (N : News h₀ L s₂.heap news) (hIL : L ≠ I) (hI₀ : h₀.get? I = none) (off : ∀ p ∈ news, p.1 ≠ I)
    (R : TokElt prog w A h₀ L m env elt x scope cl s₂ news 0 n s₂.toks G)
    (hRR : ∀ D C h tk m' ys, Fr h₀ L h m → News h₀ L h ((D, LCg.lst ys) :: news) → LCg.Off1 D news → h.Ns C m' → h₀.get? C = none → h₀.get? D = none → C ≠ L → D ≠ L → C ≠ D → (∀ p ∈ news, p.1 ≠ C) → ys.length = n → (∀ (i : Nat) (v : Value), ys[i]? = some v → G (i : Int) v) → s₂.toks ≤ tk → RR (.ref D) C (.ok .next) { s₂ with heap := h, toks := tk }) :
    wpAny (model prog w) A (newList []) (fun acc s₃ => wpAny (model prog w) A (newFunctionEnv scope env.globals cl [] env.qual none .none (some env)) (fun cenv s₄ =>
      codeAny (model prog w) A (.compStart (.ListComp elt [⟨.Name x px, iter, [], 0⟩] scope pos) 0 (.ref I) acc { cenv with scope := relabel scope env }) (RR acc cenv.locals) s₄) E s₃) E s₂ := by
  have W : Walks prog w A I [I] [I] n (fun i v => i < n ∧ ∃ t, v = .int (0 + i * 1) t) (fun i h => IsRangeIter h I (0 + (i : Nat) * 1) ((n : Int) - (i : Nat)) 1) := (Walks.range hh I 0 1 n).bound
  have hst' : IsRangeIter s₂.heap I (0 + ((0 : Nat) : Int) * 1) ((n : Int) - ((0 : Nat) : Int)) 1 := by
    have e1 : (0 : Int) + ((0 : Nat) : Int) * 1 = 0 := rfl
    have e2 : (n : Int) - ((0 : Nat) : Int) = n := Int.sub_zero _
    rw [e1, e2]; exact hst
  have hIlt : I < s₂.heap.objs.size := Heap.lt_size hst
  refine wpAny_newObj_type (wpAny_newFunctionEnv hcell (by intro y hy; simp at hy) (fun h₁ hns₁ hsb₁ => ?_) hkind)
  dsimp only at hns₁ hsb₁ ⊢
  generalize hH2 : s₂.heap.push { cls := .type "list", dict := none, data := .seq ([] : List Value).toArray } = H2 at hns₁ hsb₁ ⊢
  have hC : H2.objs.size = s₂.heap.objs.size + 1 := by rw [← hH2, Heap.size_push]
  have hDC : s₂.heap.objs.size ≠ H2.objs.size := by rw [hC]; exact Nat.ne_of_lt (Nat.lt_succ_self _)
  have below : ∀ b, b < s₂.heap.objs.size → b ≠ H2.objs.size ∧ b ≠ s₂.heap.objs.size := fun b hb => ⟨by rw [hC]; exact Nat.ne_of_lt (Nat.lt_succ_of_lt hb), Nat.ne_of_lt hb⟩
  have old : ∀ b o, s₂.heap.get? b = some o → h₁.get? b = some o := fun b o e => hsb₁.extBut b o (below b (Heap.lt_size e)).1 (Heap.get?_push_of_some _ (hH2 ▸ Heap.get?_push_of_some _ e))
  have hacc : h₁.get? s₂.heap.objs.size = some (LCg.lst []) := hsb₁.extBut _ _ hDC (Heap.get?_push_of_some _ (hH2 ▸ Heap.get?_push_size _ rfl))
  have hst₁ := W.frame 0 _ h₁ hst' fun b _ o e => old b o e
  have fresh₀ : ∀ a, s₂.heap.objs.size ≤ a → h₀.get? a = none := fun a ha => by
    cases e : h₀.get? a with
    | none => rfl
    | some o' => exact absurd (Heap.lt_size (F.keep a o' e)) (Nat.not_lt.mpr ha)
  have hD₀ : h₀.get? s₂.heap.objs.size = none := fresh₀ _ (Nat.le_refl _)
  have hC₀ : h₀.get? H2.objs.size = none := fresh₀ _ (by rw [hC]; exact Nat.le_succ _)
  have hLlt : L < s₂.heap.objs.size := F.ns.lt
  have hDL : s₂.heap.objs.size ≠ L := Ne.symm (below L hLlt).2
  have hCL : H2.objs.size ≠ L := Ne.symm (below L hLlt).1
  have hCI : I ≠ H2.objs.size := (below I hIlt).1
  have hDI : I ≠ s₂.heap.objs.size := (below I hIlt).2
  have off₀ : LCg.Off3 I H2.objs.size s₂.heap.objs.size news := LCg.Off3.of fun p hp => ⟨off p hp, (below _ (Heap.lt_size (N p hp).1)).1, (below _ (Heap.lt_size (N p hp).1)).2⟩
  have off3 := off₀.mem
  have hD1 : ∀ p ∈ news, p.1 ≠ s₂.heap.objs.size := fun p hp => (off3 p hp).2.2
  have loop : ∀ s₃ : Shared, s₃ = { s₂ with heap := h₁, toks := s₂.toks + ([] : List (Str × Value)).length } →
      codeAny (model prog w) A (.compLoop (.ListComp elt [⟨.Name x px, iter, [], 0⟩] scope pos) 0 (.ref I) (.ref s₂.heap.objs.size) (compEnvC scope cl H2.objs.size env))
        (RR (.ref s₂.heap.objs.size) H2.objs.size) s₃ := by
    rintro s₃ rfl
    refine codeAny_compLoop_tests
      (fun k s' => ∃ h' tk i ys m', s' = { s₂ with heap := h', toks := tk } ∧ s₂.toks ≤ tk ∧ i ≤ n ∧ k = n + 1 - i ∧ ys.length = i ∧ (∀ (j : Nat) (v : Value), ys[j]? = some v → G (j : Int) v) ∧ IsRangeIter h' I (0 + (i : Nat) * 1) ((n : Int) - (i : Nat)) 1 ∧ Fr h₀ L h' m ∧ h'.Ns H2.objs.size m' ∧ News h₀ L h' ((s₂.heap.objs.size, LCg.lst ys) :: news)) ?_ (n + 1)
      ⟨h₁, _, 0, [], _, rfl, Nat.le_add_right _ _, Nat.zero_le _, rfl, rfl, fun j v e => (by simp at e), hst₁, F.keeps old, hns₁, fun p hp => ?_⟩
    · rintro k s' ⟨h', tk, i, ys, m', rfl, htk, hi, rfl, hyl, hys, hst', F', hn', N'⟩
      by_cases hlt : i < n
      · refine wpAny_toks' (W.item i _ _ _ hlt hst' fun v h₂ tk₂ hPv hst₂ hk₂ htk₂ => ?_)
        obtain ⟨_, t, rfl⟩ := hPv
        have htk₂ : s₂.toks ≤ tk₂ := Nat.le_trans htk htk₂
        refine wpAny_assign_Name (wpAny_storeName_local (lookup_relabel_local hx) (hn'.at' fun o e => hk₂ _ o (by simpa using Ne.symm hCI) e) (fun h₃ hn₃ hs₃ => ?_) (by simp [compEnvC, relabel, hkind]))
        refine wpAny_tests_nil ?_
        simp only [if_true]
        have hst₃ : IsRangeIter h₃ I (0 + (((i + 1 : Nat)) : Int) * 1) ((n : Int) - ((i + 1 : Nat) : Int)) 1 := W.frame (i + 1) _ _ hst₂ fun b hb o e => hs₃.extBut b o (fun q => by rw [List.mem_singleton.mp hb] at q; exact hCI q) e
        obtain ⟨oC, heC, hoC⟩ := LCg.ns_obj hn₃
        have F₃ : Fr h₀ L h₃ m := (LCg.fr_but F' hk₂ hIL hI₀).change hs₃ hCL hC₀
        have N₂ : News h₀ L h₂ ((s₂.heap.objs.size, LCg.lst ys) :: news) := LCg.news_but N' hk₂ fun p hp => by
          rcases List.mem_cons.mp hp with rfl | hp
          · exact Ne.symm hDI
          · exact (off3 p hp).1
        have heI : h₃.get? I = some _ := hst₃
        have N₃ := fun oI (e : h₃.get? I = some oI) => (fun p hp => by
          rcases List.mem_cons.mp hp with rfl | hp
          · exact ⟨e, Ne.symm hIL, hI₀⟩
          · rcases List.mem_cons.mp hp with rfl | hp
            · exact ⟨heC, hCL, hC₀⟩
            · have z := N₂ p hp
              refine ⟨hs₃.extBut _ _ ?_ z.1, z.2⟩
              rcases List.mem_cons.mp hp with rfl | hp
              · exact hDC
              · exact (off3 p hp).2.1 : News h₀ L h₃ ((I, oI) :: (H2.objs.size, oC) :: (s₂.heap.objs.size, LCg.lst ys) :: news))
        have hz : (0 : Int) + (i : Int) * 1 = (i : Int) := by grind
        rw [hz] at hoC hn₃
        refine wpAny_toks' (wpAny_mono (R (i : Int) t I _ H2.objs.size oC s₂.heap.objs.size _ ys h₃ _ _ (Nat.le_succ_of_le htk₂) (by grind) (by grind) hoC (by simp) F₃ (N₃ _ heI) off₀ ⟨hCI, hDI, Ne.symm hDC⟩) (fun y s₄ h₄ htk₄ => ?_) fun _ _ e => e)
        obtain ⟨h₄, tk₄, rfl, F₄, N₄, hG⟩ := h₄
        have htk₄ : s₂.toks ≤ tk₄ := Nat.le_trans (Nat.le_succ_of_le htk₂) htk₄
        have zI := (N₄ _ List.mem_cons_self).1
        have zC := (N₄ (H2.objs.size, oC) (List.mem_cons_of_mem _ List.mem_cons_self)).1
        have zD := (N₄ (s₂.heap.objs.size, LCg.lst ys) (List.mem_cons_of_mem _ (List.mem_cons_of_mem _ List.mem_cons_self))).1
        refine append_at (hsz := by show ys.toArray.size ≤ sizeLine; rw [List.size_toArray, hyl]; exact Nat.le_trans hi hsz) zD fun h₅ hs₅ hD₅ => ?_
        refine ⟨n + 1 - (i + 1), by grind, h₅, tk₄, i + 1, ys ++ [y], _, rfl, htk₄, hlt, rfl, by rw [List.length_append, List.length_singleton, hyl], fun j v e => ?_, ?_, F₄.change hs₅ hDL hD₀,
          (hoC.ns zC).sameBut hs₅ (Ne.symm hDC), fun p hp => ?_⟩
        · by_cases hj : j < ys.length
          · rw [List.getElem?_append_left hj] at e
            exact hys j v e
          · have hj' : j < (ys ++ [y]).length := (List.getElem?_eq_some_iff.mp e).1
            rw [List.length_append, List.length_singleton] at hj'
            have : j = i := by grind
            subst this
            rw [← hyl, List.getElem?_concat_length] at e
            rw [← Option.some.inj e]; exact hG
        · exact hs₅.extBut _ _ hDI zI
        · rcases List.mem_cons.mp hp with rfl | hp
          · exact ⟨hD₅.trans (congrArg some (LCg.lst_snoc ys y)), hDL, hD₀⟩
          · have z := N₄ p (List.mem_cons_of_mem _ (List.mem_cons_of_mem _ (List.mem_cons_of_mem _ hp)))
            exact ⟨hs₅.extBut _ _ (hD1 p hp) z.1, z.2⟩
      · obtain rfl : i = n := Nat.le_antisymm hi (Nat.not_lt.mp hlt)
        refine wpAny_toks' (W.done _ _ _ hst' fun h₂ tk₂ hk₂ htk₂ => ?_)
        exact hRR _ _ h₂ tk₂ _ ys (LCg.fr_but F' hk₂ hIL hI₀) (LCg.news_but N' hk₂ fun p hp => by
          rcases List.mem_cons.mp hp with rfl | hp
          · exact Ne.symm hDI
          · exact (off3 p hp).1) off₀.one (hn'.at' fun o e => hk₂ _ o (by simpa using Ne.symm hCI) e) hC₀ hD₀ hCL hDL (Ne.symm hDC) (fun p hp => (off3 p hp).2.1) hyl hys (Nat.le_trans htk htk₂)
    · rcases List.mem_cons.mp hp with rfl | hp
      · exact ⟨hacc, hDL, hD₀⟩
      · exact ⟨old _ _ (N p hp).1, (N p hp).2⟩
  exact codeAny_compStart_list (loop _ rfl) (W.self 0 _ _ _ hst₁ (loop _ rfl))

theorem listcomp_T {elt iter : PySem.Expr} {x : Str} {px : Pos} {scope : Scope} {cl : List (Str × Addr)} {pos : Pos} {Q : Value → Shared → Prop} (F₀ : Fr h₀ L s.heap m)
    (hclos : closureFor scope env = pure cl) (hcell : ∀ y ∈ scope.names, y.2 ≠ .cell) (hkind : scope.kind = .function)
    (hnames : ∀ y ∈ scope.names, y.2 = .local → scope.names.lookup y.1 = some .local) (hx : scope.names.lookup x = some .local)
    (h : wpAny (model prog w) A (eval iter env) (fun xv s₁ => s.toks ≤ s₁.toks → RSrcT prog w A h₀ L m env elt x scope cl Q xv s₁) E s)
    (hs : ∀ x, foldedSetIterable iter env x = pure x := by intro _; rfl) :
    wpAny (model prog w) A (eval (.ListComp elt [⟨.Name x px, iter, [], 0⟩] scope pos) env) Q E s := by
  rw [eval_ListComp]
  refine wpAny_comprehension_free (use := none) rfl hs hclos hkind hnames (wpAny_mono (wpAny_toks' h) (fun xv s₁ h₁ => ?_) fun _ _ e => e)
  obtain ⟨r, b, t, u, v, n, news, G, rfl, hh, F, N, hr, hsm, hn, hsz, R, fin⟩ := h₁
  refine wpAny_pyIter_range hr hsm ?_
  refine block_T (n := n) (G := G) hh hsz hcell hkind hx (by show IsRangeIter _ _ _ _ _; rw [hn]; exact Heap.get?_push_size _ rfl)
    (F.keeps fun _ _ e => Heap.get?_push_of_some _ e) (N.grown fun _ _ e => Heap.get?_push_of_some _ e) (Nat.ne_of_lt F.ns.lt) (next_is_new F) (fun p hp => Nat.ne_of_lt (Heap.lt_size (N p hp).1)) R ?_
  intro D C h tk m' ys F' N' o1 hn hC₀ hD₀ hCL hDL hCD offC hyl hys htk
  refine ⟨m', hn, fun h'' hs'' => fin D h'' tk ys (F'.change hs'' hCL hC₀) (fun p hp => ?_) o1 hyl hys htk⟩
  refine ⟨hs''.extBut _ _ ?_ (N' p hp).1, (N' p hp).2⟩
  rcases List.mem_cons.mp hp with rfl | hp
  · exact Ne.symm hCD
  · exact offC p hp
end
end Mine
end
section
open PySem PySem.W PyProof.Rows PySem.Spec PySem.Calls
set_option Elab.async false
set_option maxRecDepth 100000
namespace Mine
section
variable {M : Model} {A : Around} {E : Value → Shared → Prop} {s : Shared}
theorem looks_notTold {h : Heap} {t : Tok} (hb : Looks M h (nsGet cStatics sharingNotToldKey) none) : Looks M h (sharingNotTold t) false := by
  intro A Q E s k q
  unfold sharingNotTold
  exact wpAny_bind (hb _ _ _ _ k (wpAny_pure q))
/-- «a is b» of two ints: either answer where their values are equal; False where they are not and the tokens differ -/
theorem is_ints {p q : Int} {t u : Tok} {Q : Value → Shared → Prop} (hb : Looks M s.heap (nsGet cStatics sharingNotToldKey) none) (ht : t ≠ 0) (hu : u ≠ 0) (hne : t = u → p = q) (h : ∀ b : Bool, (b = true → p = q) → Q (.bool b) s) :
    wpAny M A (compareOp .Is (.int p t) (.int q u)) Q E s := by
  have h0 : (t == 0 || u == 0) = false := by
    rw [beq_eq_false_iff_ne.mpr ht, beq_eq_false_iff_ne.mpr hu]; rfl
  show wpAny M A (do return .bool (← isSame (.int p t) (.int q u))) Q E s
  refine wpAny_bind ?_
  show wpAny M A (if (p == q && smallInt p) = true then isSame.cachedInt t u else isSame.created (p == q) t u) _ E s
  refine wpAny_ite ?_
  split
  · rename_i hpq
    rw [Bool.and_eq_true] at hpq
    unfold isSame.cachedInt
    refine wpAny_ite ?_
    rw [h0]
    rw [if_neg Bool.false_ne_true]
    exact wpAny_bind (wpAny_rule (wpAny_pure (wpAny_pure (h true fun _ => eq_of_beq hpq.1))))
  · unfold isSame.created
    refine wpAny_ite ?_
    rw [h0, if_neg Bool.false_ne_true]
    refine wpAny_ite ?_
    split
    · rename_i e
      exact wpAny_pure (wpAny_pure (h true fun _ => hne (eq_of_beq e)))
    refine wpAny_ite ?_
    split
    · exact wpAny_pure (wpAny_pure (h false fun e => nomatch e))
    · rename_i hpq
      have hpq : p = q := by simpa using hpq
      refine wpAny_bind (looks_notTold hb _ _ _ _ (fun _ _ e => e) ?_)
      rw [if_neg Bool.false_ne_true]
      refine wpAny_bind (looks_notTold hb _ _ _ _ (fun _ _ e => e) ?_)
      rw [if_neg Bool.false_ne_true]
      exact wpAny_bind (wpAny_rule (wpAny_bind (wpAny_askSetting (wpAny_pure (wpAny_pure (h _ fun _ => hpq))))))
end
end Mine
end
section
open PySem PySem.W PyProof.Rows PyProof.V PySem.Spec PySem.Calls
set_option Elab.async false
set_option maxRecDepth 100000
namespace Mine
/-! a for with an else that is never reached -/
section
variable {prog : Program} {w : World} {A : Around} {E : Value → Shared → Prop} {s : Shared} {env : Env} {h₀ : Heap} {target : PySem.Expr} {body orelse : List Stmt} {Q : Flow → Shared → Prop}
theorem loop_else {R : Result → Shared → Prop} {I : Addr} {fp wr : List Addr} {n : Nat} {P Md : Nat → Value → Heap → Prop} {St : Nat → Heap → Prop} {m : Str → Option Value} {news : List (Addr × Obj)} (W : KTurns prog w A target I fp wr n P Md St)
    (hLf : env.locals ∉ fp) (hwr : ∀ b ∈ wr, h₀.get? b = none) (hnw : ∀ p ∈ news, p.1 ∉ wr) (hst : St 0 s.heap) (F : Fr h₀ env.locals s.heap m) (N : News h₀ env.locals s.heap news)
    (J : Nat → (Str → Option Value) → List (Addr × Obj) → Prop) (h0 : J 0 m news)
    (step : ∀ i v m₁ news₁ h₁ tk₁ own, i < n → P i v h₁ → J i m₁ news₁ → (∀ p ∈ news₁, p.1 ∉ wr) → (∀ p ∈ own, p.1 ∈ fp) → (∀ p ∈ own, h₁.get? p.1 = some p.2) → (∀ b ∈ fp, h₀.get? b = none → ∀ o, h₁.get? b = some o → (b, o) ∈ own) → St (i + 1) h₁ →
      Fr h₀ env.locals h₁ m₁ → News h₀ env.locals h₁ (own ++ news₁) →
      wpAny (model prog w) A (assign target env v) (fun _ s₂ => wpAny (model prog w) A (execs body env)
        (LoopStepV h₀ env.locals wr own (J (i + 1)) { s with heap := h₁, toks := tk₁ } (fun v s' => R (.ok (.ret v)) s') fun s' => R (.ok .next) s') (notedBy (model prog w) A env fun e s' => R (.error e) s') s₂) (notedBy (model prog w) A env fun e s' => R (.error e) s') { s with heap := h₁, toks := tk₁ })
    (never : ∀ m' news', ¬ J n m' news') :
    codeAny (model prog w) A (.forLoop target (.ref I) body orelse env) R s := by
  have hLw : env.locals ∉ wr := fun h => hLf (W.sub _ h)
  have old : ∀ b o, h₀.get? b = some o → b ∉ wr := fun b o e hb => by rw [hwr b hb] at e; cases e
  refine codeAny_forLoop_any
    (fun k s' => ∃ h' tk m' news' i, s' = { s with heap := h', toks := tk } ∧ St i h' ∧ Fr h₀ env.locals h' m' ∧ News h₀ env.locals h' news' ∧ (∀ p ∈ news', p.1 ∉ wr) ∧ J i m' news' ∧ i ≤ n ∧ k = n + 1 - i) ?_ (n + 1)
    ⟨s.heap, s.toks, m, news, 0, rfl, hst, F, N, hnw, h0, Nat.zero_le _, rfl⟩
  rintro k s' ⟨h', tk, m', news', i, rfl, hst', F', N', hnw', hJ, hi, rfl⟩
  have hlt : i < n := by
    refine Nat.lt_of_le_of_ne hi fun e => ?_
    subst e
    exact never _ _ hJ
  refine W.item i _ _ _ hlt hst' fun v h₁ tk₁ hMd hk₁ => ?_
  refine W.go i v _ _ _ hMd fun h₂ hP hst₂ hk₂ => ?_
  have hk : ∀ b o, b ∉ wr → h'.get? b = some o → h₂.get? b = some o := fun b o hb x => hk₂ b o hb (hk₁ b o hb x)
  have F₂ : Fr h₀ env.locals h₂ m' := ⟨F'.ns.at' fun o e => hk _ o hLw e, fun b o e => hk b o (old b o e) (F'.keep b o e), F'.above⟩
  have N₂ : News h₀ env.locals h₂ news' := fun p hp => ⟨hk _ _ (hnw' p hp) (N' p hp).1, (N' p hp).2⟩
  have Nown : News h₀ env.locals h₂ (PyProof.Rows.ownOf h₀ fp h₂) := news_ownOf hLf
  refine wpAny_mono (step i v m' news' h₂ tk₁ (PyProof.Rows.ownOf h₀ fp h₂) hlt hP hJ hnw' ownOf_sub (fun p hp => (Nown p hp).1) (fun b hb hn o e => mem_ownOf hb hn e) hst₂ F₂ (Nown.append N₂)) (fun _ s₂ h₂' => wpAny_mono h₂' (fun f s₃ h₃ => ?_) fun _ _ e => e) fun _ _ e => e
  have go : (∃ h' tk m₂ news₂, s₃ = { s with heap := h', toks := tk } ∧ Fr h₀ env.locals h' m₂ ∧ News h₀ env.locals h' (PyProof.Rows.ownOf h₀ fp h₂ ++ news₂) ∧ (∀ p ∈ news₂, p.1 ∉ wr) ∧ J (i + 1) m₂ news₂) →
      ∃ k', k' < n + 1 - i ∧ ∃ h' tk m' news' i, s₃ = { s with heap := h', toks := tk } ∧ St i h' ∧ Fr h₀ env.locals h' m' ∧ News h₀ env.locals h' news' ∧ (∀ p ∈ news', p.1 ∉ wr) ∧ J i m' news' ∧ i ≤ n ∧ k' = n + 1 - i := by
    rintro ⟨h₃', tk₃, m₂, news₂, rfl, F₃, N₃, ha₃, hJ₃⟩
    refine ⟨n + 1 - (i + 1), by grind, h₃', tk₃, m₂, news₂, i + 1, rfl, ?_, F₃, N₃.right, ha₃, hJ₃, hlt, rfl⟩
    refine W.frame _ _ _ hst₂ fun b hb o e => ?_
    cases hn : h₀.get? b with
    | some o₀ =>
      have : o₀ = o := by have q := F₂.keep b o₀ hn; rw [e] at q; exact (Option.some.inj q).symm
      exact this ▸ F₃.keep b o₀ hn
    | none => exact (N₃ _ (List.mem_append_left _ (mem_ownOf hb hn e))).1
  cases f with
  | ret v => exact h₃
  | brk => exact h₃
  | cont => exact go h₃.2
  | next => exact go h₃.2
def TurnsElse (prog : Program) (w : World) (A : Around) (h₀ : Heap) (env : Env) (target : PySem.Expr) (body : List Stmt) (Q : Flow → Shared → Prop) (E : Value → Shared → Prop) (it : Value) (s₂ : Shared) : Prop :=
  ∃ (I : Addr) (fp wr : List Addr) (n : Nat) (P Md : Nat → Value → Heap → Prop) (St : Nat → Heap → Prop) (m : Str → Option Value) (news : List (Addr × Obj)) (J : Nat → (Str → Option Value) → List (Addr × Obj) → Prop),
    it = .ref I ∧ KTurns prog w A target I fp wr n P Md St ∧ env.locals ∉ fp ∧ (∀ b ∈ wr, h₀.get? b = none) ∧ (∀ p ∈ news, p.1 ∉ wr) ∧ St 0 s₂.heap ∧ Fr h₀ env.locals s₂.heap m ∧ News h₀ env.locals s₂.heap news ∧ J 0 m news ∧
    (∀ i v m₁ news₁ h₁ tk₁ own, i < n → P i v h₁ → J i m₁ news₁ → (∀ p ∈ news₁, p.1 ∉ wr) → (∀ p ∈ own, p.1 ∈ fp) → (∀ p ∈ own, h₁.get? p.1 = some p.2) → (∀ b ∈ fp, h₀.get? b = none → ∀ o, h₁.get? b = some o → (b, o) ∈ own) → St (i + 1) h₁ →
      Fr h₀ env.locals h₁ m₁ → News h₀ env.locals h₁ (own ++ news₁) →
      wpAny (model prog w) A (assign target env v) (fun _ s₃ => wpAny (model prog w) A (execs body env)
        (LoopStepV h₀ env.locals wr own (J (i + 1)) { s₂ with heap := h₁, toks := tk₁ } (fun v s' => Q (.ret v) s') fun s' => Q .next s') E s₃) E { s₂ with heap := h₁, toks := tk₁ }) ∧
    ∀ m' news', ¬ J n m' news'
theorem For_else {iter : PySem.Expr} {pos : Pos} {m : Str → Option Value} (_F : Fr h₀ env.locals s.heap m)
    (h : wpAny (model prog w) A (eval iter env) (fun xv s₁ => wpAny (model prog w) A (pyIter xv) (fun it s₂ => TurnsElse prog w A h₀ env target body Q E it s₂) E s₁) E s)
    (hs : ∀ x, foldedSetIterable iter env x = pure x := by intro _; rfl)
    (hE : PassesOwn (model prog w) A env E := by passes_own) :
    wpAny (model prog w) A (exec (.For target iter body orelse pos) env) Q E s := by
  refine wpAny_For (wpAny_mono h (fun xv s₁ h₁ => wpAny_mono h₁ (fun it s₂ h₂ => ?_) fun _ _ e => e) fun _ _ e => e) hs
  obtain ⟨I, fp, wr, n, P, Md, St, m, news, J, rfl, W, hLf, hwr, hnw, hst, F, N, h0, step, hQ⟩ := h₂
  exact loop_else (R := fun r s' => match r with | .ok f => Q f s' | .error e => cameBackBy (model prog w) A env E e s') W hLf hwr hnw hst F N J h0
    (fun i v m₁ news₁ h₁ tk₁ own a b c d e f g st F₁ N₁ => wpAny_mono (step i v m₁ news₁ h₁ tk₁ own a b c d e f g st F₁ N₁) (fun _ _ x => wpAny_passesOwn hE x) hE) hQ
/-- the end of a turn of a search -/
def SeekEnd (h₀ : Heap) (L : Addr) (m₀ : Str → Option Value) (st : List Str) (news : List (Addr × Obj)) (go : Prop) (e it : Addr) (oe oi : Obj) (s : Shared) (Q : Flow → Shared → Prop) (f : Flow) (s₂ : Shared) : Prop :=
  match f with
  | .ret v => Q (.ret v) s₂
  | .brk => Q .next s₂
  | _ => go ∧ ∃ h' tk m', s₂ = { s with heap := h', toks := tk } ∧ Fr h₀ L h' m' ∧ News h₀ L h' ((e, oe) :: (it, oi) :: news) ∧ Keeps st m₀ m'
theorem enum_seek {elts : List PySem.Expr} {k : Nat} {pos : Pos} {D : Addr} {vs : List Value} {nn : Nat} {m₀ : Str → Option Value} {news : List (Addr × Obj)} (st : List Str) (kk : Nat) (hkk : kk < vs.length)
    (hh : A.handled = none) (F : Fr h₀ env.locals s.heap m₀) (N : News h₀ env.locals s.heap news) (hm : (D, W.listOf vs.toArray nn) ∈ news)
    (turn : ∀ (i : Nat) T x t m₁ e it oe oi h tk, i ≤ kk → vs[i]? = some x → Keeps st m₀ m₁ → Fr h₀ env.locals h m₁ → News h₀ env.locals h ((e, oe) :: (it, oi) :: news) → IsTup h T #[.int (i : Int) t, x] →
      wpAny (model prog w) A (assign (.Tuple elts k pos) env (.ref T)) (fun _ s₃ => wpAny (model prog w) A (execs body env) (SeekEnd h₀ env.locals m₀ st news (i < kk) e it oe oi { s with heap := h, toks := tk } Q) E s₃) E { s with heap := h, toks := tk }) :
    wpAny (model prog w) A (call (.type "enumerate") [.ref D]) (fun xv s₁ => wpAny (model prog w) A (pyIter xv) (fun it s₂ => TurnsElse prog w A h₀ env (.Tuple elts k pos) body Q E it s₂) E s₁) E s := by
  have hax := N _ hm
  have hl : s.heap.IsList D vs.toArray := ⟨_, hax.1, rfl, nn, rfl⟩
  have hlt : D < s.heap.objs.size := Heap.lt_size hax.1
  have hLs : env.locals < s.heap.objs.size := F.ns.lt
  have new : ∀ a, s.heap.objs.size ≤ a → h₀.get? a = none := fun a ha => by
    cases e : h₀.get? a with
    | none => rfl
    | some o' => exact absurd (Heap.lt_size (F.keep a o' e)) (Nat.not_lt.mpr ha)
  refine call_enumerate_list hl fun h' hE hI hsz hk => ?_
  refine wpAny_pyIter_enum hE ?_
  have hne1 : s.heap.objs.size + 1 ≠ s.heap.objs.size := Nat.succ_ne_self _
  have hDe : D ≠ s.heap.objs.size + 1 := Nat.ne_of_lt (Nat.lt_succ_of_lt hlt)
  have hDi : D ≠ s.heap.objs.size := Nat.ne_of_lt hlt
  have KT := KTurns.ofWalksU (elts := elts) (k := k) (pos := pos) (WalksT.enumerate (prog := prog) (w := w) (A := A) hh (s.heap.objs.size + 1) s.heap.objs.size D hne1 hDe hDi vs.toArray).toU
  have hwr : ∀ b ∈ [s.heap.objs.size + 1, s.heap.objs.size], h₀.get? b = none := fun b hb => by
    rcases List.mem_cons.mp hb with rfl | hb
    · exact new _ (Nat.le_succ _)
    · rw [List.mem_singleton.mp hb]; exact new _ (Nat.le_refl _)
  have offN : ∀ p ∈ news, p.1 ∉ [s.heap.objs.size + 1, s.heap.objs.size] := fun p hp hb => by
    have := Heap.lt_size (N p hp).1
    rcases List.mem_cons.mp hb with e | hb
    · rw [e] at this; exact Nat.lt_irrefl _ (Nat.lt_of_succ_lt this)
    · rw [List.mem_singleton.mp hb] at this; exact Nat.lt_irrefl _ this
  have hst : ((∃ old, IsEnum h' (s.heap.objs.size + 1) s.heap.objs.size ((0 : Nat) : Int) old) ∧ h'.IsListIter s.heap.objs.size D 0 ∧ h'.IsList D vs.toArray) := ⟨⟨_, hE⟩, hI, hl.at fun o e => hk _ o e⟩
  refine ⟨s.heap.objs.size + 1, _, _, vs.toArray.size, _, _, _, m₀, news, (fun i m nws => i ≤ kk ∧ Keeps st m₀ m ∧ nws = news), rfl, KT, ?_, hwr, offN, hst, F.keeps hk, N.grown hk, ⟨Nat.zero_le _, fun _ _ => rfl, rfl⟩, ?_, ?_⟩
  · intro hb
    rcases List.mem_cons.mp hb with e | hb
    · rw [e] at hLs; exact Nat.lt_irrefl _ (Nat.lt_of_succ_lt hLs)
    · rcases List.mem_cons.mp hb with e | hb
      · rw [e] at hLs; exact Nat.lt_irrefl _ hLs
      · exact hax.2.1 (List.mem_singleton.mp hb).symm
  · rintro i v m₁ news₁ h₁ tk₁ own hin ⟨T, vals, rfl, ⟨t, x, hx, rfl⟩, hT⟩ ⟨hik, hk₁, rfl⟩ hoff hown hget hfp ⟨⟨old, hE₁⟩, ⟨oi, hoi, hi2⟩, hl₁⟩ F₁ N₁
    obtain ⟨oe, hoe⟩ : ∃ oe, h₁.get? (s.heap.objs.size + 1) = some oe := ⟨_, hE₁⟩
    have me : (s.heap.objs.size + 1, oe) ∈ own := hfp _ (List.mem_cons.mpr (.inl rfl)) (new _ (Nat.le_succ _)) _ hoe
    have mi : (s.heap.objs.size, oi) ∈ own := hfp _ (List.mem_cons.mpr (.inr (List.mem_cons.mpr (.inl rfl)))) (new _ (Nat.le_refl _)) _ hoi
    have hD₁ : h₁.get? D = some (W.listOf vs.toArray nn) := (N₁ _ (List.mem_append_right _ hm)).1
    have N₂ : News h₀ env.locals h₁ ((s.heap.objs.size + 1, oe) :: (s.heap.objs.size, oi) :: news₁) := fun p hp => by
      rcases List.mem_cons.mp hp with rfl | hp
      · exact N₁ _ (List.mem_append_left _ me)
      · rcases List.mem_cons.mp hp with rfl | hp
        · exact N₁ _ (List.mem_append_left _ mi)
        · exact N₁ _ (List.mem_append_right _ hp)
    refine wpAny_mono (turn i T x t m₁ (s.heap.objs.size + 1) s.heap.objs.size oe oi h₁ tk₁ hik (by simpa using hx) hk₁ F₁ N₂ hT) (fun _ s₃ q => wpAny_mono q (fun f s₂ p => ?_) fun _ _ e => e) fun _ _ e => e
    have fin : (i < kk ∧ ∃ h' tk m', s₂ = { s with heap := h', toks := tk } ∧ Fr h₀ env.locals h' m' ∧ News h₀ env.locals h' ((s.heap.objs.size + 1, oe) :: (s.heap.objs.size, oi) :: news₁) ∧ Keeps st m₀ m') →
        LoopStepU h₀ env.locals [s.heap.objs.size + 1, s.heap.objs.size] own (fun m nws => i + 1 ≤ kk ∧ Keeps st m₀ m ∧ nws = news₁) { s with heap := h₁, toks := tk₁ } .next s₂ := by
      rintro ⟨hlt', h₃, tk₃, m₃, rfl, F₃, N₃, hk₃⟩
      refine ⟨rfl, h₃, tk₃, m₃, news₁, rfl, F₃, fun p hp => ?_, hoff, hlt', hk₃, rfl⟩
      rcases List.mem_append.mp hp with h | h
      · have hg : h₁.get? p.1 = some p.2 := hget p h
        rcases List.mem_cons.mp (hown p h) with e | e
        · rw [e, hoe] at hg
          have : p = (s.heap.objs.size + 1, oe) := Prod.ext e (Option.some.inj hg).symm
          rw [this]; exact N₃ _ (.head _)
        · rcases List.mem_cons.mp e with e | e
          · rw [e, hoi] at hg
            have : p = (s.heap.objs.size, oi) := Prod.ext e (Option.some.inj hg).symm
            rw [this]; exact N₃ _ (.tail _ (.head _))
          · have e' := List.mem_singleton.mp e
            rw [e', hD₁] at hg
            have : p = (D, W.listOf vs.toArray nn) := Prod.ext e' (Option.some.inj hg).symm
            rw [this]; exact N₃ _ (.tail _ (.tail _ hm))
      · exact N₃ p (.tail _ (.tail _ h))
    cases f with
    | ret v => exact .ret p
    | brk => exact .brk p
    | next => exact .next (fin p)
    | cont => exact .cont (fin p)
  · rintro m' nws ⟨h, _⟩
    have : vs.toArray.size = vs.length := by simp
    lia
end
end Mine
end
section
open PySem PySem.W PyProof.Rows PySem.Spec PySem.Calls
set_option Elab.async false
set_option maxRecDepth 100000
namespace Mine
def ixStored : List Str := [Str.ofString "i", Str.ofString "j"]
theorem keeps_ix {m₀ m : Str → Option Value} (h : Keeps ixStored m₀ m) : m = fun y => if y = Str.ofString "i" then m y else if y = Str.ofString "j" then m y else m₀ y := by
  funext y
  by_cases hy : y ∈ ixStored
  · unfold ixStored at hy
    simp only [List.mem_cons, List.not_mem_nil, or_false] at hy
    rcases hy with rfl | rfl <;> simp
  · rw [h y hy]
    unfold ixStored at hy
    simp only [List.mem_cons, List.not_mem_nil, or_false, not_or] at hy
    rw [if_neg hy.1, if_neg hy.2]
theorem seek_out {h₀ h : Heap} {L : Addr} {m : Str → Option Value} {news : List (Addr × Obj)} {p q : Addr × Obj} {kk : Nat} {tt : Tok} {s : Shared} {tk : Nat} {Q : Value → Shared → Prop}
    (hret : ∀ (v : Value) (tl : List (Addr × Obj)) (h' : Heap) (tk' : Nat), Fr h₀ L h' m → News h₀ L h' (tl ++ news) → (∀ p ∈ news, ∀ q ∈ tl, p.1 ≠ q.1) → (tl = [] ∧ ∃ t, v = .int (kk : Int) t) → Q v { s with heap := h', toks := tk' })
    (F : Fr h₀ L h m) (N : News h₀ L h (p :: q :: news)) : Q (.int (kk : Int) tt) { s with heap := h, toks := tk } :=
  hret _ [] _ _ F (fun p hp => N p (.tail _ (.tail _ hp))) (fun _ _ _ h => nomatch h) ⟨rfl, _, rfl⟩
local macro_rules | `(tactic| k_room) => `(tactic| ktr_room)
local macro_rules | `(tactic| walk_at "exec For Tuple Call cons cons") => `(tactic| (k_here; k_dflt (refine' For_else ?k1 ?_; (case k1 => k_asm))))
local macro_rules | `(tactic| walk_at "call type:enumerate") => `(tactic| ((with_reducible show wpAny _ _ (call (Value.type _) [Value.ref _]) _ _ _); refine stop_of ?_))
local macro_rules | `(tactic| walk_at "compareOp Is int int") => `(tactic| (k_here; (with_reducible show wpAny _ _ (compareOp CmpOp.Is (Value.int _ _) (Value.int _ _)) _ _ _); k_extra "Tf1"; intro b8 hb8))
local macro_rules | `(tactic| walk_at "execs cons") => `(tactic| (k_here; k_extra "Tf2"; intro m9 F9 M9; (try dsimp only)))
local macro_rules | `(tactic| walk_at "execs cons") => `(tactic| (k_here; (with_reducible refine gen_toks0 ?_); intro tk8))
set_option maxHeartbeats 8000000 in
theorem index_c (w : World) (mean : ExcName → Option Value) (mg mb : Str → Option Value) (news : List (Addr × Obj)) (D : Addr) (vs : List Value) (nn : Nat) (x : Int) (u : Tok) (kk : Nat) (hm : (D, W.listOf vs.toArray nn) ∈ news) (hkk : kk < vs.length) (hu : u ≠ 0)
  (hv : ∀ (i : Nat) (v : Value), vs[i]? = some v → ∃ c t, v = .int c t ∧ t ≠ 0 ∧ (t = u → c = x) ∧ (c = x ↔ i = kk)) :
  Ctr w mean mg mb 126 1 news [.ref D, .int x u] (fun v tl => tl = [] ∧ ∃ t, v = .int (kk : Int) t) := by
  dsimp only [Ctr]
  (k_with "Tf1" => (k_dflt (refine' is_ints ?k1 ?k2 ?k3 ?k4 ?_; (case k1 => exact looks_nsIn (Frag.In.keeps (by k_asm) (Fr.keep (by k_asm))) rfl); (case k2 => assumption); (case k3 => assumption); (case k4 => assumption))))
  (k_with "Tf2" => ((rename Fr _ _ _ _ => lF); (fail_if_success (have := mk_of lF (by assumption))); (with_reducible refine fold_m lF ?_); clear lF))
  w_top off
  k_fill
  intros; rename_i hret
  refine wpAny_call ?_
  k_dflt cell_enter
  k_steps
  unfold Stop
  k_dflt (refine' enum_seek ixStored kk hkk ?h ?F ?N hm ?_)
  (case h => exact rfl)
  (case F => k_asm)
  (case N => k_asm)
  intro i T v t m₁ e it oe oi h tk hik hvi hk F₁ N₁ hT
  obtain ⟨c, tc, rfl, htc, htu, hcx⟩ := hv i v hvi
  rw [keeps_ix hk] at F₁
  k_steps
  · have e1 : c = x := (by assumption : _ = true → c = x) (by assumption)
    obtain rfl : i = kk := hcx.mp e1
    dsimp only [SeekEnd]
    k_steps
    exact seek_out hret (by k_asm) (by k_asm)
  · obtain rfl : i = kk := hcx.mp (by assumption)
    dsimp only [SeekEnd]
    k_steps
    exact seek_out hret (by k_asm) (by k_asm)
  · refine ⟨Nat.lt_of_le_of_ne hik fun q => absurd (hcx.mpr q) (by assumption), _, _, _, rfl, by k_asm, by k_asm, ?_⟩
    repeat (first | with_reducible exact keeps_refl _ _ | refine keeps_set ?_ (by decide))
end Mine
end
section
open PySem PySem.W PyProof.Rows PySem.Spec PySem.Calls
set_option Elab.async false
set_option maxRecDepth 100000
namespace Mine
theorem keeps_gen {st : List Str} {m₀ m : Str → Option Value} (h : Keeps st m₀ m) : m = fun y => st.foldr (fun a r => if y = a then m y else r) (m₀ y) := by
  funext y
  by_cases hy : y ∈ st
  · clear h
    induction st with
    | nil => exact absurd hy List.not_mem_nil
    | cons a r ih =>
      by_cases e : y = a
      · rw [List.foldr_cons, if_pos e]
      · rw [List.foldr_cons, if_neg e]
        exact ih ((List.mem_cons.mp hy).resolve_left e)
  · rw [h y hy]
    clear h
    induction st with
    | nil => rfl
    | cons a r ih =>
      rw [List.foldr_cons, if_neg fun e : y = a => hy (by rw [e]; exact .head _)]
      exact ih fun h => hy (.tail _ h)
def sLevel : Str := Str.ofString "level"
def lawA : List Str := [Str.ofString "level", Str.ofString "place", Str.ofString "wire", Str.ofString "figure"]
def lawP : List Str := [Str.ofString "place", Str.ofString "wire"]
def lawF : List Str := [Str.ofString "wire", Str.ofString "figure"]
def lawB : List Str := [Str.ofString "bad", Str.ofString "wire"]
theorem keeps_lv {m₀ m : Str → Option Value} (h : Keeps lawA m₀ m) : m = fun y => if y = Str.ofString "level" then m y else if y = Str.ofString "place" then m y else if y = Str.ofString "wire" then m y else if y = Str.ofString "figure" then m y else m₀ y := keeps_gen h
theorem keeps_wf {m₀ m : Str → Option Value} (h : Keeps lawF m₀ m) : m = fun y => if y = Str.ofString "wire" then m y else if y = Str.ofString "figure" then m y else m₀ y := keeps_gen h
theorem keeps_pw {m₀ m : Str → Option Value} {v : Value} (h : Keeps lawP m₀ m) (hv : m (Str.ofString "place") = some v) : m = fun y => if y = Str.ofString "place" then some v else if y = Str.ofString "wire" then m y else m₀ y := by
  refine (keeps_gen h).trans (funext fun y => ?_)
  show (if y = Str.ofString "place" then m y else _) = _
  by_cases e : y = Str.ofString "place"
  · rw [if_pos e, if_pos e, e, hv]
  · rw [if_neg e, if_neg e]; rfl
theorem keeps_bw {m₀ m : Str → Option Value} {v : Value} (h : Keeps lawB m₀ m) (hv : m (Str.ofString "bad") = some v) : m = fun y => if y = Str.ofString "bad" then some v else if y = Str.ofString "wire" then m y else m₀ y := by
  refine (keeps_gen h).trans (funext fun y => ?_)
  show (if y = Str.ofString "bad" then m y else _) = _
  by_cases e : y = Str.ofString "bad"
  · rw [if_pos e, if_pos e, e, hv]
  · rw [if_neg e, if_neg e]; rfl
/-! plain: the place of a level -/
def placeI (row : List Int) (lev : Int) : Nat → Int
  | 0 => 0
  | i + 1 => if lev ≤ row.getD i 0 then Builtin.bitOr (placeI row lev i) (1 * 2 ^ i) else placeI row lev i
theorem placeI_5 {row : List Int} (h : row.length = 5) (lev : Int) : placeI row lev 5 = ((placeN (row.map (ge3 lev)) : Nat) : Int) := by
  obtain ⟨a, b, c, d, e, rfl⟩ := list5 h
  simp only [placeI, List.getD_cons_zero, List.getD_cons_succ, List.map_cons, List.map_nil, ge3]
  by_cases h1 : lev ≤ a <;> by_cases h2 : lev ≤ b <;> by_cases h3 : lev ≤ c <;> by_cases h4 : lev ≤ d <;> by_cases h5 : lev ≤ e <;> simp only [h1, h2, h3, h4, h5, if_true, if_false, decide_true, decide_false] <;> decide
def badI (ws : List Int) : Nat → Int
  | 0 => 0
  | i + 1 => Builtin.bitOr (badI ws i) (Builtin.bitAnd (ws.getD i 0) (Builtin.bitNot (ws.getD (i + 1) 0)))
theorem badI_4 (ws : List Int) : badI ws 4 = badW ws := rfl
theorem fig_bit {x : Int} (hx : Wd32 x) (p : Nat) : Builtin.bitAnd (x.fdiv (2 ^ p)) 1 = (b2n (bt p x) : Int) := by
  have h0 := hx.1
  have e : x.fdiv (2 ^ p) = ((x.toNat / 2 ^ p : Nat) : Int) := by
    have hp : (0 : Int) ≤ 2 ^ p := by
      have : ((2 ^ p : Nat) : Int) = (2 : Int) ^ p := by simp
      rw [← this]; exact Int.natCast_nonneg _
    rw [Int.fdiv_eq_ediv_of_nonneg _ hp]
    have : x = ((x.toNat : Nat) : Int) := by lia
    rw [this]; simp
  rw [e, and_nn (Int.natCast_nonneg _) (by decide)]
  show (((x.toNat / 2 ^ p) &&& 1 : Nat) : Int) = _
  rw [Nat.and_one_is_mod]
  unfold bt
  have : (x.toNat / 2 ^ p) % 2 = b2n (x.toNat.testBit p) := by
    unfold b2n
    rw [Nat.testBit_eq_decide_div_mod_eq]
    rcases Nat.mod_two_eq_zero_or_one (x.toNat / 2 ^ p) with h | h <;> simp [h]
  rw [this]
theorem b2n_one (b : Bool) : ((b2n b : Nat) : Int) = 1 ↔ b = true := by cases b <;> simp [b2n]
/-- one wire of one level, as the law asks it -/
theorem fig_ok {bs : List Box} {row : List Int} (hg : ∀ b ∈ bs, GoodBox b) (hl : row.length = 5) (lev : Int) (i : Nat) (hi : i < 5) :
    (Builtin.bitAnd (((bs.foldl stepW words0).getD i 0).fdiv (2 ^ (placeI row lev 5).toNat)) 1 = 1) ↔ lev ≤ (bs.foldl stepR row).getD i 0 := by
  have hw := (words0_ok.fold hg).1
  have h1 : Wd32 ((bs.foldl stepW words0).getD i 0) := hw.wd _ (getD_mem (by rw [hw.len]; exact hi))
  rw [placeI_5 hl, Int.toNat_natCast, fig_bit h1, b2n_one, wire_at hg hl (zero_one_place hg hl lev) i hi]
  unfold ge3
  exact decide_eq_true_iff
section
variable {prog : Program} {w : World} {A : Around} {E : Value → Shared → Prop} {s : Shared} {env : Env} {h₀ : Heap} {target : PySem.Expr} {body : List Stmt} {Q : Flow → Shared → Prop} {news : List (Addr × Obj)} {m₀ : Str → Option Value}
def JA (news : List (Addr × Obj)) (m₀ : Str → Option Value) (_ : Nat) (m : Str → Option Value) (nws : List (Addr × Obj)) : Prop := Keeps lawA m₀ m ∧ nws = news
theorem level_loop {Rw : Addr} {rvs : List Value} {rn : Nat} {row : List Int} (hm : (Rw, W.listOf rvs.toArray rn) ∈ news) (hi : IntsAre rvs row) (hh : A.handled = none) (F : Fr h₀ env.locals s.heap m₀) (N : News h₀ env.locals s.heap news)
    (turn : ∀ i lev t m₁ I oI h tk, lev ∈ row → Keeps lawA m₀ m₁ → Fr h₀ env.locals h m₁ → News h₀ env.locals h ((I, oI) :: news) → (∀ p ∈ news, p.1 ≠ I) →
      wpAny (model prog w) A (assign target env (.int lev t)) (fun _ s₃ => wpAny (model prog w) A (execs body env) (BoxEnd h₀ env.locals (JA news m₀ (i + 1)) I oI { s with heap := h, toks := tk } Q) E s₃) E { s with heap := h, toks := tk })
    (done : ∀ m₁ h tk, Keeps lawA m₀ m₁ → Fr h₀ env.locals h m₁ → News h₀ env.locals h news → Q .next { s with heap := h, toks := tk }) :
    wpAny (model prog w) A (pyIter (.ref Rw)) (fun it s₂ => TurnsAt prog w A h₀ env target body Q E it s₂) E s := by
  refine box_loop (vs := rvs) (nn := rn) (JA news m₀) hh F N ?_ ⟨fun _ _ => rfl, rfl⟩ ?_ ?_
  · rintro i m nws ⟨_, rfl⟩; exact hm
  · rintro i v m₁ nws I oI h tk hv ⟨hk, rfl⟩ F₁ N₁ hoff
    have hlt : i < row.length := by rw [← hi.length]; exact (List.getElem?_eq_some_iff.mp hv).1
    obtain ⟨t, hx⟩ := hi.get i (row[i]'hlt) (List.getElem?_eq_getElem hlt)
    have hv' : v = .int row[i] t := by rw [hx] at hv; exact (Option.some.inj hv).symm
    subst hv'
    exact turn i _ t m₁ I oI h tk (List.getElem_mem hlt) hk F₁ N₁ hoff
  · rintro m₁ nws h tk ⟨hk, rfl⟩ F₁ N₁
    exact done m₁ h tk hk F₁ N₁
theorem level_end {I L : Addr} {oI : Obj} {m' : Str → Option Value} {i : Nat} {h' : Heap} {tk : Nat} (F : Fr h₀ L h' m') (N : News h₀ L h' ((I, oI) :: news)) (hk : Keeps lawA m₀ m') (h2 : ∀ p ∈ news, p.1 ≠ I) :
    BoxEnd h₀ L (JA news m₀ (i + 1)) I oI s Q .next { s with heap := h', toks := tk } := ⟨h', tk, m', news, rfl, F, N, h2, hk, rfl⟩
/-- a loop over a range that keeps a relation on the names and makes nothing that lasts -/
def JN (news : List (Addr × Obj)) (K : Nat → (Str → Option Value) → Prop) (i : Nat) (m : Str → Option Value) (nws : List (Addr × Obj)) : Prop := K i m ∧ nws = news
theorem name_loop {r : Addr} {n : Nat} {b₀ : Int} {t₀ u₀ v₀ : Tok} (K : (Str → Option Value) → Nat → (Str → Option Value) → Prop) (hr : IsRange s.heap r 0 b₀ 1 t₀ u₀ v₀) (hgo : ∀ it v, letOwnedTupleGo target it v = pure ()) (hsmall : Builtin.Range.small 0 b₀ 1 = true) (hn : Builtin.Range.rangeSize 0 b₀ 1 = (n : Int))
    (hh : A.handled = none) (F : Fr h₀ env.locals s.heap m₀) (N : News h₀ env.locals s.heap news) (h0 : K m₀ 0 m₀)
    (turn : ∀ (i : Nat) t m₁ I oI h tk, i < n → K m₀ i m₁ → Fr h₀ env.locals h m₁ → News h₀ env.locals h ((I, oI) :: news) → (∀ p ∈ news, p.1 ≠ I) →
      wpAny (model prog w) A (assign target env (.int (i : Int) t)) (fun _ s₃ => wpAny (model prog w) A (execs body env) (BoxEnd h₀ env.locals (JN news (K m₀) (i + 1)) I oI { s with heap := h, toks := tk } Q) E s₃) E { s with heap := h, toks := tk })
    (done : ∀ m₁ h tk, K m₀ n m₁ → Fr h₀ env.locals h m₁ → News h₀ env.locals h news → Q .next { s with heap := h, toks := tk }) :
    wpAny (model prog w) A (pyIter (.ref r)) (fun it s₂ => TurnsAt prog w A h₀ env target body Q E it s₂) E s := by
  refine range_loop (n := n) (JN news (K m₀)) hh hgo hr hsmall hn F N ⟨h0, rfl⟩ ?_ ?_
  · rintro i t m₁ nws I oI h tk hin ⟨hk, rfl⟩ F₁ N₁ hoff
    exact turn i t m₁ I oI h tk hin hk F₁ N₁ hoff
  · rintro m₁ nws h tk ⟨hk, rfl⟩ F₁ N₁
    exact done m₁ h tk hk F₁ N₁
theorem name_end {I L : Addr} {oI : Obj} {m' : Str → Option Value} {K : Nat → (Str → Option Value) → Prop} {i : Nat} {h' : Heap} {tk : Nat} (F : Fr h₀ L h' m') (N : News h₀ L h' ((I, oI) :: news)) (hk : K (i + 1) m') (h2 : ∀ p ∈ news, p.1 ≠ I) :
    BoxEnd h₀ L (JN news K (i + 1)) I oI s Q .next { s with heap := h', toks := tk } := ⟨h', tk, m', news, rfl, F, N, h2, hk, rfl⟩
end
def KP (row : List Int) (lev : Int) (m₀ : Str → Option Value) (i : Nat) (m : Str → Option Value) : Prop := Keeps lawP m₀ m ∧ ∃ t, m (Str.ofString "place") = some (.int (placeI row lev i) t)
theorem kp_0 {row : List Int} {lev : Int} {m₀ : Str → Option Value} {t : Tok} (h : m₀ (Str.ofString "place") = some (.int 0 t)) : KP row lev m₀ 0 m₀ := ⟨fun _ _ => rfl, t, h⟩
def KF (m₀ : Str → Option Value) (_ : Nat) (m : Str → Option Value) : Prop := Keeps lawF m₀ m
def KB (ws : List Int) (m₀ : Str → Option Value) (i : Nat) (m : Str → Option Value) : Prop := Keeps lawB m₀ m ∧ ∃ t, m (Str.ofString "bad") = some (.int (badI ws i) t)
theorem kp_yes {row : List Int} {lev : Int} {m₀ m : Str → Option Value} {i : Nat} {t : Tok} (hk : Keeps lawP m₀ m) (h : lev ≤ row.getD (i : Int).toNat 0) (hm : m (Str.ofString "place") = some (.int (Builtin.bitOr (placeI row lev i) (1 * 2 ^ (i : Int).toNat)) t)) : KP row lev m₀ (i + 1) m := by
  refine ⟨hk, t, ?_⟩
  rw [hm]
  rw [Int.toNat_natCast] at h ⊢
  show _ = some (Value.int (if lev ≤ row.getD i 0 then Builtin.bitOr (placeI row lev i) (1 * 2 ^ i) else placeI row lev i) t)
  rw [if_pos h]
theorem kp_no {row : List Int} {lev : Int} {m₀ m : Str → Option Value} {i : Nat} {t : Tok} (hk : Keeps lawP m₀ m) (h : ¬ lev ≤ row.getD (i : Int).toNat 0) (hm : m (Str.ofString "place") = some (.int (placeI row lev i) t)) : KP row lev m₀ (i + 1) m := by
  refine ⟨hk, t, ?_⟩
  rw [hm]
  rw [Int.toNat_natCast] at h
  show _ = some (Value.int (if lev ≤ row.getD i 0 then Builtin.bitOr (placeI row lev i) (1 * 2 ^ i) else placeI row lev i) t)
  rw [if_neg h]
theorem placeI_nn {row : List Int} (h : row.length = 5) (lev : Int) : 0 ≤ placeI row lev 5 := by rw [placeI_5 h]; exact Int.natCast_nonneg _
theorem fig_no {x : Int} {P : Prop} [Decidable P] (h : x = 1 ↔ P) (e : ((x == 1) != decide P) = true) : False := by
  by_cases hp : P
  · rw [h.mpr hp, decide_eq_true hp] at e; exact absurd e (by decide)
  · have : (x == 1) = false := by
      rw [beq_eq_false_iff_ne]; exact fun q => hp (h.mp q)
    rw [this, decide_eq_false hp] at e; exact absurd e (by decide)
theorem kb_1 {ws : List Int} {m₀ m : Str → Option Value} {i : Nat} {t : Tok} (hk : Keeps lawB m₀ m) (hm : m (Str.ofString "bad") = some (.int (badI ws (i + 1)) t)) : KB ws m₀ (i + 1) m := ⟨hk, t, hm⟩
theorem kb_0 {ws : List Int} {m₀ : Str → Option Value} {t : Tok} (h : m₀ (Str.ofString "bad") = some (.int 0 t)) : KB ws m₀ 0 m₀ := ⟨fun _ _ => rfl, t, h⟩
end Mine
end
section
open PySem PySem.W PyProof.Rows PySem.Spec PySem.Calls
set_option Elab.async false
set_option maxRecDepth 100000
namespace Mine
theorem left_is {bs : List Box} {row n' : List Int} (hg : ∀ b ∈ bs, GoodBox b) (hl : row.length = 5) (h0 : badW (bs.foldl stepW words0) = 0) (hp : n'.Perm row) (ho : n'.Pairwise (fun a b => a ≤ b)) : bs.foldl stepR row = n' :=
  List.Perm.eq_of_pairwise (fun _ _ _ _ h1 h2 => Int.le_antisymm h1 h2) (good_end hg hl h0) ho ((foldR_perm hl hg).trans hp.symm)
theorem shown_not {bs : List Box} {k : Nat} {n' : List Int} (hg : ∀ b ∈ bs, GoodBox b) (hk : k < 32) (hb : bt k (badW (bs.foldl stepW words0)) = true) (ho : n'.Pairwise (fun a b => a ≤ b)) : bs.foldl stepR (spotRow k) ≠ n' := fun e => shown_bad hg hk hb (e ▸ ho)
section
variable {prog : Program} {w : World} {A : Around} {E : Value → Shared → Prop} {s : Shared} {h₀ : Heap} {L a b : Addr} {news tl : List (Addr × Obj)} {vs us : List Value} {ns ms row ws : List Int} {na nb : Nat} {Q : Value → Shared → Prop}
theorem eq_left {bx : Addr} {bvs : List Value} {nx : Nat} {bs : List Box} (N : News h₀ L s.heap news) (hl : (a, W.listOf vs.toArray na) ∈ news) (hl' : (b, W.listOf us.toArray nb) ∈ news) (hi : IntsAre vs ns) (hj : IntsAre us ms) (hu : A.units + 64 < cLine)
    (hB : BoxesAt tl bx bvs nx bs) (hr : Five row) (hws : ws = bs.foldl stepW words0) (hlf : ns = bs.foldl stepR row) (h0 : badW ws = 0) (hp : ms.Perm row) (ho : ms.Pairwise (fun a b => a ≤ b))
    (h : Q (.bool true) s) : wpAny (model prog w) A (compareOp .Eq (.ref a) (.ref b)) Q E s := by
  subst hws hlf
  exact eq_intsK (News.isList N hl) hi (News.isList N hl') hj hu (by rw [decide_eq_true (left_is hB.good hr.len h0 hp ho)]; exact h)
theorem ne_shown {bx : Addr} {bvs : List Value} {nx k : Nat} {bs : List Box} (N : News h₀ L s.heap news) (hl : (a, W.listOf vs.toArray na) ∈ news) (hl' : (b, W.listOf us.toArray nb) ∈ news) (hi : IntsAre vs ns) (hj : IntsAre us ms) (hu : A.units + 64 < cLine)
    (hB : BoxesAt tl bx bvs nx bs) (hws : ws = bs.foldl stepW words0) (hlf : ns = bs.foldl stepR (spotRow k)) (hk : k < 32) (hb : bt k (badW ws) = true) (ho : ms.Pairwise (fun a b => a ≤ b))
    (h : Q (.bool true) s) : wpAny (model prog w) A (compareOp .NotEq (.ref a) (.ref b)) Q E s := by
  subst hws hlf
  exact ne_intsK (News.isList N hl) hi (News.isList N hl') hj hu (by rw [decide_eq_false (shown_not hB.good hk hb ho)]; exact h)
theorem ne_same (N : News h₀ L s.heap news) (hl : (a, W.listOf vs.toArray na) ∈ news) (hl' : (b, W.listOf us.toArray nb) ∈ news) (hi : IntsAre vs ns) (hj : IntsAre us ms) (hu : A.units + 64 < cLine) (e : ns = ms)
    (h : Q (.bool false) s) : wpAny (model prog w) A (compareOp .NotEq (.ref a) (.ref b)) Q E s :=
  ne_intsK (News.isList N hl) hi (News.isList N hl') hj hu (by rw [decide_eq_true e]; exact h)
end
section
variable {w : World} {mean : ExcName → Option Value} {mg mb : Str → Option Value} {f : Addr} {k : Nat} {news : List (Addr × Obj)} {dp un : Nat} {gd : Option (List Code)} {cn : Str} {cs : Scope} {a : Addr} {ccd : Value} {cl : List (Str × Addr)} {outer : List Env} {A₀ : Around} {base h₀ : Heap} {L : Addr} {m : Str → Option Value} {s : Shared} {Q E : Value → Shared → Prop}
theorem index_use {D : Addr} {vs : List Value} {nn : Nat} {x : Int} {u : Tok} {kk : Nat} (hm : (D, W.listOf vs.toArray nn) ∈ news) (hkk : kk < vs.length) (hu0 : u ≠ 0)
    (hv : ∀ (i : Nat) (v : Value), vs[i]? = some v → ∃ c t, v = .int c t ∧ t ≠ 0 ∧ (t = u → c = x) ∧ (c = x ↔ i = kk)) (Bl : Below A₀ base outer h₀) (F : Fr h₀ L s.heap m) (X : (Mine.hd.heap_39 w.params).In h₀) (N : News h₀ L s.heap news)
    (Tp : Top Mine.hd.view_39 (looseW Mine.hd.view_39 [Str.ofString "ONE_THIRD", Str.ofString "ONE_SIXTH", Str.ofString "TWO_THIRD"]) mean mg mb h₀) (hk : cs.kind = .function) (hd : dp + 1 < recursionLimit) (hu : un + 8 * 1 + 200 < cLine)
    (ret : ∀ t h' tk', Fr h₀ L h' m → News h₀ L h' news → Q (.int (kk : Int) t) { s with heap := h', toks := tk' }) :
    wpAny (model Challenge.rw_pe0115_01.row.prog w) (ktrTop dp un gd cn cs L a ccd cl outer) (call (.ref 126) [.ref D, .int x u]) Q E s :=
  index_c w mean mg mb news D vs nn x u kk hm hkk hu0 hv _ _ _ _ _ _ _ _ _ _ _ _ _ _ _ _ _ Bl F X N Tp hk hd hu fun v tl h' tk' F' N' hl ho => by
    obtain ⟨rfl, t, rfl⟩ := ho
    exact ret t h' tk' F' N'
end
theorem low_of {tl : List (Addr × Obj)} {bx : Addr} {bvs : List Value} {nx : Nat} {bs : List Box} {ws : List Int} (hB : BoxesAt tl bx bvs nx bs) (hws : ws = bs.foldl stepW words0) (h : badW ws ≠ 0) : ∃ k : Nat, k < 32 ∧ Builtin.bitAnd (badW ws) (-badW ws) = 2 ^ k ∧ bt k (badW ws) = true := by
  subst hws
  exact wd_low (bad_ok (words0_ok.fold hB.good).1).1 h
theorem sift2 {h₀ h : Heap} {L : Addr} {tl : List (Addr × Obj)} {q0 q1 q2 q3 c : Addr × Obj} (N : News h₀ L h (q0 :: q1 :: q2 :: q3 :: c :: tl)) : News h₀ L h (c :: q2 :: tl) := fun p hp => by
  refine N p ?_
  rcases List.mem_cons.mp hp with rfl | hp
  · exact .tail _ (.tail _ (.tail _ (.tail _ (.head _))))
  rcases List.mem_cons.mp hp with rfl | hp
  · exact .tail _ (.tail _ (.head _))
  · exact .tail _ (.tail _ (.tail _ (.tail _ (.tail _ hp))))
theorem spot_val (k i : Nat) : 4096 * (((k : Int).fdiv (2 ^ ((i : Nat) : Int).toNat)).fmod 2) = 4096 * (b2n (k.testBit i) : Int) := by
  have e : (k : Int).fdiv (2 ^ i) = ((k / 2 ^ i : Nat) : Int) := by
    have hp : (0 : Int) ≤ 2 ^ i := by
      have : ((2 ^ i : Nat) : Int) = (2 : Int) ^ i := by simp
      rw [← this]; exact Int.natCast_nonneg _
    rw [Int.fdiv_eq_ediv_of_nonneg _ hp]
    simp
  rw [Int.toNat_natCast, e, Int.fmod_eq_emod_of_nonneg _ (by decide)]
  have : (k / 2 ^ i) % 2 = b2n (k.testBit i) := by
    unfold b2n
    rw [Nat.testBit_eq_decide_div_mod_eq]
    rcases Nat.mod_two_eq_zero_or_one (k / 2 ^ i) with h | h <;> simp [h]
  rw [← this]; simp
theorem spot_ints {yys : List Value} {k : Nat} (hl : yys.length = 5) (h : ∀ (i : Nat) (v : Value), yys[i]? = some v → ∃ t : Tok, v = .int (4096 * (((k : Int).fdiv (2 ^ ((i : Nat) : Int).toNat)).fmod 2)) t) : IntsAre yys (spotRow k) := by
  match yys, hl with
  | [v0, v1, v2, v3, v4], _ =>
    obtain ⟨t0, e0⟩ := h 0 v0 rfl
    obtain ⟨t1, e1⟩ := h 1 v1 rfl
    obtain ⟨t2, e2⟩ := h 2 v2 rfl
    obtain ⟨t3, e3⟩ := h 3 v3 rfl
    obtain ⟨t4, e4⟩ := h 4 v4 rfl
    rw [spot_val] at e0 e1 e2 e3 e4
    rw [e0, e1, e2, e3, e4]
    exact .cons _ _ (.cons _ _ (.cons _ _ (.cons _ _ (.cons _ _ .nil))))
theorem shown_map {bs : List Box} (hg : ∀ b ∈ bs, GoodBox b) {k : Nat} (hk : k < 32) : bs.foldl stepR (spotRow k) = (bs.foldl stepW words0).map fun x => 4096 * Builtin.bitAnd (x.fdiv (2 ^ ((k : Nat) : Int).toNat)) 1 := by
  have hw := (words0_ok.fold hg).1
  have s := shown_at hg hk
  have l2 : (bs.foldl stepR (spotRow k)).length = 5 := by rw [foldR_len]; rfl
  obtain ⟨a, b, c, d, e, he⟩ := list5 l2
  obtain ⟨w0, w1, w2, w3, w4, hw5⟩ := list5 hw.len
  have wd := hw.wd
  rw [he, hw5] at s ⊢
  rw [hw5] at wd
  have s0 := s 0 (by grind)
  have s1 := s 1 (by grind)
  have s2 := s 2 (by grind)
  have s3 := s 3 (by grind)
  have s4 := s 4 (by grind)
  simp only [List.getD_cons_zero, List.getD_cons_succ] at s0 s1 s2 s3 s4
  rw [Int.toNat_natCast]
  simp only [List.map_cons, List.map_nil]
  rw [fig_bit (wd w0 (by simp)), fig_bit (wd w1 (by simp)), fig_bit (wd w2 (by simp)), fig_bit (wd w3 (by simp)), fig_bit (wd w4 (by simp)), s0, s1, s2, s3, s4]
theorem shown_eq {tl : List (Addr × Obj)} {bx : Addr} {bvs : List Value} {nx k : Nat} {bs : List Box} {ws sh : List Int} (hB : BoxesAt tl bx bvs nx bs) (hws : ws = bs.foldl stepW words0) (hsh : sh = bs.foldl stepR (spotRow k)) (hk : k < 32) : sh = ws.map fun x => 4096 * Builtin.bitAnd (x.fdiv (2 ^ ((k : Nat) : Int).toNat)) 1 := by
  subst hws hsh
  exact shown_map hB.good hk
theorem kb_2 {ws : List Int} {m₀ m : Str → Option Value} {i : Nat} {t : Tok} (hk : Keeps lawB m₀ m) (hm : m (Str.ofString "bad") = some (.int (Builtin.bitOr (badI ws i) (Builtin.bitAnd (ws.getD (i : Int).toNat 0) (Builtin.bitNot (ws.getD ((i : Int) + 1).toNat 0)))) t)) : KB ws m₀ (i + 1) m := by
  have e : ((i : Int) + 1).toNat = i + 1 := by lia
  rw [e, Int.toNat_natCast] at hm
  exact kb_1 hk hm
/-- the items of the list of powers, as the search wants them -/
theorem pow_items {ys : List Value} {T u kk : Nat} {x : Int} (hx : x = 2 ^ kk) (hT : u + 2 ≤ T) (hys : ∀ (i : Nat) (v : Value), ys[i]? = some v → ∃ t : Tok, v = .int (1 * 2 ^ (i : Int).toNat) t ∧ T ≤ t + 1) :
    ∀ (i : Nat) (v : Value), ys[i]? = some v → ∃ (c : Int) (t : Tok), v = .int c t ∧ t ≠ 0 ∧ (t = u → c = x) ∧ (c = x ↔ i = kk) := by
  intro i v h
  obtain ⟨t, rfl, ht⟩ := hys i v h
  refine ⟨_, t, rfl, ?_, ?_, ?_⟩
  · intro e; rw [e] at ht; have : (0 : Nat) + 1 < T := by lia
    exact absurd ht (by show ¬ T ≤ 0 + 1; lia)
  · intro e; rw [e] at ht; exact absurd ht (by show ¬ T ≤ u + 1; lia)
  · rw [hx, Int.toNat_natCast, Int.one_mul]
    constructor
    · intro e
      have e' : (2 : Nat) ^ i = 2 ^ kk := by exact_mod_cast e
      exact (Nat.pow_right_inj (by decide)).mp e'
    · rintro rfl; rfl
end Mine
end
section
open PySem PySem.W PyProof.Rows PySem.Spec PySem.Calls
set_option Elab.async false
set_option maxRecDepth 100000
namespace Mine
theorem kf_of {m₀ m : Str → Option Value} {i : Nat} (h : Keeps lawF m₀ m) : KF m₀ i m := h
theorem ints_five {us : List Value} {c0 c1 c2 c3 c4 : Int} (_ : IntsAre us (List.map (fun k' : Int => k'.fmod 4097) [c0, c1, c2, c3, c4])) : Five (List.map (fun k' : Int => k'.fmod 4097) [c0, c1, c2, c3, c4]) := five_row
local macro_rules | `(tactic| k_room) => `(tactic| ktr_room)
local macro_rules | `(tactic| k_all) => `(tactic| assumption)
local macro_rules | `(tactic| walk_at "call ref") => `(tactic| ((with_reducible show wpAny _ _ (call (Value.ref 133) _) _ _ _); refine stop_of ?_))
local macro_rules | `(tactic| walk_at "call ref") => `(tactic| ((with_reducible show wpAny _ _ (call (Value.ref 145) _) _ _ _); refine stop_of ?_))
local macro_rules | `(tactic| walk_at "call ref") => `(tactic| ((with_reducible show wpAny _ _ (call (Value.ref 152) _) _ _ _); refine stop_of ?_))
local macro_rules | `(tactic| walk_at "subscriptTail Name Slice ref ref") => `(tactic| (k_here; (with_reducible show wpAny _ _ (subscriptTail _ (PySem.Expr.Slice (some (PySem.Expr.Call _ _ _ _)) none none _) (Value.ref _) (Value.ref _)) _ _ _); k_dflt (refine' slice_fixed ?F ?N ?l ?_ ?s ?t; (case F => k_asm); (case N => k_asm); (case l => k_mem); (case s => with_unfolding_all rfl); (case t => kmk_pure)); intro D' ws' h' F' N' l1 hI'; (try k_lt l1); (try k_sweep)))
local macro_rules | `(tactic| walk_at "binaryOp Add ref ref") => `(tactic| (k_here; k_dflt (refine' add_cells ?F ?N ?a ?b ?i ?j ?_; (case F => k_asm); (case N => k_asm); (case a => k_mem); (case b => k_mem); (case i => assumption); (case j => assumption)); intro D' h' c0 c1 c2 c3 c4 c5 c6 c7 c8 c9 c10 t0 t1 t2 t3 t4 t5 t6 t7 t8 t9 t10 F' N' l1; (try k_lt l1); (try k_sweep)))
local macro_rules | `(tactic| walk_at "pyIter ref") => `(tactic| ((with_reducible show wpAny _ _ (pyIter (Value.ref _)) _ _ _); refine stop_of ?_))
local macro_rules | `(tactic| walk_at "exec For Name Call cons nil") => `(tactic| (k_here; k_dflt (refine' For_turns ?k1 ?_; (case k1 => k_asm))))
local macro_rules | `(tactic| walk_at "exec For Name Name cons nil") => `(tactic| (k_here; k_dflt (refine' For_turns ?k1 ?_; (case k1 => k_asm))))
local macro_rules | `(tactic| walk_at "exec For Name Call cons nil") => `(tactic| (k_here; (with_reducible show wpAny _ _ (exec (Stmt.For _ (PySem.Expr.Call _ [PySem.Expr.Constant (Const.int 4) _ _] _ _) _ _ _) _) _ _ _); k_extra "L41"))
local macro_rules | `(tactic| walk_at "eval ListComp") => `(tactic| (k_here; (with_reducible show wpAny _ _ (eval (PySem.Expr.ListComp _ [⟨_, PySem.Expr.Call _ _ _ _, _, _⟩] _ _) _) _ _ _); refine stop_of ?_))
local macro_rules | `(tactic| walk_at "call ref") => `(tactic| ((with_reducible show wpAny _ _ (call (Value.ref 126) _) _ _ _); refine stop_of ?_))
local macro_rules | `(tactic| walk_at "compareOp Eq ref ref") => `(tactic| (k_here; (with_reducible show wpAny _ _ (compareOp CmpOp.Eq (Value.ref _) (Value.ref _)) _ _ _); k_dflt (refine' eq_left ?k1 ?k2 ?k3 ?k4 ?k5 ?k6 ?a1 ?a2 ?a3 ?a4 ?a5 ?a6 ?a7 ?_; (case k1 => k_asm); (case k2 => k_mem); (case k3 => k_mem); (case k4 => assumption); (case k5 => assumption); (case k6 => ktr_units); (case a1 => assumption); (case a2 => assumption); (case a3 => assumption); (case a4 => assumption); (case a5 => assumption); (case a6 => assumption); (case a7 => assumption))))
local macro_rules | `(tactic| walk_at "compareOp NotEq ref ref") => `(tactic| (k_here; (with_reducible show wpAny _ _ (compareOp CmpOp.NotEq (Value.ref _) (Value.ref _)) _ _ _); k_dflt (refine' ne_same ?k1 ?k2 ?k3 ?k4 ?k5 ?k6 ?e ?_; (case k1 => k_asm); (case k2 => k_mem); (case k3 => k_mem); (case k4 => assumption); (case k5 => assumption); (case k6 => ktr_units); (case e => exact shown_eq (by assumption) (by assumption) (by assumption) (by assumption)))))
local macro_rules | `(tactic| walk_at "compareOp NotEq ref ref") => `(tactic| (k_here; (with_reducible show wpAny _ _ (compareOp CmpOp.NotEq (Value.ref _) (Value.ref _)) _ _ _); k_dflt (refine' ne_shown ?k1 ?k2 ?k3 ?k4 ?k5 ?k6 ?a1 ?a2 ?a3 ?a4 ?a5 ?a6 ?_; (case k1 => k_asm); (case k2 => k_mem); (case k3 => k_mem); (case k4 => assumption); (case k5 => assumption); (case k6 => ktr_units); (case a1 => assumption); (case a2 => assumption); (case a3 => assumption); (case a4 => assumption); (case a5 => assumption); (case a6 => assumption))))
local macro_rules | `(tactic| walk_at "execs cons") => `(tactic| (k_here; (with_reducible show wpAny _ _ (execs _ _) _ _ _); (with_reducible refine gen_toks ?_); intro tk8 htk8; (try dsimp only at htk8)))
local macro_rules | `(tactic| walk_at "execs nil") => `(tactic| (k_here; (with_reducible show wpAny _ _ (execs [] _) _ _ _); (with_reducible refine gen_toks ?_); intro tk8 htk8; (try dsimp only at htk8)))
local macro_rules | `(tactic| walk_at "exec Assign") => `(tactic| (k_here; (with_reducible show wpAny _ _ (exec (Stmt.Assign [PySem.Expr.Name (Str.ofString "lowest") _] _ _) _) _ _ _); (fail_if_success (with_reducible show wpAny _ _ _ (fun _ s' => (_ ≤ s'.toks → _)) _ _)); k_dflt (refine wpAny_toks' ?_)))
local macro_rules | `(tactic| walk_at "execs cons") => `(tactic| (k_here; k_extra "L42"; intro m9 F9 M9; (try dsimp only)))
local macro_rules | `(tactic| walk_at "execs cons") => `(tactic| (k_here; (with_reducible show wpAny _ _ (execs _ _) _ _ _); k_fold))
local macro_rules | `(tactic| walk_at "eval BinOp") => `(tactic| (k_here; (with_reducible show wpAny _ _ (eval _ _) _ _ _); k_fold))
local macro_rules | `(tactic| walk_at "eval Call") => `(tactic| (k_here; (with_reducible show wpAny _ _ (eval _ _) _ _ _); k_fold))
local macro_rules | `(tactic| walk_at "eval Subscript") => `(tactic| (k_here; (with_reducible show wpAny _ _ (eval _ _) _ _ _); k_fold))
set_option maxHeartbeats 8000000 in
theorem law_holds : PySem.Challenge.rw_pe0115_01.Holds := by
  (k_with "L41" => (k_dflt (refine wpAny_toks' ?_); k_dflt (refine' For_turns ?k1 ?_; (case k1 => k_asm))))
  (k_with "L42" => ((rename Fr _ _ _ _ => lF); (fail_if_success (have := mk_of lF (by assumption))); (with_reducible refine fold_m lF ?_); clear lF))
  w_top off
  refine hd.open_ (by rfl) (by rfl) (by rfl) ?_
  k_go0
  (all_goals try k_fold)
  k_steps
  unfold Stop
  k_dflt (refine' boxes_use ?k1 ?k2 ?k3 ?k4 ?k5 ?kK ?kd ?ku ?_)
  (case k1 => k_asm)
  (case k2 => k_asm)
  (case k3 => k_asm)
  (case k4 => k_asm)
  (case k5 => k_asm)
  (case kK => exact rfl)
  (case kd => ktr_room)
  (case ku => ktr_units)
  intro bx bvs nb bs tl h9 tk9 F9 N9 l9 hB
  rename (IntsAre _ (List.map _ [_, _, _, _, _])) => hI8
  rename (List.length _ = List.length (List.map _ [_, _, _, _, _])) => hL8
  have hr5 := ints_five hI8
  generalize List.map (fun k' : Int => k'.fmod 4097) [_, _, _, _, _] = row at hI8 hL8 hr5
  have N8 := sift_news N9
  have offC := sift_c l9
  have offR := sift_r l9
  clear N9 l9
  k_steps
  unfold Stop
  k_dflt (refine' words_use ?hB ?k1 ?k2 ?k3 ?k4 ?k5 ?kK ?kd ?ku ?_)
  (case k1 => k_asm)
  (case k2 => k_asm)
  (case k3 => k_asm)
  (case k4 => k_asm)
  (case k5 => k_asm)
  (case kK => exact rfl)
  (case kd => ktr_room)
  (case ku => ktr_units)
  (case hB => exact hB.mono fun p hp => .tail _ (.tail _ hp))
  intro Wd wvs wn h7 tk7 F7 N7 l7 hW
  have hwl : (bs.foldl stepW words0).length = 5 := by rw [foldW_len]; rfl
  obtain ⟨ws, hws⟩ : ∃ ws, ws = bs.foldl stepW words0 := ⟨_, rfl⟩
  rw [← hws] at hW hwl
  k_steps
  unfold Stop
  k_dflt (refine' run_use ?hB ?hR hI8 hr5 ?k1 ?k2 ?k3 ?k4 ?k5 ?kK ?kd ?ku ?_)
  (case k1 => k_asm)
  (case k2 => k_asm)
  (case k3 => k_asm)
  (case k4 => k_asm)
  (case k5 => k_asm)
  (case kK => exact rfl)
  (case kd => ktr_room)
  (case ku => ktr_units)
  (case hB => exact hB.mono fun p hp => .tail _ (.tail _ (.tail _ hp)))
  (case hR => exact .tail _ (.head _))
  intro Lf lvs ln h6 tk6 F6 N6 l6 hLf
  have hll : (bs.foldl stepR row).length = 5 := by rw [foldR_len]; exact hr5.len
  obtain ⟨lf, hlf⟩ : ∃ lf, lf = bs.foldl stepR row := ⟨_, rfl⟩
  rw [← hlf] at hLf hll
  k_steps
  unfold Stop
  k_dflt (refine' level_loop ?m hI8 ?h ?F ?N ?_ ?_)
  (case h => exact rfl)
  (case F => k_asm)
  (case N => k_asm)
  (case m => exact .tail _ (.tail _ (.head _)))
  · intro i lev t m₁ I oI h tk hlev hk F₁ N₁ hoff
    rw [keeps_lv hk] at F₁
    k_steps
    unfold Stop
    rename_i hR hF hN _
    k_dflt (refine' name_loop (n := 5) (KP row lev) hR ?g ?s1 ?s2 ?h hF hN ?z ?_ ?_)
    (case g => intro _ _; rfl)
    (case s1 => decide)
    (case s2 => rfl)
    (case h => exact rfl)
    (case z => exact kp_0 rfl)
    · rintro i2 t2 m₂ I2 oI2 h2 tk2 hi2 ⟨hk2, tp, hp2⟩ F₂ N₂ hoff2
      rw [keeps_pw hk2 hp2] at F₂
      have hj0 : (0 : Int) ≤ (i2 : Int) := Int.natCast_nonneg _
      have hj1 : (i2 : Int) < 5 := by omega
      have hlen := hr5.len
      k_steps
      · refine name_end (by k_asm) (by k_asm) (kp_yes ?_ (by assumption) rfl) hoff2
        repeat (first | with_reducible exact keeps_refl _ _ | refine keeps_set ?_ (by decide))
      · refine name_end (by k_asm) (by k_asm) (kp_no ?_ (by omega) rfl) hoff2
        repeat (first | with_reducible exact keeps_refl _ _ | refine keeps_set ?_ (by decide))
    · rintro m₂ h2 tk2 ⟨hk2, tp, hp2⟩ F₂ N₂
      rw [keeps_pw hk2 hp2] at F₂
      have hpl := placeI_nn hr5.len lev
      k_steps
      unfold Stop
      rename_i hR hF hN _
      k_dflt (refine' name_loop (n := 5) KF hR ?g ?s1 ?s2 ?h hF hN ?z ?_ ?_)
      (case g => intro _ _; rfl)
      (case s1 => decide)
      (case s2 => rfl)
      (case h => exact rfl)
      (case z => exact fun _ _ => rfl)
      · rintro i3 t3 m₃ I3 oI3 h3 tk3 hi3 hk3 F₃ N₃ hoff3
        rw [keeps_wf hk3] at F₃
        have hj0 : (0 : Int) ≤ (i3 : Int) := Int.natCast_nonneg _
        have hj1 : (i3 : Int) < 5 := by omega
        k_steps
        · exfalso
          refine fig_no (P := lev ≤ lf.getD (i3 : Int).toNat 0) ?_ (by assumption)
          rw [hws, hlf, Int.toNat_natCast]
          exact fig_ok hB.good hr5.len lev i3 hi3
        · refine name_end (by k_asm) (by k_asm) (K := KF _) (i := i3) (kf_of ?_) hoff3
          repeat (first | with_reducible exact keeps_refl _ _ | refine keeps_set ?_ (by decide))
      · rintro m₃ h3 tk3 hk3 F₃ N₃
        rw [keeps_wf hk3] at F₃
        k_steps
        refine level_end (by k_asm) (by k_asm) ?_ hoff
        repeat (first | with_reducible exact keeps_refl _ _ | refine keeps_set ?_ (by decide))
  · intro m₁ h tk hk F₁ N₁
    rw [keeps_lv hk] at F₁
    k_steps
    unfold Stop
    rename_i hR hF hN _
    k_dflt (refine' name_loop (n := 4) (KB ws) hR ?g ?s1 ?s2 ?h hF hN ?z ?_ ?_)
    (case g => intro _ _; rfl)
    (case s1 => decide)
    (case s2 => rfl)
    (case h => exact rfl)
    (case z => exact kb_0 rfl)
    · rintro i2 t2 m₂ I2 oI2 h2 tk2 hi2 ⟨hk2, tp, hp2⟩ F₂ N₂ hoff2
      rw [keeps_bw hk2 hp2] at F₂
      have hj0 : (0 : Int) ≤ (i2 : Int) := Int.natCast_nonneg _
      have hj1 : (i2 : Int) < 4 := by omega
      k_steps
      refine name_end (by k_asm) (by k_asm) (kb_2 ?_ rfl) hoff2
      repeat (first | with_reducible exact keeps_refl _ _ | refine keeps_set ?_ (by decide))
    · rintro m₂ h2 tk2 ⟨hk2, tp, hp2⟩ F₂ N₂
      rw [keeps_bw hk2 hp2] at F₂
      intro htk
      rw [badI_4] at F₂
      try dsimp only at htk
      have hrl := hr5.len
      k_steps
      unfold Stop
      rename (_ ≤ Shared.toks _) => hle
      try dsimp only at hle
      obtain ⟨kk, hk32, hlow, hbit⟩ := low_of hB hws (by assumption)
      k_dflt (refine listcomp_T (F₀ := by k_asm) (by rfl) (by decide) (by rfl) (by decide) (by rfl) ?_)
      k_steps
      rename_i tkR t1 u1 v1 hR hF hN hkp hT
      try dsimp only at hT
      refine ⟨_, _, _, _, _, 32, _, (fun k y => ∃ t : Tok, y = .int (1 * 2 ^ k.toNat) t ∧ tkR ≤ t + 1), rfl, rfl, hF, hN, hR, by decide, rfl, by decide, ?_, ?_⟩
      · intro k t I oI C oC D mm yys hh tkk E' htkk hk0 hk1 hC hx F N off ne
        refine wpAny_toks' ?_
        k_steps
        · k_asm
        · k_asm
        · rename_i hTT
          try dsimp only at hTT
          exact Nat.le_trans htkk hTT
      · intro D hh tkk yys F N o1 hyl hys htkk
        k_steps
        unfold Stop
        k_dflt (refine' index_use (kk := kk) ?m ?l ?u ?hv ?k1 ?k2 ?k3 ?k4 ?k5 ?kK ?kd ?ku ?_)
        (case k1 => k_asm)
        (case k2 => k_asm)
        (case k3 => k_asm)
        (case k4 => k_asm)
        (case k5 => k_asm)
        (case kK => exact rfl)
        (case kd => ktr_room)
        (case ku => ktr_units)
        (case m => exact .head _)
        (case l => omega)
        (case u => exact Nat.pos_iff_ne_zero.mp (by omega))
        (case hv => exact pow_items hlow (by omega) hys)
        intro tsp h5 tk5 F5 N5
        have N6 := sift2 N5
        have hWC := neN (l7 _ (.tail _ (.head _)))
        try dsimp only at hWC offC
        clear N5
        k_steps
        unfold Stop
        have hkk0 : (0 : Int) ≤ (kk : Int) := Int.natCast_nonneg _
        have hkk1 : (kk : Int) < 32 := by omega
        k_dflt (refine listcomp_T (F₀ := by k_asm) (by rfl) (by decide) (by rfl) (by decide) (by rfl) ?_)
        k_steps
        rename_i tkR2 t12 u12 v12 hR2 hF2 hN2 hkp2 hT2
        refine ⟨_, _, _, _, _, 5, _, (fun k y => ∃ t : Tok, y = .int (4096 * (((kk : Int).fdiv (2 ^ k.toNat)).fmod 2)) t), rfl, rfl, hF2, hN2, hR2, by decide, rfl, by decide, ?_, ?_⟩
        · intro k t I oI C oC D mm yys hh tkk E' htkk hk0 hk1 hC hx F N off ne
          have hk0' : 0 ≤ k := by omega
          have hk1' : k < 5 := by omega
          k_steps
          all_goals first | k_asm | assumption | exact ⟨_, rfl⟩
        · intro D hh tkk yys F N o1 hyl hys htkk
          k_steps
          unfold Stop
          have hri := spot_ints hyl hys
          k_dflt (refine' run_use ?hB ?hR hri (spotRow_five kk) ?k1 ?k2 ?k3 ?k4 ?k5 ?kK ?kd ?ku ?_)
          (case k1 => k_asm)
          (case k2 => k_asm)
          (case k3 => k_asm)
          (case k4 => k_asm)
          (case k5 => k_asm)
          (case kK => exact rfl)
          (case kd => ktr_room)
          (case ku => ktr_units)
          (case hB => exact hB.mono fun p hp => .tail _ (.tail _ (.tail _ hp)))
          (case hR => exact .head _)
          intro Sh svs sn h4 tk4 F4 N4 l4 hSh
          have hsl : (bs.foldl stepR (spotRow kk)).length = 5 := by rw [foldR_len]; rfl
          obtain ⟨sh, hsh⟩ : ∃ sh, sh = bs.foldl stepR (spotRow kk) := ⟨_, rfl⟩
          rw [← hsh] at hSh hsl
          k_steps
end Mine
end
set_option maxRecDepth 100000 in
theorem PySem.Challenge.cw_pe0115_01_holds : PySem.Challenge.rw_pe0115_01.Holds :=
  Mine.law_holds
