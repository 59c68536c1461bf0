import PyProof.Rows.All
import Wide.All
import OpenK.AllK
import Wide.FinOn
import Lean
import PySem.Challenge.RW_wb0081_01
open PySem PySem.W PyProof.Rows
set_option Elab.async false
set_option maxRecDepth 100000
set_option maxHeartbeats 0
set_option linter.all false
set_option compiler.extract_closed false
noncomputable section
namespace Mine
section
noncomputable abbrev pE : Program := PySem.Challenge.pw_wb0081_01
noncomputable def stAt (i : Nat) : Stmt := (pE.main.body[i]?).getD (Stmt.Pass default)
noncomputable def prmAt (i : Nat) : Arguments := match stAt i with | .FunctionDef _ a _ _ _ _ _ _ _ _ => a | _ => default
noncomputable def bdyAt (i : Nat) : List Stmt := match stAt i with | .FunctionDef _ _ b _ _ _ _ _ _ _ => b | _ => []
noncomputable def scpAt (i : Nat) : Scope := match stAt i with | .FunctionDef _ _ _ _ _ _ s _ _ _ => s | _ => default
noncomputable def ie (n : Int) (t : Tok) (s : String) (u : Tok) : DictEntry := ⟨n, .int n t, .str (Str.ofString s) u⟩
noncomputable def oA_11 (P : Params) : Obj := Obj.mk (@PySem.Value.type "tuple") (@Option.none @Nat) (@PySem.Data.seq #[] 0) #[]
noncomputable def oA_12 (P : Params) : Obj := Obj.mk @PySem.Value.none (@Option.none @Nat) (@PySem.Data.fields #[]) #[]
noncomputable def oA_13 (P : Params) : Obj := Obj.mk (@PySem.Value.type "code") (@Option.none @Nat) (@PySem.Data.fields #[(@PySem.Value.str (@PySem.Str.ofString "<module>") 182), (@PySem.Value.str (@PySem.Str.ofString "<module>") 183), (@PySem.Value.str (@PySem.Str.ofString "/claim/cut.py") 184), (@PySem.Value.int 1 0), (@PySem.Value.int 0 0), (@PySem.Value.int 0 0), (@PySem.Value.int 0 0), (@PySem.Value.int 0 0), (@PySem.Value.ref 11), (@PySem.Value.bool @Bool.false), (@PySem.Value.int 181 0), (@PySem.Value.ref 12), @PySem.Value.none, @PySem.Value.none, @PySem.Value.none, @PySem.Value.none, (@PySem.Value.int 185 0), (@PySem.Value.int 1 0), (@PySem.Value.str (@PySem.Str.ofString "/claim/cut.py") 186)]) #[]
noncomputable def oA_14 (P : Params) : Obj := Obj.mk (@PySem.Value.type "frame") (@Option.none @Nat) @PySem.Data.plain #[(@Option.some @PySem.Value (@PySem.Value.ref 13)), (@Option.some @PySem.Value (@PySem.Value.ref 3)), (@Option.some @PySem.Value (@PySem.Value.ref 3)), (@Option.none @PySem.Value), (@Option.some @PySem.Value (@PySem.Value.str (@PySem.Str.ofString "__main__") 164)), (@Option.none @PySem.Value), (@Option.some @PySem.Value (@PySem.Value.ref 0))]
noncomputable def heapA (P : Params) : Heap := ⟨⟨[PySem.W.boot_o_0 P, PySem.W.boot_o_1 P, PySem.W.boot_o_2 P, PySem.W.boot_o_3 P, PySem.W.boot_o_4 P, PySem.W.boot_o_5 P, PySem.W.boot_o_6 P, PySem.W.boot_o_7 P, PySem.W.boot_o_8 P, PySem.W.boot_o_9 P, PySem.W.boot_o_10 P, oA_11 P, oA_12 P, oA_13 P, oA_14 P]⟩, (@PySem.Life.mk [] [] [] 0 [] [] @Bool.false #[] [] 0 @Bool.false @Bool.false @Bool.false 0 [2000, 10, 10] @Bool.false 0 @Bool.true [] [] 0 @Bool.false)⟩
noncomputable def treeB (P : Params) : BT := (.node (PySem.W.boot_o_0 P) (.node (PySem.W.boot_o_1 P) (.node (PySem.W.boot_o_3 P) (.node (PySem.W.boot_o_7 P) .nil .nil) (.node (oA_11 P) .nil .nil)) (.node (PySem.W.boot_o_5 P) (.node (PySem.W.boot_o_9 P) .nil .nil) (.node (oA_13 P) .nil .nil))) (.node (PySem.W.boot_o_2 P) (.node (PySem.W.boot_o_4 P) (.node (PySem.W.boot_o_8 P) .nil .nil) (.node (oA_12 P) .nil .nil)) (.node (PySem.W.boot_o_6 P) (.node (PySem.W.boot_o_10 P) .nil .nil) (.node (oA_14 P) .nil .nil))))
noncomputable def SB (w : World) (os : OsState) : SharedT := ⟨treeB w.params, 15, (@PySem.Life.mk [] [] [] 0 [] [] @Bool.false #[] [] 0 @Bool.false @Bool.false @Bool.false 0 [2000, 10, 10] @Bool.false 0 @Bool.true [] [] 0 @Bool.false), #[], (@PySem.Drawn.mk 0 0 0 0), 187, os⟩
noncomputable def SA (w : World) (os : OsState) : Shared := ⟨heapA w.params, #[], (@PySem.Drawn.mk 0 0 0 0), 187, os⟩
noncomputable def S0 (w : World) (os : OsState) : Shared := ⟨boot_heap w.params, #[], boot_drawn, boot_toks, os⟩
noncomputable def oC_3 (P : Params) : Obj := Obj.mk (@PySem.Value.type "dict") (@Option.none @Nat) (@PySem.Data.dict #[⟨(@PySem.PyData.keyHash P (@PySem.Str.ofString "__name__")), (@PySem.Value.str (@PySem.Str.ofString "__name__") 165), (@PySem.Value.str (@PySem.Str.ofString "cpy313.stringprep") 283)⟩, ⟨(@PySem.PyData.keyHash P (@PySem.Str.ofString "__doc__")), (@PySem.Value.str (@PySem.Str.ofString "__doc__") 166), @PySem.Value.none⟩, ⟨(@PySem.PyData.keyHash P (@PySem.Str.ofString "__package__")), (@PySem.Value.str (@PySem.Str.ofString "__package__") 167), @PySem.Value.none⟩, ⟨(@PySem.PyData.keyHash P (@PySem.Str.ofString "__loader__")), (@PySem.Value.str (@PySem.Str.ofString "__loader__") 168), (@PySem.Value.builtin "__main__.__loader__#opaque")⟩, ⟨(@PySem.PyData.keyHash P (@PySem.Str.ofString "__spec__")), (@PySem.Value.str (@PySem.Str.ofString "__spec__") 169), @PySem.Value.none⟩, ⟨(@PySem.PyData.keyHash P (@PySem.Str.ofString "__annotations__")), (@PySem.Value.str (@PySem.Str.ofString "__annotations__") 170), (@PySem.Value.ref 6)⟩, ⟨(@PySem.PyData.keyHash P (@PySem.Str.ofString "__builtins__")), (@PySem.Value.str (@PySem.Str.ofString "__builtins__") 171), (@PySem.Value.ref 4)⟩, ⟨(@PySem.PyData.keyHash P (@PySem.Str.ofString "__file__")), (@PySem.Value.str (@PySem.Str.ofString "__file__") 173), (@PySem.Value.str (@PySem.Str.ofString "/claim/cut.py") 172)⟩, ⟨(@PySem.PyData.keyHash P (@PySem.Str.ofString "__cached__")), (@PySem.Value.str (@PySem.Str.ofString "__cached__") 174), @PySem.Value.none⟩, ⟨(@PySem.PyData.keyHash P (@PySem.Str.ofString "T")), (@PySem.Value.str (@PySem.Str.ofString "T") 197), (@PySem.Value.ref 21)⟩, ⟨(@PySem.PyData.keyHash P (@PySem.Str.ofString "digits")), (@PySem.Value.str (@PySem.Str.ofString "digits") 199), (@PySem.Value.bytes #[97, 98, 99, 100, 101, 102, 103, 104, 105, 106, 107, 108, 109, 110, 111, 112, 113, 114, 115, 116, 117, 118, 119, 120, 121, 122, 48, 49, 50, 51, 52, 53, 54, 55, 56, 57] 198)⟩, ⟨(@PySem.PyData.keyHash P (@PySem.Str.ofString "generate_generalized_integer")), (@PySem.Value.str (@PySem.Str.ofString "generate_generalized_integer") 210), (@PySem.Value.ref 28)⟩, ⟨(@PySem.PyData.keyHash P (@PySem.Str.ofString "decode_generalized_number")), (@PySem.Value.str (@PySem.Str.ofString "decode_generalized_number") 226), (@PySem.Value.ref 35)⟩, ⟨(@PySem.PyData.keyHash P (@PySem.Str.ofString "insort_right")), (@PySem.Value.str (@PySem.Str.ofString "insort_right") 241), (@PySem.Value.ref 44)⟩, ⟨(@PySem.PyData.keyHash P (@PySem.Str.ofString "bisect_right")), (@PySem.Value.str (@PySem.Str.ofString "bisect_right") 255), (@PySem.Value.ref 53)⟩, ⟨(@PySem.PyData.keyHash P (@PySem.Str.ofString "insort_left")), (@PySem.Value.str (@PySem.Str.ofString "insort_left") 268), (@PySem.Value.ref 62)⟩, ⟨(@PySem.PyData.keyHash P (@PySem.Str.ofString "bisect_left")), (@PySem.Value.str (@PySem.Str.ofString "bisect_left") 282), (@PySem.Value.ref 71)⟩] 17) #[]
noncomputable def oC_12 (P : Params) : Obj := Obj.mk @PySem.Value.none (@Option.none @Nat) (@PySem.Data.fields #[(@PySem.Value.int 2 0), (@PySem.Value.int 0 0), (@PySem.Value.ref 20), (@PySem.Value.int 10 0), (@PySem.Value.int 0 0), (@PySem.Value.ref 27), (@PySem.Value.int 21 0), (@PySem.Value.int 0 0), (@PySem.Value.ref 34), (@PySem.Value.int 48 0), (@PySem.Value.int 0 0), (@PySem.Value.ref 43), (@PySem.Value.int 54 0), (@PySem.Value.int 0 0), (@PySem.Value.ref 52), (@PySem.Value.int 74 0), (@PySem.Value.int 0 0), (@PySem.Value.ref 61), (@PySem.Value.int 80 0), (@PySem.Value.int 0 0), (@PySem.Value.ref 70)]) #[]
noncomputable def oC_15 (P : Params) : Obj := Obj.mk (@PySem.Value.type "tuple") (@Option.none @Nat) (@PySem.Data.seq #[] 0) #[]
noncomputable def oC_16 (P : Params) : Obj := Obj.mk @PySem.Value.none (@Option.none @Nat) (@PySem.Data.fields #[]) #[]
noncomputable def oC_17 (P : Params) : Obj := Obj.mk (@PySem.Value.type "tuple") (@Option.none @Nat) (@PySem.Data.seq #[(@PySem.Value.str (@PySem.Str.ofString "j") 192), (@PySem.Value.str (@PySem.Str.ofString "bias") 193), (@PySem.Value.str (@PySem.Str.ofString "res") 194)] 0) #[]
noncomputable def oC_18 (P : Params) : Obj := Obj.mk (@PySem.Value.type "tuple") (@Option.none @Nat) (@PySem.Data.seq #[] 0) #[]
noncomputable def oC_19 (P : Params) : Obj := Obj.mk @PySem.Value.none (@Option.none @Nat) (Data.func { name := (@PySem.Str.ofString "T"), qualname := (@PySem.Str.ofString "T"), params := prmAt 1, body := .stmts (bdyAt 1), scope := scpAt 1, globals := 0, closure := [], defaults := @PySem.Value.none, kwdefaults := @PySem.Value.none, doc := @PySem.Value.none, pyModule := @PySem.Value.none, annotations := (@Option.none @Nat), code := @PySem.Value.none, closureTuple := @PySem.Value.none, builtins := 0 }) #[]
noncomputable def oC_20 (P : Params) : Obj := Obj.mk (@PySem.Value.type "code") (@Option.none @Nat) (@PySem.Data.fields #[(@PySem.Value.str (@PySem.Str.ofString "T") 189), (@PySem.Value.str (@PySem.Str.ofString "T") 190), (@PySem.Value.str (@PySem.Str.ofString "/claim/cut.py") 191), (@PySem.Value.int 2 0), (@PySem.Value.int 2 0), (@PySem.Value.int 0 0), (@PySem.Value.int 0 0), (@PySem.Value.int 3 0), (@PySem.Value.ref 15), (@PySem.Value.bool @Bool.true), (@PySem.Value.int 181 0), (@PySem.Value.ref 16), @PySem.Value.none, (@PySem.Value.ref 17), (@PySem.Value.ref 18), (@PySem.Value.ref 19), (@PySem.Value.int 195 0), (@PySem.Value.int 2 0), (@PySem.Value.str (@PySem.Str.ofString "/claim/cut.py") 196)]) #[]
noncomputable def oC_21 (P : Params) : Obj := Obj.mk (@PySem.Value.type "function") (@Option.none @Nat) (Data.func { name := (@PySem.Str.ofString "T"), qualname := (@PySem.Str.ofString "T"), params := prmAt 1, body := .stmts (bdyAt 1), scope := scpAt 1, globals := 3, closure := [], defaults := @PySem.Value.none, kwdefaults := @PySem.Value.none, doc := @PySem.Value.none, pyModule := (@PySem.Value.str (@PySem.Str.ofString "cpy313.encodings.punycode") 187), annotations := (@Option.none @Nat), code := (@PySem.Value.ref 20), closureTuple := @PySem.Value.none, builtins := 0 }) #[]
noncomputable def oC_22 (P : Params) : Obj := Obj.mk (@PySem.Value.type "tuple") (@Option.none @Nat) (@PySem.Data.seq #[] 0) #[]
noncomputable def oC_23 (P : Params) : Obj := Obj.mk @PySem.Value.none (@Option.none @Nat) (@PySem.Data.fields #[]) #[]
noncomputable def oC_24 (P : Params) : Obj := Obj.mk (@PySem.Value.type "tuple") (@Option.none @Nat) (@PySem.Data.seq #[(@PySem.Value.str (@PySem.Str.ofString "N") 203), (@PySem.Value.str (@PySem.Str.ofString "bias") 204), (@PySem.Value.str (@PySem.Str.ofString "result") 205), (@PySem.Value.str (@PySem.Str.ofString "j") 206), (@PySem.Value.str (@PySem.Str.ofString "t") 207)] 0) #[]
noncomputable def oC_25 (P : Params) : Obj := Obj.mk (@PySem.Value.type "tuple") (@Option.none @Nat) (@PySem.Data.seq #[] 0) #[]
noncomputable def oC_26 (P : Params) : Obj := Obj.mk @PySem.Value.none (@Option.none @Nat) (Data.func { name := (@PySem.Str.ofString "generate_generalized_integer"), qualname := (@PySem.Str.ofString "generate_generalized_integer"), params := prmAt 3, body := .stmts (bdyAt 3), scope := scpAt 3, globals := 0, closure := [], defaults := @PySem.Value.none, kwdefaults := @PySem.Value.none, doc := @PySem.Value.none, pyModule := @PySem.Value.none, annotations := (@Option.none @Nat), code := @PySem.Value.none, closureTuple := @PySem.Value.none, builtins := 0 }) #[]
noncomputable def oC_27 (P : Params) : Obj := Obj.mk (@PySem.Value.type "code") (@Option.none @Nat) (@PySem.Data.fields #[(@PySem.Value.str (@PySem.Str.ofString "generate_generalized_integer") 200), (@PySem.Value.str (@PySem.Str.ofString "generate_generalized_integer") 201), (@PySem.Value.str (@PySem.Str.ofString "/claim/cut.py") 202), (@PySem.Value.int 10 0), (@PySem.Value.int 2 0), (@PySem.Value.int 0 0), (@PySem.Value.int 0 0), (@PySem.Value.int 3 0), (@PySem.Value.ref 22), (@PySem.Value.bool @Bool.true), (@PySem.Value.int 181 0), (@PySem.Value.ref 23), @PySem.Value.none, (@PySem.Value.ref 24), (@PySem.Value.ref 25), (@PySem.Value.ref 26), (@PySem.Value.int 208 0), (@PySem.Value.int 10 0), (@PySem.Value.str (@PySem.Str.ofString "/claim/cut.py") 209)]) #[]
noncomputable def oC_28 (P : Params) : Obj := Obj.mk (@PySem.Value.type "function") (@Option.none @Nat) (Data.func { name := (@PySem.Str.ofString "generate_generalized_integer"), qualname := (@PySem.Str.ofString "generate_generalized_integer"), params := prmAt 3, body := .stmts (bdyAt 3), scope := scpAt 3, globals := 3, closure := [], defaults := @PySem.Value.none, kwdefaults := @PySem.Value.none, doc := @PySem.Value.none, pyModule := (@PySem.Value.str (@PySem.Str.ofString "cpy313.encodings.punycode") 187), annotations := (@Option.none @Nat), code := (@PySem.Value.ref 27), closureTuple := @PySem.Value.none, builtins := 0 }) #[]
noncomputable def oC_29 (P : Params) : Obj := Obj.mk (@PySem.Value.type "tuple") (@Option.none @Nat) (@PySem.Data.seq #[] 0) #[]
noncomputable def oC_30 (P : Params) : Obj := Obj.mk @PySem.Value.none (@Option.none @Nat) (@PySem.Data.fields #[]) #[]
noncomputable def oC_31 (P : Params) : Obj := Obj.mk (@PySem.Value.type "tuple") (@Option.none @Nat) (@PySem.Data.seq #[(@PySem.Value.str (@PySem.Str.ofString "extended") 214), (@PySem.Value.str (@PySem.Str.ofString "extpos") 215), (@PySem.Value.str (@PySem.Str.ofString "bias") 216), (@PySem.Value.str (@PySem.Str.ofString "errors") 217), (@PySem.Value.str (@PySem.Str.ofString "result") 218), (@PySem.Value.str (@PySem.Str.ofString "w") 219), (@PySem.Value.str (@PySem.Str.ofString "j") 220), (@PySem.Value.str (@PySem.Str.ofString "char") 221), (@PySem.Value.str (@PySem.Str.ofString "digit") 222), (@PySem.Value.str (@PySem.Str.ofString "t") 223)] 0) #[]
noncomputable def oC_32 (P : Params) : Obj := Obj.mk (@PySem.Value.type "tuple") (@Option.none @Nat) (@PySem.Data.seq #[] 0) #[]
noncomputable def oC_33 (P : Params) : Obj := Obj.mk @PySem.Value.none (@Option.none @Nat) (Data.func { name := (@PySem.Str.ofString "decode_generalized_number"), qualname := (@PySem.Str.ofString "decode_generalized_number"), params := prmAt 4, body := .stmts (bdyAt 4), scope := scpAt 4, globals := 0, closure := [], defaults := @PySem.Value.none, kwdefaults := @PySem.Value.none, doc := @PySem.Value.none, pyModule := @PySem.Value.none, annotations := (@Option.none @Nat), code := @PySem.Value.none, closureTuple := @PySem.Value.none, builtins := 0 }) #[]
noncomputable def oC_34 (P : Params) : Obj := Obj.mk (@PySem.Value.type "code") (@Option.none @Nat) (@PySem.Data.fields #[(@PySem.Value.str (@PySem.Str.ofString "decode_generalized_number") 211), (@PySem.Value.str (@PySem.Str.ofString "decode_generalized_number") 212), (@PySem.Value.str (@PySem.Str.ofString "/claim/cut.py") 213), (@PySem.Value.int 21 0), (@PySem.Value.int 4 0), (@PySem.Value.int 0 0), (@PySem.Value.int 0 0), (@PySem.Value.int 3 0), (@PySem.Value.ref 29), (@PySem.Value.bool @Bool.true), (@PySem.Value.int 181 0), (@PySem.Value.ref 30), @PySem.Value.none, (@PySem.Value.ref 31), (@PySem.Value.ref 32), (@PySem.Value.ref 33), (@PySem.Value.int 224 0), (@PySem.Value.int 21 0), (@PySem.Value.str (@PySem.Str.ofString "/claim/cut.py") 225)]) #[]
noncomputable def oC_35 (P : Params) : Obj := Obj.mk (@PySem.Value.type "function") (@Option.none @Nat) (Data.func { name := (@PySem.Str.ofString "decode_generalized_number"), qualname := (@PySem.Str.ofString "decode_generalized_number"), params := prmAt 4, body := .stmts (bdyAt 4), scope := scpAt 4, globals := 3, closure := [], defaults := @PySem.Value.none, kwdefaults := @PySem.Value.none, doc := @PySem.Value.none, pyModule := (@PySem.Value.str (@PySem.Str.ofString "cpy313.encodings.punycode") 187), annotations := (@Option.none @Nat), code := (@PySem.Value.ref 34), closureTuple := @PySem.Value.none, builtins := 0 }) #[]
noncomputable def oC_36 (P : Params) : Obj := Obj.mk (@PySem.Value.type "tuple") (@Option.none @Nat) (@PySem.Data.seq #[(@PySem.Value.int 0 229), @PySem.Value.none] 0) #[]
noncomputable def oC_37 (P : Params) : Obj := Obj.mk (@PySem.Value.type "dict") (@Option.none @Nat) (@PySem.Data.dict #[⟨(@PySem.PyData.keyHash P (@PySem.Str.ofString "key")), (@PySem.Value.str (@PySem.Str.ofString "key") 230), @PySem.Value.none⟩] 1) #[]
noncomputable def oC_38 (P : Params) : Obj := Obj.mk (@PySem.Value.type "tuple") (@Option.none @Nat) (@PySem.Data.seq #[] 0) #[]
noncomputable def oC_39 (P : Params) : Obj := Obj.mk @PySem.Value.none (@Option.none @Nat) (@PySem.Data.fields #[]) #[]
noncomputable def oC_40 (P : Params) : Obj := Obj.mk (@PySem.Value.type "tuple") (@Option.none @Nat) (@PySem.Data.seq #[(@PySem.Value.str (@PySem.Str.ofString "a") 234), (@PySem.Value.str (@PySem.Str.ofString "x") 235), (@PySem.Value.str (@PySem.Str.ofString "lo") 236), (@PySem.Value.str (@PySem.Str.ofString "hi") 237), (@PySem.Value.str (@PySem.Str.ofString "key") 238)] 0) #[]
noncomputable def oC_41 (P : Params) : Obj := Obj.mk (@PySem.Value.type "tuple") (@Option.none @Nat) (@PySem.Data.seq #[] 0) #[]
noncomputable def oC_42 (P : Params) : Obj := Obj.mk @PySem.Value.none (@Option.none @Nat) (Data.func { name := (@PySem.Str.ofString "insort_right"), qualname := (@PySem.Str.ofString "insort_right"), params := prmAt 6, body := .stmts (bdyAt 6), scope := scpAt 6, globals := 0, closure := [], defaults := @PySem.Value.none, kwdefaults := @PySem.Value.none, doc := @PySem.Value.none, pyModule := @PySem.Value.none, annotations := (@Option.none @Nat), code := @PySem.Value.none, closureTuple := @PySem.Value.none, builtins := 0 }) #[]
noncomputable def oC_43 (P : Params) : Obj := Obj.mk (@PySem.Value.type "code") (@Option.none @Nat) (@PySem.Data.fields #[(@PySem.Value.str (@PySem.Str.ofString "insort_right") 231), (@PySem.Value.str (@PySem.Str.ofString "insort_right") 232), (@PySem.Value.str (@PySem.Str.ofString "/claim/cut.py") 233), (@PySem.Value.int 48 0), (@PySem.Value.int 4 0), (@PySem.Value.int 0 0), (@PySem.Value.int 1 0), (@PySem.Value.int 3 0), (@PySem.Value.ref 38), (@PySem.Value.bool @Bool.true), (@PySem.Value.int 181 0), (@PySem.Value.ref 39), @PySem.Value.none, (@PySem.Value.ref 40), (@PySem.Value.ref 41), (@PySem.Value.ref 42), (@PySem.Value.int 239 0), (@PySem.Value.int 48 0), (@PySem.Value.str (@PySem.Str.ofString "/claim/cut.py") 240)]) #[]
noncomputable def oC_44 (P : Params) : Obj := Obj.mk (@PySem.Value.type "function") (@Option.none @Nat) (Data.func { name := (@PySem.Str.ofString "insort_right"), qualname := (@PySem.Str.ofString "insort_right"), params := prmAt 6, body := .stmts (bdyAt 6), scope := scpAt 6, globals := 3, closure := [], defaults := (@PySem.Value.ref 36), kwdefaults := (@PySem.Value.ref 37), doc := @PySem.Value.none, pyModule := (@PySem.Value.str (@PySem.Str.ofString "cpy313.bisect") 227), annotations := (@Option.none @Nat), code := (@PySem.Value.ref 43), closureTuple := @PySem.Value.none, builtins := 0 }) #[]
noncomputable def oC_45 (P : Params) : Obj := Obj.mk (@PySem.Value.type "tuple") (@Option.none @Nat) (@PySem.Data.seq #[(@PySem.Value.int 0 242), @PySem.Value.none] 0) #[]
noncomputable def oC_46 (P : Params) : Obj := Obj.mk (@PySem.Value.type "dict") (@Option.none @Nat) (@PySem.Data.dict #[⟨(@PySem.PyData.keyHash P (@PySem.Str.ofString "key")), (@PySem.Value.str (@PySem.Str.ofString "key") 243), @PySem.Value.none⟩] 1) #[]
noncomputable def oC_47 (P : Params) : Obj := Obj.mk (@PySem.Value.type "tuple") (@Option.none @Nat) (@PySem.Data.seq #[] 0) #[]
noncomputable def oC_48 (P : Params) : Obj := Obj.mk @PySem.Value.none (@Option.none @Nat) (@PySem.Data.fields #[]) #[]
noncomputable def oC_49 (P : Params) : Obj := Obj.mk (@PySem.Value.type "tuple") (@Option.none @Nat) (@PySem.Data.seq #[(@PySem.Value.str (@PySem.Str.ofString "a") 247), (@PySem.Value.str (@PySem.Str.ofString "x") 248), (@PySem.Value.str (@PySem.Str.ofString "lo") 249), (@PySem.Value.str (@PySem.Str.ofString "hi") 250), (@PySem.Value.str (@PySem.Str.ofString "key") 251), (@PySem.Value.str (@PySem.Str.ofString "mid") 252)] 0) #[]
noncomputable def oC_50 (P : Params) : Obj := Obj.mk (@PySem.Value.type "tuple") (@Option.none @Nat) (@PySem.Data.seq #[] 0) #[]
noncomputable def oC_51 (P : Params) : Obj := Obj.mk @PySem.Value.none (@Option.none @Nat) (Data.func { name := (@PySem.Str.ofString "bisect_right"), qualname := (@PySem.Str.ofString "bisect_right"), params := prmAt 7, body := .stmts (bdyAt 7), scope := scpAt 7, globals := 0, closure := [], defaults := @PySem.Value.none, kwdefaults := @PySem.Value.none, doc := @PySem.Value.none, pyModule := @PySem.Value.none, annotations := (@Option.none @Nat), code := @PySem.Value.none, closureTuple := @PySem.Value.none, builtins := 0 }) #[]
noncomputable def oC_52 (P : Params) : Obj := Obj.mk (@PySem.Value.type "code") (@Option.none @Nat) (@PySem.Data.fields #[(@PySem.Value.str (@PySem.Str.ofString "bisect_right") 244), (@PySem.Value.str (@PySem.Str.ofString "bisect_right") 245), (@PySem.Value.str (@PySem.Str.ofString "/claim/cut.py") 246), (@PySem.Value.int 54 0), (@PySem.Value.int 4 0), (@PySem.Value.int 0 0), (@PySem.Value.int 1 0), (@PySem.Value.int 3 0), (@PySem.Value.ref 47), (@PySem.Value.bool @Bool.true), (@PySem.Value.int 181 0), (@PySem.Value.ref 48), @PySem.Value.none, (@PySem.Value.ref 49), (@PySem.Value.ref 50), (@PySem.Value.ref 51), (@PySem.Value.int 253 0), (@PySem.Value.int 54 0), (@PySem.Value.str (@PySem.Str.ofString "/claim/cut.py") 254)]) #[]
noncomputable def oC_53 (P : Params) : Obj := Obj.mk (@PySem.Value.type "function") (@Option.none @Nat) (Data.func { name := (@PySem.Str.ofString "bisect_right"), qualname := (@PySem.Str.ofString "bisect_right"), params := prmAt 7, body := .stmts (bdyAt 7), scope := scpAt 7, globals := 3, closure := [], defaults := (@PySem.Value.ref 45), kwdefaults := (@PySem.Value.ref 46), doc := @PySem.Value.none, pyModule := (@PySem.Value.str (@PySem.Str.ofString "cpy313.bisect") 227), annotations := (@Option.none @Nat), code := (@PySem.Value.ref 52), closureTuple := @PySem.Value.none, builtins := 0 }) #[]
noncomputable def oC_54 (P : Params) : Obj := Obj.mk (@PySem.Value.type "tuple") (@Option.none @Nat) (@PySem.Data.seq #[(@PySem.Value.int 0 256), @PySem.Value.none] 0) #[]
noncomputable def oC_55 (P : Params) : Obj := Obj.mk (@PySem.Value.type "dict") (@Option.none @Nat) (@PySem.Data.dict #[⟨(@PySem.PyData.keyHash P (@PySem.Str.ofString "key")), (@PySem.Value.str (@PySem.Str.ofString "key") 257), @PySem.Value.none⟩] 1) #[]
noncomputable def oC_56 (P : Params) : Obj := Obj.mk (@PySem.Value.type "tuple") (@Option.none @Nat) (@PySem.Data.seq #[] 0) #[]
noncomputable def oC_57 (P : Params) : Obj := Obj.mk @PySem.Value.none (@Option.none @Nat) (@PySem.Data.fields #[]) #[]
noncomputable def oC_58 (P : Params) : Obj := Obj.mk (@PySem.Value.type "tuple") (@Option.none @Nat) (@PySem.Data.seq #[(@PySem.Value.str (@PySem.Str.ofString "a") 261), (@PySem.Value.str (@PySem.Str.ofString "x") 262), (@PySem.Value.str (@PySem.Str.ofString "lo") 263), (@PySem.Value.str (@PySem.Str.ofString "hi") 264), (@PySem.Value.str (@PySem.Str.ofString "key") 265)] 0) #[]
noncomputable def oC_59 (P : Params) : Obj := Obj.mk (@PySem.Value.type "tuple") (@Option.none @Nat) (@PySem.Data.seq #[] 0) #[]
noncomputable def oC_60 (P : Params) : Obj := Obj.mk @PySem.Value.none (@Option.none @Nat) (Data.func { name := (@PySem.Str.ofString "insort_left"), qualname := (@PySem.Str.ofString "insort_left"), params := prmAt 8, body := .stmts (bdyAt 8), scope := scpAt 8, globals := 0, closure := [], defaults := @PySem.Value.none, kwdefaults := @PySem.Value.none, doc := @PySem.Value.none, pyModule := @PySem.Value.none, annotations := (@Option.none @Nat), code := @PySem.Value.none, closureTuple := @PySem.Value.none, builtins := 0 }) #[]
noncomputable def oC_61 (P : Params) : Obj := Obj.mk (@PySem.Value.type "code") (@Option.none @Nat) (@PySem.Data.fields #[(@PySem.Value.str (@PySem.Str.ofString "insort_left") 258), (@PySem.Value.str (@PySem.Str.ofString "insort_left") 259), (@PySem.Value.str (@PySem.Str.ofString "/claim/cut.py") 260), (@PySem.Value.int 74 0), (@PySem.Value.int 4 0), (@PySem.Value.int 0 0), (@PySem.Value.int 1 0), (@PySem.Value.int 3 0), (@PySem.Value.ref 56), (@PySem.Value.bool @Bool.true), (@PySem.Value.int 181 0), (@PySem.Value.ref 57), @PySem.Value.none, (@PySem.Value.ref 58), (@PySem.Value.ref 59), (@PySem.Value.ref 60), (@PySem.Value.int 266 0), (@PySem.Value.int 74 0), (@PySem.Value.str (@PySem.Str.ofString "/claim/cut.py") 267)]) #[]
noncomputable def oC_62 (P : Params) : Obj := Obj.mk (@PySem.Value.type "function") (@Option.none @Nat) (Data.func { name := (@PySem.Str.ofString "insort_left"), qualname := (@PySem.Str.ofString "insort_left"), params := prmAt 8, body := .stmts (bdyAt 8), scope := scpAt 8, globals := 3, closure := [], defaults := (@PySem.Value.ref 54), kwdefaults := (@PySem.Value.ref 55), doc := @PySem.Value.none, pyModule := (@PySem.Value.str (@PySem.Str.ofString "cpy313.bisect") 227), annotations := (@Option.none @Nat), code := (@PySem.Value.ref 61), closureTuple := @PySem.Value.none, builtins := 0 }) #[]
noncomputable def oC_63 (P : Params) : Obj := Obj.mk (@PySem.Value.type "tuple") (@Option.none @Nat) (@PySem.Data.seq #[(@PySem.Value.int 0 269), @PySem.Value.none] 0) #[]
noncomputable def oC_64 (P : Params) : Obj := Obj.mk (@PySem.Value.type "dict") (@Option.none @Nat) (@PySem.Data.dict #[⟨(@PySem.PyData.keyHash P (@PySem.Str.ofString "key")), (@PySem.Value.str (@PySem.Str.ofString "key") 270), @PySem.Value.none⟩] 1) #[]
noncomputable def oC_65 (P : Params) : Obj := Obj.mk (@PySem.Value.type "tuple") (@Option.none @Nat) (@PySem.Data.seq #[] 0) #[]
noncomputable def oC_66 (P : Params) : Obj := Obj.mk @PySem.Value.none (@Option.none @Nat) (@PySem.Data.fields #[]) #[]
noncomputable def oC_67 (P : Params) : Obj := Obj.mk (@PySem.Value.type "tuple") (@Option.none @Nat) (@PySem.Data.seq #[(@PySem.Value.str (@PySem.Str.ofString "a") 274), (@PySem.Value.str (@PySem.Str.ofString "x") 275), (@PySem.Value.str (@PySem.Str.ofString "lo") 276), (@PySem.Value.str (@PySem.Str.ofString "hi") 277), (@PySem.Value.str (@PySem.Str.ofString "key") 278), (@PySem.Value.str (@PySem.Str.ofString "mid") 279)] 0) #[]
noncomputable def oC_68 (P : Params) : Obj := Obj.mk (@PySem.Value.type "tuple") (@Option.none @Nat) (@PySem.Data.seq #[] 0) #[]
noncomputable def oC_69 (P : Params) : Obj := Obj.mk @PySem.Value.none (@Option.none @Nat) (Data.func { name := (@PySem.Str.ofString "bisect_left"), qualname := (@PySem.Str.ofString "bisect_left"), params := prmAt 9, body := .stmts (bdyAt 9), scope := scpAt 9, globals := 0, closure := [], defaults := @PySem.Value.none, kwdefaults := @PySem.Value.none, doc := @PySem.Value.none, pyModule := @PySem.Value.none, annotations := (@Option.none @Nat), code := @PySem.Value.none, closureTuple := @PySem.Value.none, builtins := 0 }) #[]
noncomputable def oC_70 (P : Params) : Obj := Obj.mk (@PySem.Value.type "code") (@Option.none @Nat) (@PySem.Data.fields #[(@PySem.Value.str (@PySem.Str.ofString "bisect_left") 271), (@PySem.Value.str (@PySem.Str.ofString "bisect_left") 272), (@PySem.Value.str (@PySem.Str.ofString "/claim/cut.py") 273), (@PySem.Value.int 80 0), (@PySem.Value.int 4 0), (@PySem.Value.int 0 0), (@PySem.Value.int 1 0), (@PySem.Value.int 3 0), (@PySem.Value.ref 65), (@PySem.Value.bool @Bool.true), (@PySem.Value.int 181 0), (@PySem.Value.ref 66), @PySem.Value.none, (@PySem.Value.ref 67), (@PySem.Value.ref 68), (@PySem.Value.ref 69), (@PySem.Value.int 280 0), (@PySem.Value.int 80 0), (@PySem.Value.str (@PySem.Str.ofString "/claim/cut.py") 281)]) #[]
noncomputable def oC_71 (P : Params) : Obj := Obj.mk (@PySem.Value.type "function") (@Option.none @Nat) (Data.func { name := (@PySem.Str.ofString "bisect_left"), qualname := (@PySem.Str.ofString "bisect_left"), params := prmAt 9, body := .stmts (bdyAt 9), scope := scpAt 9, globals := 3, closure := [], defaults := (@PySem.Value.ref 63), kwdefaults := (@PySem.Value.ref 64), doc := @PySem.Value.none, pyModule := (@PySem.Value.str (@PySem.Str.ofString "cpy313.bisect") 227), annotations := (@Option.none @Nat), code := (@PySem.Value.ref 70), closureTuple := @PySem.Value.none, builtins := 0 }) #[]
noncomputable def treeC (P : Params) : BT := (.node (PySem.W.boot_o_0 P) (.node (PySem.W.boot_o_1 P) (.node (oC_3 P) (.node (PySem.W.boot_o_7 P) (.node (oC_15 P) (.node (oC_31 P) (.node (oC_63 P) .nil .nil) .nil) (.node (oC_47 P) .nil .nil)) (.node (oC_23 P) (.node (oC_39 P) (.node (oC_71 P) .nil .nil) .nil) (.node (oC_55 P) .nil .nil))) (.node (oA_11 P) (.node (oC_19 P) (.node (oC_35 P) (.node (oC_67 P) .nil .nil) .nil) (.node (oC_51 P) .nil .nil)) (.node (oC_27 P) (.node (oC_43 P) .nil .nil) (.node (oC_59 P) .nil .nil)))) (.node (PySem.W.boot_o_5 P) (.node (PySem.W.boot_o_9 P) (.node (oC_17 P) (.node (oC_33 P) (.node (oC_65 P) .nil .nil) .nil) (.node (oC_49 P) .nil .nil)) (.node (oC_25 P) (.node (oC_41 P) .nil .nil) (.node (oC_57 P) .nil .nil))) (.node (oA_13 P) (.node (oC_21 P) (.node (oC_37 P) (.node (oC_69 P) .nil .nil) .nil) (.node (oC_53 P) .nil .nil)) (.node (oC_29 P) (.node (oC_45 P) .nil .nil) (.node (oC_61 P) .nil .nil))))) (.node (PySem.W.boot_o_2 P) (.node (PySem.W.boot_o_4 P) (.node (PySem.W.boot_o_8 P) (.node (oC_16 P) (.node (oC_32 P) (.node (oC_64 P) .nil .nil) .nil) (.node (oC_48 P) .nil .nil)) (.node (oC_24 P) (.node (oC_40 P) .nil .nil) (.node (oC_56 P) .nil .nil))) (.node (oC_12 P) (.node (oC_20 P) (.node (oC_36 P) (.node (oC_68 P) .nil .nil) .nil) (.node (oC_52 P) .nil .nil)) (.node (oC_28 P) (.node (oC_44 P) .nil .nil) (.node (oC_60 P) .nil .nil)))) (.node (PySem.W.boot_o_6 P) (.node (PySem.W.boot_o_10 P) (.node (oC_18 P) (.node (oC_34 P) (.node (oC_66 P) .nil .nil) .nil) (.node (oC_50 P) .nil .nil)) (.node (oC_26 P) (.node (oC_42 P) .nil .nil) (.node (oC_58 P) .nil .nil))) (.node (oA_14 P) (.node (oC_22 P) (.node (oC_38 P) (.node (oC_70 P) .nil .nil) .nil) (.node (oC_54 P) .nil .nil)) (.node (oC_30 P) (.node (oC_46 P) .nil .nil) (.node (oC_62 P) .nil .nil))))))
noncomputable def SC (w : World) (os : OsState) : SharedT := ⟨treeC w.params, 72, (@PySem.Life.mk [] [] [] 0 [] [] @Bool.false #[] [] 0 @Bool.false @Bool.false @Bool.false 0 [2000, 10, 10] @Bool.false 0 @Bool.true [] [] 0 @Bool.false), #[], (@PySem.Drawn.mk 0 0 0 0), 285, os⟩
noncomputable def oD_3 (P : Params) : Obj := Obj.mk (@PySem.Value.type "dict") (@Option.none @Nat) (@PySem.Data.dict #[⟨(@PySem.PyData.keyHash P (@PySem.Str.ofString "__name__")), (@PySem.Value.str (@PySem.Str.ofString "__name__") 165), (@PySem.Value.str (@PySem.Str.ofString "cpy313.stringprep") 283)⟩, ⟨(@PySem.PyData.keyHash P (@PySem.Str.ofString "__doc__")), (@PySem.Value.str (@PySem.Str.ofString "__doc__") 166), @PySem.Value.none⟩, ⟨(@PySem.PyData.keyHash P (@PySem.Str.ofString "__package__")), (@PySem.Value.str (@PySem.Str.ofString "__package__") 167), @PySem.Value.none⟩, ⟨(@PySem.PyData.keyHash P (@PySem.Str.ofString "__loader__")), (@PySem.Value.str (@PySem.Str.ofString "__loader__") 168), (@PySem.Value.builtin "__main__.__loader__#opaque")⟩, ⟨(@PySem.PyData.keyHash P (@PySem.Str.ofString "__spec__")), (@PySem.Value.str (@PySem.Str.ofString "__spec__") 169), @PySem.Value.none⟩, ⟨(@PySem.PyData.keyHash P (@PySem.Str.ofString "__annotations__")), (@PySem.Value.str (@PySem.Str.ofString "__annotations__") 170), (@PySem.Value.ref 6)⟩, ⟨(@PySem.PyData.keyHash P (@PySem.Str.ofString "__builtins__")), (@PySem.Value.str (@PySem.Str.ofString "__builtins__") 171), (@PySem.Value.ref 4)⟩, ⟨(@PySem.PyData.keyHash P (@PySem.Str.ofString "__file__")), (@PySem.Value.str (@PySem.Str.ofString "__file__") 173), (@PySem.Value.str (@PySem.Str.ofString "/claim/cut.py") 172)⟩, ⟨(@PySem.PyData.keyHash P (@PySem.Str.ofString "__cached__")), (@PySem.Value.str (@PySem.Str.ofString "__cached__") 174), @PySem.Value.none⟩, ⟨(@PySem.PyData.keyHash P (@PySem.Str.ofString "T")), (@PySem.Value.str (@PySem.Str.ofString "T") 197), (@PySem.Value.ref 21)⟩, ⟨(@PySem.PyData.keyHash P (@PySem.Str.ofString "digits")), (@PySem.Value.str (@PySem.Str.ofString "digits") 199), (@PySem.Value.bytes #[97, 98, 99, 100, 101, 102, 103, 104, 105, 106, 107, 108, 109, 110, 111, 112, 113, 114, 115, 116, 117, 118, 119, 120, 121, 122, 48, 49, 50, 51, 52, 53, 54, 55, 56, 57] 198)⟩, ⟨(@PySem.PyData.keyHash P (@PySem.Str.ofString "generate_generalized_integer")), (@PySem.Value.str (@PySem.Str.ofString "generate_generalized_integer") 210), (@PySem.Value.ref 28)⟩, ⟨(@PySem.PyData.keyHash P (@PySem.Str.ofString "decode_generalized_number")), (@PySem.Value.str (@PySem.Str.ofString "decode_generalized_number") 226), (@PySem.Value.ref 35)⟩, ⟨(@PySem.PyData.keyHash P (@PySem.Str.ofString "insort_right")), (@PySem.Value.str (@PySem.Str.ofString "insort_right") 241), (@PySem.Value.ref 44)⟩, ⟨(@PySem.PyData.keyHash P (@PySem.Str.ofString "bisect_right")), (@PySem.Value.str (@PySem.Str.ofString "bisect_right") 255), (@PySem.Value.ref 53)⟩, ⟨(@PySem.PyData.keyHash P (@PySem.Str.ofString "insort_left")), (@PySem.Value.str (@PySem.Str.ofString "insort_left") 268), (@PySem.Value.ref 62)⟩, ⟨(@PySem.PyData.keyHash P (@PySem.Str.ofString "bisect_left")), (@PySem.Value.str (@PySem.Str.ofString "bisect_left") 282), (@PySem.Value.ref 71)⟩, ⟨(@PySem.PyData.keyHash P (@PySem.Str.ofString "b1_set")), (@PySem.Value.str (@PySem.Str.ofString "b1_set") 344), (@PySem.Value.ref 79)⟩] 18) #[]
noncomputable def oD_72 (P : Params) : Obj := Obj.mk (@PySem.Value.type "list") (@Option.none @Nat) (@PySem.Data.seq #[(@PySem.Value.int 173 285), (@PySem.Value.int 847 286), (@PySem.Value.int 6150 287), (@PySem.Value.int 6155 288), (@PySem.Value.int 6156 289), (@PySem.Value.int 6157 290), (@PySem.Value.int 8203 291), (@PySem.Value.int 8204 292), (@PySem.Value.int 8205 293), (@PySem.Value.int 8288 294), (@PySem.Value.int 65279 295)] 0) #[]
noncomputable def oD_73 (P : Params) : Obj := Obj.mk (@PySem.Value.type "range") (@Option.none @Nat) (@PySem.Data.fields #[(@PySem.Value.int 65024 296), (@PySem.Value.int 65040 297), (@PySem.Value.int 1 298)]) #[]
noncomputable def oD_74 (P : Params) : Obj := Obj.mk (@PySem.Value.type "list") (@Option.none @Nat) (@PySem.Data.seq #[(@PySem.Value.int 65024 301), (@PySem.Value.int 65025 302), (@PySem.Value.int 65026 303), (@PySem.Value.int 65027 304), (@PySem.Value.int 65028 305), (@PySem.Value.int 65029 306), (@PySem.Value.int 65030 307), (@PySem.Value.int 65031 308), (@PySem.Value.int 65032 309), (@PySem.Value.int 65033 310), (@PySem.Value.int 65034 311), (@PySem.Value.int 65035 312), (@PySem.Value.int 65036 313), (@PySem.Value.int 65037 314), (@PySem.Value.int 65038 315), (@PySem.Value.int 65039 316)] 18) #[]
noncomputable def oD_75 (P : Params) : Obj := Obj.mk (@PySem.Value.type "range_iterator") (@Option.none @Nat) (@PySem.Data.fields #[(@PySem.Value.int 65040 0), (@PySem.Value.int 0 0), (@PySem.Value.int 1 0)]) #[]
noncomputable def oD_76 (P : Params) : Obj := Obj.mk (@PySem.Value.type "tuple") (@Option.none @Nat) (@PySem.Data.seq #[] 0) #[]
noncomputable def oD_77 (P : Params) : Obj := Obj.mk (@PySem.Value.type "StopIteration") (@Option.none @Nat) (@PySem.Data.fields #[(@PySem.Value.ref 76), @PySem.Value.none, @PySem.Value.none, @PySem.Value.none, (@PySem.Value.bool @Bool.false), @PySem.Value.none]) #[]
noncomputable def oD_78 (P : Params) : Obj := Obj.mk (@PySem.Value.type "list") (@Option.none @Nat) (@PySem.Data.seq #[(@PySem.Value.int 173 285), (@PySem.Value.int 847 286), (@PySem.Value.int 6150 287), (@PySem.Value.int 6155 288), (@PySem.Value.int 6156 289), (@PySem.Value.int 6157 290), (@PySem.Value.int 8203 291), (@PySem.Value.int 8204 292), (@PySem.Value.int 8205 293), (@PySem.Value.int 8288 294), (@PySem.Value.int 65279 295), (@PySem.Value.int 65024 301), (@PySem.Value.int 65025 302), (@PySem.Value.int 65026 303), (@PySem.Value.int 65027 304), (@PySem.Value.int 65028 305), (@PySem.Value.int 65029 306), (@PySem.Value.int 65030 307), (@PySem.Value.int 65031 308), (@PySem.Value.int 65032 309), (@PySem.Value.int 65033 310), (@PySem.Value.int 65034 311), (@PySem.Value.int 65035 312), (@PySem.Value.int 65036 313), (@PySem.Value.int 65037 314), (@PySem.Value.int 65038 315), (@PySem.Value.int 65039 316)] 0) #[]
noncomputable def oD_79 (P : Params) : Obj := Obj.mk (@PySem.Value.type "set") (@Option.none @Nat) (Data.set #[(@Prod.mk @Int @PySem.Value 65024 (@PySem.Value.int 65024 301)), (@Prod.mk @Int @PySem.Value 65025 (@PySem.Value.int 65025 302)), (@Prod.mk @Int @PySem.Value 65026 (@PySem.Value.int 65026 303)), (@Prod.mk @Int @PySem.Value 65027 (@PySem.Value.int 65027 304)), (@Prod.mk @Int @PySem.Value 65028 (@PySem.Value.int 65028 305)), (@Prod.mk @Int @PySem.Value 65029 (@PySem.Value.int 65029 306)), (@Prod.mk @Int @PySem.Value 6150 (@PySem.Value.int 6150 287)), (@Prod.mk @Int @PySem.Value 65030 (@PySem.Value.int 65030 307)), (@Prod.mk @Int @PySem.Value 65031 (@PySem.Value.int 65031 308)), (@Prod.mk @Int @PySem.Value 65032 (@PySem.Value.int 65032 309)), (@Prod.mk @Int @PySem.Value 65033 (@PySem.Value.int 65033 310)), (@Prod.mk @Int @PySem.Value 6155 (@PySem.Value.int 6155 288)), (@Prod.mk @Int @PySem.Value 6156 (@PySem.Value.int 6156 289)), (@Prod.mk @Int @PySem.Value 6157 (@PySem.Value.int 6157 290)), (@Prod.mk @Int @PySem.Value 8203 (@PySem.Value.int 8203 291)), (@Prod.mk @Int @PySem.Value 8204 (@PySem.Value.int 8204 292)), (@Prod.mk @Int @PySem.Value 8205 (@PySem.Value.int 8205 293)), (@Prod.mk @Int @PySem.Value 65034 (@PySem.Value.int 65034 311)), (@Prod.mk @Int @PySem.Value 65035 (@PySem.Value.int 65035 312)), (@Prod.mk @Int @PySem.Value 65036 (@PySem.Value.int 65036 313)), (@Prod.mk @Int @PySem.Value 65037 (@PySem.Value.int 65037 314)), (@Prod.mk @Int @PySem.Value 65038 (@PySem.Value.int 65038 315)), (@Prod.mk @Int @PySem.Value 65039 (@PySem.Value.int 65039 316)), (@Prod.mk @Int @PySem.Value 173 (@PySem.Value.int 173 285)), (@Prod.mk @Int @PySem.Value 847 (@PySem.Value.int 847 286)), (@Prod.mk @Int @PySem.Value 8288 (@PySem.Value.int 8288 294)), (@Prod.mk @Int @PySem.Value 65279 (@PySem.Value.int 65279 295))] 29 { mask := 127, place := #[0, 1, 2, 3, 4, 5, 6, 7, 8, 9, 10, 11, 12, 13, 14, 15, 16, 17, 18, 19, 20, 21, 22, 45, 79, 96, 127], dummies := #[], finger := 0, led := !P.followText "set-order", moves := 2, plain := true }) #[]
noncomputable def oD_80 (P : Params) : Obj := Obj.mk (@PySem.Value.type "list_iterator") (@Option.none @Nat) (@PySem.Data.fields #[@PySem.Value.none, (@PySem.Value.int 27 0)]) #[]
noncomputable def oD_81 (P : Params) : Obj := Obj.mk (@PySem.Value.type "tuple") (@Option.none @Nat) (@PySem.Data.seq #[] 0) #[]
noncomputable def oD_82 (P : Params) : Obj := Obj.mk (@PySem.Value.type "StopIteration") (@Option.none @Nat) (@PySem.Data.fields #[(@PySem.Value.ref 81), @PySem.Value.none, @PySem.Value.none, @PySem.Value.none, (@PySem.Value.bool @Bool.false), @PySem.Value.none]) #[]
noncomputable def treeD (P : Params) : BT := (.node (PySem.W.boot_o_0 P) (.node (PySem.W.boot_o_1 P) (.node (oD_3 P) (.node (PySem.W.boot_o_7 P) (.node (oC_15 P) (.node (oC_31 P) (.node (oC_63 P) .nil .nil) .nil) (.node (oC_47 P) (.node (oD_79 P) .nil .nil) .nil)) (.node (oC_23 P) (.node (oC_39 P) (.node (oC_71 P) .nil .nil) .nil) (.node (oC_55 P) .nil .nil))) (.node (oA_11 P) (.node (oC_19 P) (.node (oC_35 P) (.node (oC_67 P) .nil .nil) .nil) (.node (oC_51 P) .nil .nil)) (.node (oC_27 P) (.node (oC_43 P) (.node (oD_75 P) .nil .nil) .nil) (.node (oC_59 P) .nil .nil)))) (.node (PySem.W.boot_o_5 P) (.node (PySem.W.boot_o_9 P) (.node (oC_17 P) (.node (oC_33 P) (.node (oC_65 P) .nil .nil) .nil) (.node (oC_49 P) (.node (oD_81 P) .nil .nil) .nil)) (.node (oC_25 P) (.node (oC_41 P) (.node (oD_73 P) .nil .nil) .nil) (.node (oC_57 P) .nil .nil))) (.node (oA_13 P) (.node (oC_21 P) (.node (oC_37 P) (.node (oC_69 P) .nil .nil) .nil) (.node (oC_53 P) .nil .nil)) (.node (oC_29 P) (.node (oC_45 P) (.node (oD_77 P) .nil .nil) .nil) (.node (oC_61 P) .nil .nil))))) (.node (PySem.W.boot_o_2 P) (.node (PySem.W.boot_o_4 P) (.node (PySem.W.boot_o_8 P) (.node (oC_16 P) (.node (oC_32 P) (.node (oC_64 P) .nil .nil) .nil) (.node (oC_48 P) (.node (oD_80 P) .nil .nil) .nil)) (.node (oC_24 P) (.node (oC_40 P) (.node (oD_72 P) .nil .nil) .nil) (.node (oC_56 P) .nil .nil))) (.node (oC_12 P) (.node (oC_20 P) (.node (oC_36 P) (.node (oC_68 P) .nil .nil) .nil) (.node (oC_52 P) .nil .nil)) (.node (oC_28 P) (.node (oC_44 P) (.node (oD_76 P) .nil .nil) .nil) (.node (oC_60 P) .nil .nil)))) (.node (PySem.W.boot_o_6 P) (.node (PySem.W.boot_o_10 P) (.node (oC_18 P) (.node (oC_34 P) (.node (oC_66 P) .nil .nil) .nil) (.node (oC_50 P) (.node (oD_82 P) .nil .nil) .nil)) (.node (oC_26 P) (.node (oC_42 P) (.node (oD_74 P) .nil .nil) .nil) (.node (oC_58 P) .nil .nil))) (.node (oA_14 P) (.node (oC_22 P) (.node (oC_38 P) (.node (oC_70 P) .nil .nil) .nil) (.node (oC_54 P) .nil .nil)) (.node (oC_30 P) (.node (oC_46 P) (.node (oD_78 P) .nil .nil) .nil) (.node (oC_62 P) .nil .nil))))))
noncomputable def SD (w : World) (os : OsState) : SharedT := ⟨treeD w.params, 83, (@PySem.Life.mk [] [] [] 0 [] [] @Bool.false #[] [] 0 @Bool.false @Bool.false @Bool.false 0 [2000, 10, 10] @Bool.false 0 @Bool.true [] [] 0 @Bool.false), #[], (@PySem.Drawn.mk 0 0 0 0), 345, os⟩
noncomputable def oE_3 (P : Params) : Obj := Obj.mk (@PySem.Value.type "dict") (@Option.none @Nat) (@PySem.Data.dict #[⟨(@PySem.PyData.keyHash P (@PySem.Str.ofString "__name__")), (@PySem.Value.str (@PySem.Str.ofString "__name__") 165), (@PySem.Value.str (@PySem.Str.ofString "cpy313.stringprep") 283)⟩, ⟨(@PySem.PyData.keyHash P (@PySem.Str.ofString "__doc__")), (@PySem.Value.str (@PySem.Str.ofString "__doc__") 166), @PySem.Value.none⟩, ⟨(@PySem.PyData.keyHash P (@PySem.Str.ofString "__package__")), (@PySem.Value.str (@PySem.Str.ofString "__package__") 167), @PySem.Value.none⟩, ⟨(@PySem.PyData.keyHash P (@PySem.Str.ofString "__loader__")), (@PySem.Value.str (@PySem.Str.ofString "__loader__") 168), (@PySem.Value.builtin "__main__.__loader__#opaque")⟩, ⟨(@PySem.PyData.keyHash P (@PySem.Str.ofString "__spec__")), (@PySem.Value.str (@PySem.Str.ofString "__spec__") 169), @PySem.Value.none⟩, ⟨(@PySem.PyData.keyHash P (@PySem.Str.ofString "__annotations__")), (@PySem.Value.str (@PySem.Str.ofString "__annotations__") 170), (@PySem.Value.ref 6)⟩, ⟨(@PySem.PyData.keyHash P (@PySem.Str.ofString "__builtins__")), (@PySem.Value.str (@PySem.Str.ofString "__builtins__") 171), (@PySem.Value.ref 4)⟩, ⟨(@PySem.PyData.keyHash P (@PySem.Str.ofString "__file__")), (@PySem.Value.str (@PySem.Str.ofString "__file__") 173), (@PySem.Value.str (@PySem.Str.ofString "/claim/cut.py") 172)⟩, ⟨(@PySem.PyData.keyHash P (@PySem.Str.ofString "__cached__")), (@PySem.Value.str (@PySem.Str.ofString "__cached__") 174), @PySem.Value.none⟩, ⟨(@PySem.PyData.keyHash P (@PySem.Str.ofString "T")), (@PySem.Value.str (@PySem.Str.ofString "T") 197), (@PySem.Value.ref 21)⟩, ⟨(@PySem.PyData.keyHash P (@PySem.Str.ofString "digits")), (@PySem.Value.str (@PySem.Str.ofString "digits") 199), (@PySem.Value.bytes #[97, 98, 99, 100, 101, 102, 103, 104, 105, 106, 107, 108, 109, 110, 111, 112, 113, 114, 115, 116, 117, 118, 119, 120, 121, 122, 48, 49, 50, 51, 52, 53, 54, 55, 56, 57] 198)⟩, ⟨(@PySem.PyData.keyHash P (@PySem.Str.ofString "generate_generalized_integer")), (@PySem.Value.str (@PySem.Str.ofString "generate_generalized_integer") 210), (@PySem.Value.ref 28)⟩, ⟨(@PySem.PyData.keyHash P (@PySem.Str.ofString "decode_generalized_number")), (@PySem.Value.str (@PySem.Str.ofString "decode_generalized_number") 226), (@PySem.Value.ref 35)⟩, ⟨(@PySem.PyData.keyHash P (@PySem.Str.ofString "insort_right")), (@PySem.Value.str (@PySem.Str.ofString "insort_right") 241), (@PySem.Value.ref 44)⟩, ⟨(@PySem.PyData.keyHash P (@PySem.Str.ofString "bisect_right")), (@PySem.Value.str (@PySem.Str.ofString "bisect_right") 255), (@PySem.Value.ref 53)⟩, ⟨(@PySem.PyData.keyHash P (@PySem.Str.ofString "insort_left")), (@PySem.Value.str (@PySem.Str.ofString "insort_left") 268), (@PySem.Value.ref 62)⟩, ⟨(@PySem.PyData.keyHash P (@PySem.Str.ofString "bisect_left")), (@PySem.Value.str (@PySem.Str.ofString "bisect_left") 282), (@PySem.Value.ref 71)⟩, ⟨(@PySem.PyData.keyHash P (@PySem.Str.ofString "b1_set")), (@PySem.Value.str (@PySem.Str.ofString "b1_set") 344), (@PySem.Value.ref 79)⟩, ⟨(@PySem.PyData.keyHash P (@PySem.Str.ofString "in_table_b1")), (@PySem.Value.str (@PySem.Str.ofString "in_table_b1") 351), (@PySem.Value.ref 89)⟩] 19) #[]
noncomputable def oE_12 (P : Params) : Obj := Obj.mk @PySem.Value.none (@Option.none @Nat) (@PySem.Data.fields #[(@PySem.Value.int 2 0), (@PySem.Value.int 0 0), (@PySem.Value.ref 20), (@PySem.Value.int 10 0), (@PySem.Value.int 0 0), (@PySem.Value.ref 27), (@PySem.Value.int 21 0), (@PySem.Value.int 0 0), (@PySem.Value.ref 34), (@PySem.Value.int 48 0), (@PySem.Value.int 0 0), (@PySem.Value.ref 43), (@PySem.Value.int 54 0), (@PySem.Value.int 0 0), (@PySem.Value.ref 52), (@PySem.Value.int 74 0), (@PySem.Value.int 0 0), (@PySem.Value.ref 61), (@PySem.Value.int 80 0), (@PySem.Value.int 0 0), (@PySem.Value.ref 70), (@PySem.Value.int 102 0), (@PySem.Value.int 0 0), (@PySem.Value.ref 88)]) #[]
noncomputable def oE_83 (P : Params) : Obj := Obj.mk (@PySem.Value.type "tuple") (@Option.none @Nat) (@PySem.Data.seq #[] 0) #[]
noncomputable def oE_84 (P : Params) : Obj := Obj.mk @PySem.Value.none (@Option.none @Nat) (@PySem.Data.fields #[]) #[]
noncomputable def oE_85 (P : Params) : Obj := Obj.mk (@PySem.Value.type "tuple") (@Option.none @Nat) (@PySem.Data.seq #[(@PySem.Value.str (@PySem.Str.ofString "code") 348)] 0) #[]
noncomputable def oE_86 (P : Params) : Obj := Obj.mk (@PySem.Value.type "tuple") (@Option.none @Nat) (@PySem.Data.seq #[] 0) #[]
noncomputable def oE_87 (P : Params) : Obj := Obj.mk @PySem.Value.none (@Option.none @Nat) (Data.func { name := (@PySem.Str.ofString "in_table_b1"), qualname := (@PySem.Str.ofString "in_table_b1"), params := prmAt 12, body := .stmts (bdyAt 12), scope := scpAt 12, globals := 0, closure := [], defaults := @PySem.Value.none, kwdefaults := @PySem.Value.none, doc := @PySem.Value.none, pyModule := @PySem.Value.none, annotations := (@Option.none @Nat), code := @PySem.Value.none, closureTuple := @PySem.Value.none, builtins := 0 }) #[]
noncomputable def oE_88 (P : Params) : Obj := Obj.mk (@PySem.Value.type "code") (@Option.none @Nat) (@PySem.Data.fields #[(@PySem.Value.str (@PySem.Str.ofString "in_table_b1") 345), (@PySem.Value.str (@PySem.Str.ofString "in_table_b1") 346), (@PySem.Value.str (@PySem.Str.ofString "/claim/cut.py") 347), (@PySem.Value.int 102 0), (@PySem.Value.int 1 0), (@PySem.Value.int 0 0), (@PySem.Value.int 0 0), (@PySem.Value.int 3 0), (@PySem.Value.ref 83), (@PySem.Value.bool @Bool.true), (@PySem.Value.int 181 0), (@PySem.Value.ref 84), @PySem.Value.none, (@PySem.Value.ref 85), (@PySem.Value.ref 86), (@PySem.Value.ref 87), (@PySem.Value.int 349 0), (@PySem.Value.int 102 0), (@PySem.Value.str (@PySem.Str.ofString "/claim/cut.py") 350)]) #[]
noncomputable def oE_89 (P : Params) : Obj := Obj.mk (@PySem.Value.type "function") (@Option.none @Nat) (Data.func { name := (@PySem.Str.ofString "in_table_b1"), qualname := (@PySem.Str.ofString "in_table_b1"), params := prmAt 12, body := .stmts (bdyAt 12), scope := scpAt 12, globals := 3, closure := [], defaults := @PySem.Value.none, kwdefaults := @PySem.Value.none, doc := @PySem.Value.none, pyModule := (@PySem.Value.str (@PySem.Str.ofString "cpy313.stringprep") 283), annotations := (@Option.none @Nat), code := (@PySem.Value.ref 88), closureTuple := @PySem.Value.none, builtins := 0 }) #[]
noncomputable def treeE (P : Params) : BT := (.node (PySem.W.boot_o_0 P) (.node (PySem.W.boot_o_1 P) (.node (oE_3 P) (.node (PySem.W.boot_o_7 P) (.node (oC_15 P) (.node (oC_31 P) (.node (oC_63 P) .nil .nil) .nil) (.node (oC_47 P) (.node (oD_79 P) .nil .nil) .nil)) (.node (oC_23 P) (.node (oC_39 P) (.node (oC_71 P) .nil .nil) .nil) (.node (oC_55 P) (.node (oE_87 P) .nil .nil) .nil))) (.node (oA_11 P) (.node (oC_19 P) (.node (oC_35 P) (.node (oC_67 P) .nil .nil) .nil) (.node (oC_51 P) (.node (oE_83 P) .nil .nil) .nil)) (.node (oC_27 P) (.node (oC_43 P) (.node (oD_75 P) .nil .nil) .nil) (.node (oC_59 P) .nil .nil)))) (.node (PySem.W.boot_o_5 P) (.node (PySem.W.boot_o_9 P) (.node (oC_17 P) (.node (oC_33 P) (.node (oC_65 P) .nil .nil) .nil) (.node (oC_49 P) (.node (oD_81 P) .nil .nil) .nil)) (.node (oC_25 P) (.node (oC_41 P) (.node (oD_73 P) .nil .nil) .nil) (.node (oC_57 P) (.node (oE_89 P) .nil .nil) .nil))) (.node (oA_13 P) (.node (oC_21 P) (.node (oC_37 P) (.node (oC_69 P) .nil .nil) .nil) (.node (oC_53 P) (.node (oE_85 P) .nil .nil) .nil)) (.node (oC_29 P) (.node (oC_45 P) (.node (oD_77 P) .nil .nil) .nil) (.node (oC_61 P) .nil .nil))))) (.node (PySem.W.boot_o_2 P) (.node (PySem.W.boot_o_4 P) (.node (PySem.W.boot_o_8 P) (.node (oC_16 P) (.node (oC_32 P) (.node (oC_64 P) .nil .nil) .nil) (.node (oC_48 P) (.node (oD_80 P) .nil .nil) .nil)) (.node (oC_24 P) (.node (oC_40 P) (.node (oD_72 P) .nil .nil) .nil) (.node (oC_56 P) (.node (oE_88 P) .nil .nil) .nil))) (.node (oE_12 P) (.node (oC_20 P) (.node (oC_36 P) (.node (oC_68 P) .nil .nil) .nil) (.node (oC_52 P) (.node (oE_84 P) .nil .nil) .nil)) (.node (oC_28 P) (.node (oC_44 P) (.node (oD_76 P) .nil .nil) .nil) (.node (oC_60 P) .nil .nil)))) (.node (PySem.W.boot_o_6 P) (.node (PySem.W.boot_o_10 P) (.node (oC_18 P) (.node (oC_34 P) (.node (oC_66 P) .nil .nil) .nil) (.node (oC_50 P) (.node (oD_82 P) .nil .nil) .nil)) (.node (oC_26 P) (.node (oC_42 P) (.node (oD_74 P) .nil .nil) .nil) (.node (oC_58 P) .nil .nil))) (.node (oA_14 P) (.node (oC_22 P) (.node (oC_38 P) (.node (oC_70 P) .nil .nil) .nil) (.node (oC_54 P) (.node (oE_86 P) .nil .nil) .nil)) (.node (oC_30 P) (.node (oC_46 P) (.node (oD_78 P) .nil .nil) .nil) (.node (oC_62 P) .nil .nil))))))
noncomputable def SE (w : World) (os : OsState) : SharedT := ⟨treeE w.params, 90, (@PySem.Life.mk [] [] [] 0 [] [] @Bool.false #[] [] 0 @Bool.false @Bool.false @Bool.false 0 [2000, 10, 10] @Bool.false 0 @Bool.true [] [] 0 @Bool.false), #[], (@PySem.Drawn.mk 0 0 0 0), 352, os⟩
noncomputable def b3Dict : Expr := match stAt 13 with | .Assign _ d _ => d | _ => default
noncomputable def b3Keys : List (Option Expr) := match b3Dict with | .Dict ks _ _ => ks | _ => []
noncomputable def b3Vals : List Expr := match b3Dict with | .Dict _ vs _ => vs | _ => []
noncomputable def b3Pos : Pos := match b3Dict with | .Dict _ _ p => p | _ => default
noncomputable def kvOf : List (Option Expr) → List Expr → List (Nat × Str)
  | some (.Constant (.int n) _ _) :: ks, .Constant (.str s) _ _ :: vs => (n.toNat, s) :: kvOf ks vs
  | _, _ => []
noncomputable def b3L : List (Nat × Str) := kvOf b3Keys b3Vals
noncomputable def chunkK (k : Nat) : List (Nat × Str) := (b3L.drop (17 * k)).take 17
noncomputable def lastK : List (Nat × Str) := b3L.drop 646
noncomputable def ent (t : Nat) : List (Nat × Str) → List DictEntry
  | [] => []
  | (n, x) :: r => ⟨(n : Int), .int (n : Int) t, .str x (t + 1)⟩ :: ent (t + 3) r
noncomputable def entS (t : Nat) : List (Nat × Str) → List DictEntry
  | [] => []
  | (n, x) :: r => ⟨(n : Int), .int (n : Int) t, .str x (t + 1)⟩ :: entS (t + 2) r
noncomputable def dO (L : List DictEntry) : Obj := ⟨.type "dict", none, .dict L.toArray L.length, #[]⟩
noncomputable def bigL : List DictEntry := ent 352 (b3L.take 646) ++ entS 2290 lastK
noncomputable def oF_90 (_ : Params) : Obj := dO bigL
noncomputable def oF_91 (_ : Params) : Obj := dO (ent 403 (chunkK 1))
noncomputable def oF_92 (_ : Params) : Obj := dO (ent 454 (chunkK 2))
noncomputable def oF_93 (_ : Params) : Obj := dO (ent 505 (chunkK 3))
noncomputable def oF_94 (_ : Params) : Obj := dO (ent 556 (chunkK 4))
noncomputable def oF_95 (_ : Params) : Obj := dO (ent 607 (chunkK 5))
noncomputable def oF_96 (_ : Params) : Obj := dO (ent 658 (chunkK 6))
noncomputable def oF_97 (_ : Params) : Obj := dO (ent 709 (chunkK 7))
noncomputable def oF_98 (_ : Params) : Obj := dO (ent 760 (chunkK 8))
noncomputable def oF_99 (_ : Params) : Obj := dO (ent 811 (chunkK 9))
noncomputable def oF_100 (_ : Params) : Obj := dO (ent 862 (chunkK 10))
noncomputable def oF_101 (_ : Params) : Obj := dO (ent 913 (chunkK 11))
noncomputable def oF_102 (_ : Params) : Obj := dO (ent 964 (chunkK 12))
noncomputable def oF_103 (_ : Params) : Obj := dO (ent 1015 (chunkK 13))
noncomputable def oF_104 (_ : Params) : Obj := dO (ent 1066 (chunkK 14))
noncomputable def oF_105 (_ : Params) : Obj := dO (ent 1117 (chunkK 15))
noncomputable def oF_106 (_ : Params) : Obj := dO (ent 1168 (chunkK 16))
noncomputable def oF_107 (_ : Params) : Obj := dO (ent 1219 (chunkK 17))
noncomputable def oF_108 (_ : Params) : Obj := dO (ent 1270 (chunkK 18))
noncomputable def oF_109 (_ : Params) : Obj := dO (ent 1321 (chunkK 19))
noncomputable def oF_110 (_ : Params) : Obj := dO (ent 1372 (chunkK 20))
noncomputable def oF_111 (_ : Params) : Obj := dO (ent 1423 (chunkK 21))
noncomputable def oF_112 (_ : Params) : Obj := dO (ent 1474 (chunkK 22))
noncomputable def oF_113 (_ : Params) : Obj := dO (ent 1525 (chunkK 23))
noncomputable def oF_114 (_ : Params) : Obj := dO (ent 1576 (chunkK 24))
noncomputable def oF_115 (_ : Params) : Obj := dO (ent 1627 (chunkK 25))
noncomputable def oF_116 (_ : Params) : Obj := dO (ent 1678 (chunkK 26))
noncomputable def oF_117 (_ : Params) : Obj := dO (ent 1729 (chunkK 27))
noncomputable def oF_118 (_ : Params) : Obj := dO (ent 1780 (chunkK 28))
noncomputable def oF_119 (_ : Params) : Obj := dO (ent 1831 (chunkK 29))
noncomputable def oF_120 (_ : Params) : Obj := dO (ent 1882 (chunkK 30))
noncomputable def oF_121 (_ : Params) : Obj := dO (ent 1933 (chunkK 31))
noncomputable def oF_122 (_ : Params) : Obj := dO (ent 1984 (chunkK 32))
noncomputable def oF_123 (_ : Params) : Obj := dO (ent 2035 (chunkK 33))
noncomputable def oF_124 (_ : Params) : Obj := dO (ent 2086 (chunkK 34))
noncomputable def oF_125 (_ : Params) : Obj := dO (ent 2137 (chunkK 35))
noncomputable def oF_126 (_ : Params) : Obj := dO (ent 2188 (chunkK 36))
noncomputable def oF_127 (_ : Params) : Obj := dO (ent 2239 (chunkK 37))
noncomputable def oF_128 (_ : Params) : Obj := dO (entS 2290 lastK)
noncomputable def treeM (P : Params) : BT := (.node (PySem.W.boot_o_0 P) (.node (PySem.W.boot_o_1 P) (.node (oE_3 P) (.node (PySem.W.boot_o_7 P) (.node (oC_15 P) (.node (oC_31 P) (.node (oC_63 P) (.node (oF_127 P) .nil .nil) .nil) (.node (oF_95 P) .nil .nil)) (.node (oC_47 P) (.node (oD_79 P) .nil .nil) (.node (oF_111 P) .nil .nil))) (.node (oC_23 P) (.node (oC_39 P) (.node (oC_71 P) .nil .nil) (.node (oF_103 P) .nil .nil)) (.node (oC_55 P) (.node (oE_87 P) .nil .nil) (.node (oF_119 P) .nil .nil)))) (.node (oA_11 P) (.node (oC_19 P) (.node (oC_35 P) (.node (oC_67 P) .nil .nil) (.node (oF_99 P) .nil .nil)) (.node (oC_51 P) (.node (oE_83 P) .nil .nil) (.node (oF_115 P) .nil .nil))) (.node (oC_27 P) (.node (oC_43 P) (.node (oD_75 P) .nil .nil) (.node (oF_107 P) .nil .nil)) (.node (oC_59 P) (.node (oF_91 P) .nil .nil) (.node (oF_123 P) .nil .nil))))) (.node (PySem.W.boot_o_5 P) (.node (PySem.W.boot_o_9 P) (.node (oC_17 P) (.node (oC_33 P) (.node (oC_65 P) .nil .nil) (.node (oF_97 P) .nil .nil)) (.node (oC_49 P) (.node (oD_81 P) .nil .nil) (.node (oF_113 P) .nil .nil))) (.node (oC_25 P) (.node (oC_41 P) (.node (oD_73 P) .nil .nil) (.node (oF_105 P) .nil .nil)) (.node (oC_57 P) (.node (oE_89 P) .nil .nil) (.node (oF_121 P) .nil .nil)))) (.node (oA_13 P) (.node (oC_21 P) (.node (oC_37 P) (.node (oC_69 P) .nil .nil) (.node (oF_101 P) .nil .nil)) (.node (oC_53 P) (.node (oE_85 P) .nil .nil) (.node (oF_117 P) .nil .nil))) (.node (oC_29 P) (.node (oC_45 P) (.node (oD_77 P) .nil .nil) (.node (oF_109 P) .nil .nil)) (.node (oC_61 P) (.node (oF_93 P) .nil .nil) (.node (oF_125 P) .nil .nil)))))) (.node (PySem.W.boot_o_2 P) (.node (PySem.W.boot_o_4 P) (.node (PySem.W.boot_o_8 P) (.node (oC_16 P) (.node (oC_32 P) (.node (oC_64 P) (.node (oF_128 P) .nil .nil) .nil) (.node (oF_96 P) .nil .nil)) (.node (oC_48 P) (.node (oD_80 P) .nil .nil) (.node (oF_112 P) .nil .nil))) (.node (oC_24 P) (.node (oC_40 P) (.node (oD_72 P) .nil .nil) (.node (oF_104 P) .nil .nil)) (.node (oC_56 P) (.node (oE_88 P) .nil .nil) (.node (oF_120 P) .nil .nil)))) (.node (oE_12 P) (.node (oC_20 P) (.node (oC_36 P) (.node (oC_68 P) .nil .nil) (.node (oF_100 P) .nil .nil)) (.node (oC_52 P) (.node (oE_84 P) .nil .nil) (.node (oF_116 P) .nil .nil))) (.node (oC_28 P) (.node (oC_44 P) (.node (oD_76 P) .nil .nil) (.node (oF_108 P) .nil .nil)) (.node (oC_60 P) (.node (oF_92 P) .nil .nil) (.node (oF_124 P) .nil .nil))))) (.node (PySem.W.boot_o_6 P) (.node (PySem.W.boot_o_10 P) (.node (oC_18 P) (.node (oC_34 P) (.node (oC_66 P) .nil .nil) (.node (oF_98 P) .nil .nil)) (.node (oC_50 P) (.node (oD_82 P) .nil .nil) (.node (oF_114 P) .nil .nil))) (.node (oC_26 P) (.node (oC_42 P) (.node (oD_74 P) .nil .nil) (.node (oF_106 P) .nil .nil)) (.node (oC_58 P) (.node (oF_90 P) .nil .nil) (.node (oF_122 P) .nil .nil)))) (.node (oA_14 P) (.node (oC_22 P) (.node (oC_38 P) (.node (oC_70 P) .nil .nil) (.node (oF_102 P) .nil .nil)) (.node (oC_54 P) (.node (oE_86 P) .nil .nil) (.node (oF_118 P) .nil .nil))) (.node (oC_30 P) (.node (oC_46 P) (.node (oD_78 P) .nil .nil) (.node (oF_110 P) .nil .nil)) (.node (oC_62 P) (.node (oF_94 P) .nil .nil) (.node (oF_126 P) .nil .nil)))))))
noncomputable def SM (w : World) (os : OsState) : SharedT := ⟨treeM w.params, 129, (@PySem.Life.mk [] [] [] 0 [] [] @Bool.false #[] [] 0 @Bool.false @Bool.false @Bool.false 0 [2000, 10, 10] @Bool.false 0 @Bool.true [] [] 0 @Bool.false), #[], (@PySem.Drawn.mk 0 0 0 0), 2302, os⟩
noncomputable def oF_3 (P : Params) : Obj := Obj.mk (@PySem.Value.type "dict") (@Option.none @Nat) (@PySem.Data.dict #[⟨(@PySem.PyData.keyHash P (@PySem.Str.ofString "__name__")), (@PySem.Value.str (@PySem.Str.ofString "__name__") 165), (@PySem.Value.str (@PySem.Str.ofString "cpy313.stringprep") 283)⟩, ⟨(@PySem.PyData.keyHash P (@PySem.Str.ofString "__doc__")), (@PySem.Value.str (@PySem.Str.ofString "__doc__") 166), @PySem.Value.none⟩, ⟨(@PySem.PyData.keyHash P (@PySem.Str.ofString "__package__")), (@PySem.Value.str (@PySem.Str.ofString "__package__") 167), @PySem.Value.none⟩, ⟨(@PySem.PyData.keyHash P (@PySem.Str.ofString "__loader__")), (@PySem.Value.str (@PySem.Str.ofString "__loader__") 168), (@PySem.Value.builtin "__main__.__loader__#opaque")⟩, ⟨(@PySem.PyData.keyHash P (@PySem.Str.ofString "__spec__")), (@PySem.Value.str (@PySem.Str.ofString "__spec__") 169), @PySem.Value.none⟩, ⟨(@PySem.PyData.keyHash P (@PySem.Str.ofString "__annotations__")), (@PySem.Value.str (@PySem.Str.ofString "__annotations__") 170), (@PySem.Value.ref 6)⟩, ⟨(@PySem.PyData.keyHash P (@PySem.Str.ofString "__builtins__")), (@PySem.Value.str (@PySem.Str.ofString "__builtins__") 171), (@PySem.Value.ref 4)⟩, ⟨(@PySem.PyData.keyHash P (@PySem.Str.ofString "__file__")), (@PySem.Value.str (@PySem.Str.ofString "__file__") 173), (@PySem.Value.str (@PySem.Str.ofString "/claim/cut.py") 172)⟩, ⟨(@PySem.PyData.keyHash P (@PySem.Str.ofString "__cached__")), (@PySem.Value.str (@PySem.Str.ofString "__cached__") 174), @PySem.Value.none⟩, ⟨(@PySem.PyData.keyHash P (@PySem.Str.ofString "T")), (@PySem.Value.str (@PySem.Str.ofString "T") 197), (@PySem.Value.ref 21)⟩, ⟨(@PySem.PyData.keyHash P (@PySem.Str.ofString "digits")), (@PySem.Value.str (@PySem.Str.ofString "digits") 199), (@PySem.Value.bytes #[97, 98, 99, 100, 101, 102, 103, 104, 105, 106, 107, 108, 109, 110, 111, 112, 113, 114, 115, 116, 117, 118, 119, 120, 121, 122, 48, 49, 50, 51, 52, 53, 54, 55, 56, 57] 198)⟩, ⟨(@PySem.PyData.keyHash P (@PySem.Str.ofString "generate_generalized_integer")), (@PySem.Value.str (@PySem.Str.ofString "generate_generalized_integer") 210), (@PySem.Value.ref 28)⟩, ⟨(@PySem.PyData.keyHash P (@PySem.Str.ofString "decode_generalized_number")), (@PySem.Value.str (@PySem.Str.ofString "decode_generalized_number") 226), (@PySem.Value.ref 35)⟩, ⟨(@PySem.PyData.keyHash P (@PySem.Str.ofString "insort_right")), (@PySem.Value.str (@PySem.Str.ofString "insort_right") 241), (@PySem.Value.ref 44)⟩, ⟨(@PySem.PyData.keyHash P (@PySem.Str.ofString "bisect_right")), (@PySem.Value.str (@PySem.Str.ofString "bisect_right") 255), (@PySem.Value.ref 53)⟩, ⟨(@PySem.PyData.keyHash P (@PySem.Str.ofString "insort_left")), (@PySem.Value.str (@PySem.Str.ofString "insort_left") 268), (@PySem.Value.ref 62)⟩, ⟨(@PySem.PyData.keyHash P (@PySem.Str.ofString "bisect_left")), (@PySem.Value.str (@PySem.Str.ofString "bisect_left") 282), (@PySem.Value.ref 71)⟩, ⟨(@PySem.PyData.keyHash P (@PySem.Str.ofString "b1_set")), (@PySem.Value.str (@PySem.Str.ofString "b1_set") 344), (@PySem.Value.ref 79)⟩, ⟨(@PySem.PyData.keyHash P (@PySem.Str.ofString "in_table_b1")), (@PySem.Value.str (@PySem.Str.ofString "in_table_b1") 351), (@PySem.Value.ref 89)⟩, ⟨(@PySem.PyData.keyHash P (@PySem.Str.ofString "b3_exceptions")), (@PySem.Value.str (@PySem.Str.ofString "b3_exceptions") 2302), (@PySem.Value.ref 90)⟩] 20) #[]
noncomputable def treeF (P : Params) : BT := (.node (PySem.W.boot_o_0 P) (.node (PySem.W.boot_o_1 P) (.node (oF_3 P) (.node (PySem.W.boot_o_7 P) (.node (oC_15 P) (.node (oC_31 P) (.node (oC_63 P) (.node (oF_127 P) .nil .nil) .nil) (.node (oF_95 P) .nil .nil)) (.node (oC_47 P) (.node (oD_79 P) .nil .nil) (.node (oF_111 P) .nil .nil))) (.node (oC_23 P) (.node (oC_39 P) (.node (oC_71 P) .nil .nil) (.node (oF_103 P) .nil .nil)) (.node (oC_55 P) (.node (oE_87 P) .nil .nil) (.node (oF_119 P) .nil .nil)))) (.node (oA_11 P) (.node (oC_19 P) (.node (oC_35 P) (.node (oC_67 P) .nil .nil) (.node (oF_99 P) .nil .nil)) (.node (oC_51 P) (.node (oE_83 P) .nil .nil) (.node (oF_115 P) .nil .nil))) (.node (oC_27 P) (.node (oC_43 P) (.node (oD_75 P) .nil .nil) (.node (oF_107 P) .nil .nil)) (.node (oC_59 P) (.node (oF_91 P) .nil .nil) (.node (oF_123 P) .nil .nil))))) (.node (PySem.W.boot_o_5 P) (.node (PySem.W.boot_o_9 P) (.node (oC_17 P) (.node (oC_33 P) (.node (oC_65 P) .nil .nil) (.node (oF_97 P) .nil .nil)) (.node (oC_49 P) (.node (oD_81 P) .nil .nil) (.node (oF_113 P) .nil .nil))) (.node (oC_25 P) (.node (oC_41 P) (.node (oD_73 P) .nil .nil) (.node (oF_105 P) .nil .nil)) (.node (oC_57 P) (.node (oE_89 P) .nil .nil) (.node (oF_121 P) .nil .nil)))) (.node (oA_13 P) (.node (oC_21 P) (.node (oC_37 P) (.node (oC_69 P) .nil .nil) (.node (oF_101 P) .nil .nil)) (.node (oC_53 P) (.node (oE_85 P) .nil .nil) (.node (oF_117 P) .nil .nil))) (.node (oC_29 P) (.node (oC_45 P) (.node (oD_77 P) .nil .nil) (.node (oF_109 P) .nil .nil)) (.node (oC_61 P) (.node (oF_93 P) .nil .nil) (.node (oF_125 P) .nil .nil)))))) (.node (PySem.W.boot_o_2 P) (.node (PySem.W.boot_o_4 P) (.node (PySem.W.boot_o_8 P) (.node (oC_16 P) (.node (oC_32 P) (.node (oC_64 P) (.node (oF_128 P) .nil .nil) .nil) (.node (oF_96 P) .nil .nil)) (.node (oC_48 P) (.node (oD_80 P) .nil .nil) (.node (oF_112 P) .nil .nil))) (.node (oC_24 P) (.node (oC_40 P) (.node (oD_72 P) .nil .nil) (.node (oF_104 P) .nil .nil)) (.node (oC_56 P) (.node (oE_88 P) .nil .nil) (.node (oF_120 P) .nil .nil)))) (.node (oE_12 P) (.node (oC_20 P) (.node (oC_36 P) (.node (oC_68 P) .nil .nil) (.node (oF_100 P) .nil .nil)) (.node (oC_52 P) (.node (oE_84 P) .nil .nil) (.node (oF_116 P) .nil .nil))) (.node (oC_28 P) (.node (oC_44 P) (.node (oD_76 P) .nil .nil) (.node (oF_108 P) .nil .nil)) (.node (oC_60 P) (.node (oF_92 P) .nil .nil) (.node (oF_124 P) .nil .nil))))) (.node (PySem.W.boot_o_6 P) (.node (PySem.W.boot_o_10 P) (.node (oC_18 P) (.node (oC_34 P) (.node (oC_66 P) .nil .nil) (.node (oF_98 P) .nil .nil)) (.node (oC_50 P) (.node (oD_82 P) .nil .nil) (.node (oF_114 P) .nil .nil))) (.node (oC_26 P) (.node (oC_42 P) (.node (oD_74 P) .nil .nil) (.node (oF_106 P) .nil .nil)) (.node (oC_58 P) (.node (oF_90 P) .nil .nil) (.node (oF_122 P) .nil .nil)))) (.node (oA_14 P) (.node (oC_22 P) (.node (oC_38 P) (.node (oC_70 P) .nil .nil) (.node (oF_102 P) .nil .nil)) (.node (oC_54 P) (.node (oE_86 P) .nil .nil) (.node (oF_118 P) .nil .nil))) (.node (oC_30 P) (.node (oC_46 P) (.node (oD_78 P) .nil .nil) (.node (oF_110 P) .nil .nil)) (.node (oC_62 P) (.node (oF_94 P) .nil .nil) (.node (oF_126 P) .nil .nil)))))))
noncomputable def SF (w : World) (os : OsState) : SharedT := ⟨treeF w.params, 129, (@PySem.Life.mk [] [] [] 0 [] [] @Bool.false #[] [] 0 @Bool.false @Bool.false @Bool.false 0 [2000, 10, 10] @Bool.false 0 @Bool.true [] [] 0 @Bool.false), #[], (@PySem.Drawn.mk 0 0 0 0), 2303, os⟩
noncomputable def oG_3 (P : Params) : Obj := Obj.mk (@PySem.Value.type "dict") (@Option.none @Nat) (@PySem.Data.dict #[⟨(@PySem.PyData.keyHash P (@PySem.Str.ofString "__name__")), (@PySem.Value.str (@PySem.Str.ofString "__name__") 165), (@PySem.Value.str (@PySem.Str.ofString "law_wb0081_01") 2311)⟩, ⟨(@PySem.PyData.keyHash P (@PySem.Str.ofString "__doc__")), (@PySem.Value.str (@PySem.Str.ofString "__doc__") 166), @PySem.Value.none⟩, ⟨(@PySem.PyData.keyHash P (@PySem.Str.ofString "__package__")), (@PySem.Value.str (@PySem.Str.ofString "__package__") 167), @PySem.Value.none⟩, ⟨(@PySem.PyData.keyHash P (@PySem.Str.ofString "__loader__")), (@PySem.Value.str (@PySem.Str.ofString "__loader__") 168), (@PySem.Value.builtin "__main__.__loader__#opaque")⟩, ⟨(@PySem.PyData.keyHash P (@PySem.Str.ofString "__spec__")), (@PySem.Value.str (@PySem.Str.ofString "__spec__") 169), @PySem.Value.none⟩, ⟨(@PySem.PyData.keyHash P (@PySem.Str.ofString "__annotations__")), (@PySem.Value.str (@PySem.Str.ofString "__annotations__") 170), (@PySem.Value.ref 6)⟩, ⟨(@PySem.PyData.keyHash P (@PySem.Str.ofString "__builtins__")), (@PySem.Value.str (@PySem.Str.ofString "__builtins__") 171), (@PySem.Value.ref 4)⟩, ⟨(@PySem.PyData.keyHash P (@PySem.Str.ofString "__file__")), (@PySem.Value.str (@PySem.Str.ofString "__file__") 173), (@PySem.Value.str (@PySem.Str.ofString "/claim/cut.py") 172)⟩, ⟨(@PySem.PyData.keyHash P (@PySem.Str.ofString "__cached__")), (@PySem.Value.str (@PySem.Str.ofString "__cached__") 174), @PySem.Value.none⟩, ⟨(@PySem.PyData.keyHash P (@PySem.Str.ofString "T")), (@PySem.Value.str (@PySem.Str.ofString "T") 197), (@PySem.Value.ref 21)⟩, ⟨(@PySem.PyData.keyHash P (@PySem.Str.ofString "digits")), (@PySem.Value.str (@PySem.Str.ofString "digits") 199), (@PySem.Value.bytes #[97, 98, 99, 100, 101, 102, 103, 104, 105, 106, 107, 108, 109, 110, 111, 112, 113, 114, 115, 116, 117, 118, 119, 120, 121, 122, 48, 49, 50, 51, 52, 53, 54, 55, 56, 57] 198)⟩, ⟨(@PySem.PyData.keyHash P (@PySem.Str.ofString "generate_generalized_integer")), (@PySem.Value.str (@PySem.Str.ofString "generate_generalized_integer") 210), (@PySem.Value.ref 28)⟩, ⟨(@PySem.PyData.keyHash P (@PySem.Str.ofString "decode_generalized_number")), (@PySem.Value.str (@PySem.Str.ofString "decode_generalized_number") 226), (@PySem.Value.ref 35)⟩, ⟨(@PySem.PyData.keyHash P (@PySem.Str.ofString "insort_right")), (@PySem.Value.str (@PySem.Str.ofString "insort_right") 241), (@PySem.Value.ref 44)⟩, ⟨(@PySem.PyData.keyHash P (@PySem.Str.ofString "bisect_right")), (@PySem.Value.str (@PySem.Str.ofString "bisect_right") 255), (@PySem.Value.ref 53)⟩, ⟨(@PySem.PyData.keyHash P (@PySem.Str.ofString "insort_left")), (@PySem.Value.str (@PySem.Str.ofString "insort_left") 268), (@PySem.Value.ref 62)⟩, ⟨(@PySem.PyData.keyHash P (@PySem.Str.ofString "bisect_left")), (@PySem.Value.str (@PySem.Str.ofString "bisect_left") 282), (@PySem.Value.ref 71)⟩, ⟨(@PySem.PyData.keyHash P (@PySem.Str.ofString "b1_set")), (@PySem.Value.str (@PySem.Str.ofString "b1_set") 344), (@PySem.Value.ref 79)⟩, ⟨(@PySem.PyData.keyHash P (@PySem.Str.ofString "in_table_b1")), (@PySem.Value.str (@PySem.Str.ofString "in_table_b1") 351), (@PySem.Value.ref 89)⟩, ⟨(@PySem.PyData.keyHash P (@PySem.Str.ofString "b3_exceptions")), (@PySem.Value.str (@PySem.Str.ofString "b3_exceptions") 2302), (@PySem.Value.ref 90)⟩, ⟨(@PySem.PyData.keyHash P (@PySem.Str.ofString "map_table_b3")), (@PySem.Value.str (@PySem.Str.ofString "map_table_b3") 2310), (@PySem.Value.ref 135)⟩, ⟨(@PySem.PyData.keyHash P (@PySem.Str.ofString "_law_letter")), (@PySem.Value.str (@PySem.Str.ofString "_law_letter") 2321), (@PySem.Value.ref 142)⟩, ⟨(@PySem.PyData.keyHash P (@PySem.Str.ofString "_law_typed")), (@PySem.Value.str (@PySem.Str.ofString "_law_typed") 2331), (@PySem.Value.ref 149)⟩, ⟨(@PySem.PyData.keyHash P (@PySem.Str.ofString "_law_unseen")), (@PySem.Value.str (@PySem.Str.ofString "_law_unseen") 2338), (@PySem.Value.ref 156)⟩, ⟨(@PySem.PyData.keyHash P (@PySem.Str.ofString "_law_prepared")), (@PySem.Value.str (@PySem.Str.ofString "_law_prepared") 2348), (@PySem.Value.ref 163)⟩, ⟨(@PySem.PyData.keyHash P (@PySem.Str.ofString "_law_number")), (@PySem.Value.str (@PySem.Str.ofString "_law_number") 2359), (@PySem.Value.ref 170)⟩, ⟨(@PySem.PyData.keyHash P (@PySem.Str.ofString "_law_counted")), (@PySem.Value.str (@PySem.Str.ofString "_law_counted") 2371), (@PySem.Value.ref 177)⟩, ⟨(@PySem.PyData.keyHash P (@PySem.Str.ofString "_law_read")), (@PySem.Value.str (@PySem.Str.ofString "_law_read") 2377), (@PySem.Value.ref 182)⟩, ⟨(@PySem.PyData.keyHash P (@PySem.Str.ofString "law")), (@PySem.Value.str (@PySem.Str.ofString "law") 2383), (@PySem.Value.ref 187)⟩] 29) #[]
noncomputable def oG_12 (P : Params) : Obj := Obj.mk @PySem.Value.none (@Option.none @Nat) (@PySem.Data.fields #[(@PySem.Value.int 2 0), (@PySem.Value.int 0 0), (@PySem.Value.ref 20), (@PySem.Value.int 10 0), (@PySem.Value.int 0 0), (@PySem.Value.ref 27), (@PySem.Value.int 21 0), (@PySem.Value.int 0 0), (@PySem.Value.ref 34), (@PySem.Value.int 48 0), (@PySem.Value.int 0 0), (@PySem.Value.ref 43), (@PySem.Value.int 54 0), (@PySem.Value.int 0 0), (@PySem.Value.ref 52), (@PySem.Value.int 74 0), (@PySem.Value.int 0 0), (@PySem.Value.ref 61), (@PySem.Value.int 80 0), (@PySem.Value.int 0 0), (@PySem.Value.ref 70), (@PySem.Value.int 102 0), (@PySem.Value.int 0 0), (@PySem.Value.ref 88), (@PySem.Value.int 105 0), (@PySem.Value.int 0 0), (@PySem.Value.ref 134), (@PySem.Value.int 111 0), (@PySem.Value.int 0 0), (@PySem.Value.ref 141), (@PySem.Value.int 116 0), (@PySem.Value.int 0 0), (@PySem.Value.ref 148), (@PySem.Value.int 127 0), (@PySem.Value.int 0 0), (@PySem.Value.ref 155), (@PySem.Value.int 131 0), (@PySem.Value.int 0 0), (@PySem.Value.ref 162), (@PySem.Value.int 140 0), (@PySem.Value.int 0 0), (@PySem.Value.ref 169), (@PySem.Value.int 146 0), (@PySem.Value.int 0 0), (@PySem.Value.ref 176), (@PySem.Value.int 154 0), (@PySem.Value.int 0 0), (@PySem.Value.ref 181), (@PySem.Value.int 168 0), (@PySem.Value.int 0 0), (@PySem.Value.ref 186)]) #[]
noncomputable def oG_129 (P : Params) : Obj := Obj.mk (@PySem.Value.type "tuple") (@Option.none @Nat) (@PySem.Data.seq #[] 0) #[]
noncomputable def oG_130 (P : Params) : Obj := Obj.mk @PySem.Value.none (@Option.none @Nat) (@PySem.Data.fields #[]) #[]
noncomputable def oG_131 (P : Params) : Obj := Obj.mk (@PySem.Value.type "tuple") (@Option.none @Nat) (@PySem.Data.seq #[(@PySem.Value.str (@PySem.Str.ofString "code") 2306), (@PySem.Value.str (@PySem.Str.ofString "r") 2307)] 0) #[]
noncomputable def oG_132 (P : Params) : Obj := Obj.mk (@PySem.Value.type "tuple") (@Option.none @Nat) (@PySem.Data.seq #[] 0) #[]
noncomputable def oG_133 (P : Params) : Obj := Obj.mk @PySem.Value.none (@Option.none @Nat) (Data.func { name := (@PySem.Str.ofString "map_table_b3"), qualname := (@PySem.Str.ofString "map_table_b3"), params := prmAt 14, body := .stmts (bdyAt 14), scope := scpAt 14, globals := 0, closure := [], defaults := @PySem.Value.none, kwdefaults := @PySem.Value.none, doc := @PySem.Value.none, pyModule := @PySem.Value.none, annotations := (@Option.none @Nat), code := @PySem.Value.none, closureTuple := @PySem.Value.none, builtins := 0 }) #[]
noncomputable def oG_134 (P : Params) : Obj := Obj.mk (@PySem.Value.type "code") (@Option.none @Nat) (@PySem.Data.fields #[(@PySem.Value.str (@PySem.Str.ofString "map_table_b3") 2303), (@PySem.Value.str (@PySem.Str.ofString "map_table_b3") 2304), (@PySem.Value.str (@PySem.Str.ofString "/claim/cut.py") 2305), (@PySem.Value.int 105 0), (@PySem.Value.int 1 0), (@PySem.Value.int 0 0), (@PySem.Value.int 0 0), (@PySem.Value.int 3 0), (@PySem.Value.ref 129), (@PySem.Value.bool @Bool.true), (@PySem.Value.int 181 0), (@PySem.Value.ref 130), @PySem.Value.none, (@PySem.Value.ref 131), (@PySem.Value.ref 132), (@PySem.Value.ref 133), (@PySem.Value.int 2308 0), (@PySem.Value.int 105 0), (@PySem.Value.str (@PySem.Str.ofString "/claim/cut.py") 2309)]) #[]
noncomputable def oG_135 (P : Params) : Obj := Obj.mk (@PySem.Value.type "function") (@Option.none @Nat) (Data.func { name := (@PySem.Str.ofString "map_table_b3"), qualname := (@PySem.Str.ofString "map_table_b3"), params := prmAt 14, body := .stmts (bdyAt 14), scope := scpAt 14, globals := 3, closure := [], defaults := @PySem.Value.none, kwdefaults := @PySem.Value.none, doc := @PySem.Value.none, pyModule := (@PySem.Value.str (@PySem.Str.ofString "cpy313.stringprep") 283), annotations := (@Option.none @Nat), code := (@PySem.Value.ref 134), closureTuple := @PySem.Value.none, builtins := 0 }) #[]
noncomputable def oG_136 (P : Params) : Obj := Obj.mk (@PySem.Value.type "tuple") (@Option.none @Nat) (@PySem.Data.seq #[] 0) #[]
noncomputable def oG_137 (P : Params) : Obj := Obj.mk @PySem.Value.none (@Option.none @Nat) (@PySem.Data.fields #[]) #[]
noncomputable def oG_138 (P : Params) : Obj := Obj.mk (@PySem.Value.type "tuple") (@Option.none @Nat) (@PySem.Data.seq #[(@PySem.Value.str (@PySem.Str.ofString "letter") 2316), (@PySem.Value.str (@PySem.Str.ofString "form") 2317), (@PySem.Value.str (@PySem.Str.ofString "alphabet") 2318)] 0) #[]
noncomputable def oG_139 (P : Params) : Obj := Obj.mk (@PySem.Value.type "tuple") (@Option.none @Nat) (@PySem.Data.seq #[] 0) #[]
noncomputable def oG_140 (P : Params) : Obj := Obj.mk @PySem.Value.none (@Option.none @Nat) (Data.func { name := (@PySem.Str.ofString "_law_letter"), qualname := (@PySem.Str.ofString "_law_letter"), params := prmAt 16, body := .stmts (bdyAt 16), scope := scpAt 16, globals := 0, closure := [], defaults := @PySem.Value.none, kwdefaults := @PySem.Value.none, doc := @PySem.Value.none, pyModule := @PySem.Value.none, annotations := (@Option.none @Nat), code := @PySem.Value.none, closureTuple := @PySem.Value.none, builtins := 0 }) #[]
noncomputable def oG_141 (P : Params) : Obj := Obj.mk (@PySem.Value.type "code") (@Option.none @Nat) (@PySem.Data.fields #[(@PySem.Value.str (@PySem.Str.ofString "_law_letter") 2313), (@PySem.Value.str (@PySem.Str.ofString "_law_letter") 2314), (@PySem.Value.str (@PySem.Str.ofString "/claim/cut.py") 2315), (@PySem.Value.int 111 0), (@PySem.Value.int 2 0), (@PySem.Value.int 0 0), (@PySem.Value.int 0 0), (@PySem.Value.int 3 0), (@PySem.Value.ref 136), (@PySem.Value.bool @Bool.true), (@PySem.Value.int 181 0), (@PySem.Value.ref 137), @PySem.Value.none, (@PySem.Value.ref 138), (@PySem.Value.ref 139), (@PySem.Value.ref 140), (@PySem.Value.int 2319 0), (@PySem.Value.int 111 0), (@PySem.Value.str (@PySem.Str.ofString "/claim/cut.py") 2320)]) #[]
noncomputable def oG_142 (P : Params) : Obj := Obj.mk (@PySem.Value.type "function") (@Option.none @Nat) (Data.func { name := (@PySem.Str.ofString "_law_letter"), qualname := (@PySem.Str.ofString "_law_letter"), params := prmAt 16, body := .stmts (bdyAt 16), scope := scpAt 16, globals := 3, closure := [], defaults := @PySem.Value.none, kwdefaults := @PySem.Value.none, doc := @PySem.Value.none, pyModule := (@PySem.Value.str (@PySem.Str.ofString "law_wb0081_01") 2311), annotations := (@Option.none @Nat), code := (@PySem.Value.ref 141), closureTuple := @PySem.Value.none, builtins := 0 }) #[]
noncomputable def oG_143 (P : Params) : Obj := Obj.mk (@PySem.Value.type "tuple") (@Option.none @Nat) (@PySem.Data.seq #[] 0) #[]
noncomputable def oG_144 (P : Params) : Obj := Obj.mk @PySem.Value.none (@Option.none @Nat) (@PySem.Data.fields #[]) #[]
noncomputable def oG_145 (P : Params) : Obj := Obj.mk (@PySem.Value.type "tuple") (@Option.none @Nat) (@PySem.Data.seq #[(@PySem.Value.str (@PySem.Str.ofString "number") 2325), (@PySem.Value.str (@PySem.Str.ofString "part") 2326), (@PySem.Value.str (@PySem.Str.ofString "signs") 2327), (@PySem.Value.str (@PySem.Str.ofString "means") 2328)] 0) #[]
noncomputable def oG_146 (P : Params) : Obj := Obj.mk (@PySem.Value.type "tuple") (@Option.none @Nat) (@PySem.Data.seq #[] 0) #[]
noncomputable def oG_147 (P : Params) : Obj := Obj.mk @PySem.Value.none (@Option.none @Nat) (Data.func { name := (@PySem.Str.ofString "_law_typed"), qualname := (@PySem.Str.ofString "_law_typed"), params := prmAt 17, body := .stmts (bdyAt 17), scope := scpAt 17, globals := 0, closure := [], defaults := @PySem.Value.none, kwdefaults := @PySem.Value.none, doc := @PySem.Value.none, pyModule := @PySem.Value.none, annotations := (@Option.none @Nat), code := @PySem.Value.none, closureTuple := @PySem.Value.none, builtins := 0 }) #[]
noncomputable def oG_148 (P : Params) : Obj := Obj.mk (@PySem.Value.type "code") (@Option.none @Nat) (@PySem.Data.fields #[(@PySem.Value.str (@PySem.Str.ofString "_law_typed") 2322), (@PySem.Value.str (@PySem.Str.ofString "_law_typed") 2323), (@PySem.Value.str (@PySem.Str.ofString "/claim/cut.py") 2324), (@PySem.Value.int 116 0), (@PySem.Value.int 1 0), (@PySem.Value.int 0 0), (@PySem.Value.int 0 0), (@PySem.Value.int 3 0), (@PySem.Value.ref 143), (@PySem.Value.bool @Bool.true), (@PySem.Value.int 181 0), (@PySem.Value.ref 144), @PySem.Value.none, (@PySem.Value.ref 145), (@PySem.Value.ref 146), (@PySem.Value.ref 147), (@PySem.Value.int 2329 0), (@PySem.Value.int 116 0), (@PySem.Value.str (@PySem.Str.ofString "/claim/cut.py") 2330)]) #[]
noncomputable def oG_149 (P : Params) : Obj := Obj.mk (@PySem.Value.type "function") (@Option.none @Nat) (Data.func { name := (@PySem.Str.ofString "_law_typed"), qualname := (@PySem.Str.ofString "_law_typed"), params := prmAt 17, body := .stmts (bdyAt 17), scope := scpAt 17, globals := 3, closure := [], defaults := @PySem.Value.none, kwdefaults := @PySem.Value.none, doc := @PySem.Value.none, pyModule := (@PySem.Value.str (@PySem.Str.ofString "law_wb0081_01") 2311), annotations := (@Option.none @Nat), code := (@PySem.Value.ref 148), closureTuple := @PySem.Value.none, builtins := 0 }) #[]
noncomputable def oG_150 (P : Params) : Obj := Obj.mk (@PySem.Value.type "tuple") (@Option.none @Nat) (@PySem.Data.seq #[] 0) #[]
noncomputable def oG_151 (P : Params) : Obj := Obj.mk @PySem.Value.none (@Option.none @Nat) (@PySem.Data.fields #[]) #[]
noncomputable def oG_152 (P : Params) : Obj := Obj.mk (@PySem.Value.type "tuple") (@Option.none @Nat) (@PySem.Data.seq #[(@PySem.Value.str (@PySem.Str.ofString "number") 2335)] 0) #[]
noncomputable def oG_153 (P : Params) : Obj := Obj.mk (@PySem.Value.type "tuple") (@Option.none @Nat) (@PySem.Data.seq #[] 0) #[]
noncomputable def oG_154 (P : Params) : Obj := Obj.mk @PySem.Value.none (@Option.none @Nat) (Data.func { name := (@PySem.Str.ofString "_law_unseen"), qualname := (@PySem.Str.ofString "_law_unseen"), params := prmAt 18, body := .stmts (bdyAt 18), scope := scpAt 18, globals := 0, closure := [], defaults := @PySem.Value.none, kwdefaults := @PySem.Value.none, doc := @PySem.Value.none, pyModule := @PySem.Value.none, annotations := (@Option.none @Nat), code := @PySem.Value.none, closureTuple := @PySem.Value.none, builtins := 0 }) #[]
noncomputable def oG_155 (P : Params) : Obj := Obj.mk (@PySem.Value.type "code") (@Option.none @Nat) (@PySem.Data.fields #[(@PySem.Value.str (@PySem.Str.ofString "_law_unseen") 2332), (@PySem.Value.str (@PySem.Str.ofString "_law_unseen") 2333), (@PySem.Value.str (@PySem.Str.ofString "/claim/cut.py") 2334), (@PySem.Value.int 127 0), (@PySem.Value.int 1 0), (@PySem.Value.int 0 0), (@PySem.Value.int 0 0), (@PySem.Value.int 3 0), (@PySem.Value.ref 150), (@PySem.Value.bool @Bool.true), (@PySem.Value.int 181 0), (@PySem.Value.ref 151), @PySem.Value.none, (@PySem.Value.ref 152), (@PySem.Value.ref 153), (@PySem.Value.ref 154), (@PySem.Value.int 2336 0), (@PySem.Value.int 127 0), (@PySem.Value.str (@PySem.Str.ofString "/claim/cut.py") 2337)]) #[]
noncomputable def oG_156 (P : Params) : Obj := Obj.mk (@PySem.Value.type "function") (@Option.none @Nat) (Data.func { name := (@PySem.Str.ofString "_law_unseen"), qualname := (@PySem.Str.ofString "_law_unseen"), params := prmAt 18, body := .stmts (bdyAt 18), scope := scpAt 18, globals := 3, closure := [], defaults := @PySem.Value.none, kwdefaults := @PySem.Value.none, doc := @PySem.Value.none, pyModule := (@PySem.Value.str (@PySem.Str.ofString "law_wb0081_01") 2311), annotations := (@Option.none @Nat), code := (@PySem.Value.ref 155), closureTuple := @PySem.Value.none, builtins := 0 }) #[]
noncomputable def oG_157 (P : Params) : Obj := Obj.mk (@PySem.Value.type "tuple") (@Option.none @Nat) (@PySem.Data.seq #[] 0) #[]
noncomputable def oG_158 (P : Params) : Obj := Obj.mk @PySem.Value.none (@Option.none @Nat) (@PySem.Data.fields #[]) #[]
noncomputable def oG_159 (P : Params) : Obj := Obj.mk (@PySem.Value.type "tuple") (@Option.none @Nat) (@PySem.Data.seq #[(@PySem.Value.str (@PySem.Str.ofString "text") 2342), (@PySem.Value.str (@PySem.Str.ofString "out") 2343), (@PySem.Value.str (@PySem.Str.ofString "sign") 2344), (@PySem.Value.str (@PySem.Str.ofString "held") 2345)] 0) #[]
noncomputable def oG_160 (P : Params) : Obj := Obj.mk (@PySem.Value.type "tuple") (@Option.none @Nat) (@PySem.Data.seq #[] 0) #[]
noncomputable def oG_161 (P : Params) : Obj := Obj.mk @PySem.Value.none (@Option.none @Nat) (Data.func { name := (@PySem.Str.ofString "_law_prepared"), qualname := (@PySem.Str.ofString "_law_prepared"), params := prmAt 19, body := .stmts (bdyAt 19), scope := scpAt 19, globals := 0, closure := [], defaults := @PySem.Value.none, kwdefaults := @PySem.Value.none, doc := @PySem.Value.none, pyModule := @PySem.Value.none, annotations := (@Option.none @Nat), code := @PySem.Value.none, closureTuple := @PySem.Value.none, builtins := 0 }) #[]
noncomputable def oG_162 (P : Params) : Obj := Obj.mk (@PySem.Value.type "code") (@Option.none @Nat) (@PySem.Data.fields #[(@PySem.Value.str (@PySem.Str.ofString "_law_prepared") 2339), (@PySem.Value.str (@PySem.Str.ofString "_law_prepared") 2340), (@PySem.Value.str (@PySem.Str.ofString "/claim/cut.py") 2341), (@PySem.Value.int 131 0), (@PySem.Value.int 1 0), (@PySem.Value.int 0 0), (@PySem.Value.int 0 0), (@PySem.Value.int 3 0), (@PySem.Value.ref 157), (@PySem.Value.bool @Bool.true), (@PySem.Value.int 181 0), (@PySem.Value.ref 158), @PySem.Value.none, (@PySem.Value.ref 159), (@PySem.Value.ref 160), (@PySem.Value.ref 161), (@PySem.Value.int 2346 0), (@PySem.Value.int 131 0), (@PySem.Value.str (@PySem.Str.ofString "/claim/cut.py") 2347)]) #[]
noncomputable def oG_163 (P : Params) : Obj := Obj.mk (@PySem.Value.type "function") (@Option.none @Nat) (Data.func { name := (@PySem.Str.ofString "_law_prepared"), qualname := (@PySem.Str.ofString "_law_prepared"), params := prmAt 19, body := .stmts (bdyAt 19), scope := scpAt 19, globals := 3, closure := [], defaults := @PySem.Value.none, kwdefaults := @PySem.Value.none, doc := @PySem.Value.none, pyModule := (@PySem.Value.str (@PySem.Str.ofString "law_wb0081_01") 2311), annotations := (@Option.none @Nat), code := (@PySem.Value.ref 162), closureTuple := @PySem.Value.none, builtins := 0 }) #[]
noncomputable def oG_164 (P : Params) : Obj := Obj.mk (@PySem.Value.type "tuple") (@Option.none @Nat) (@PySem.Data.seq #[] 0) #[]
noncomputable def oG_165 (P : Params) : Obj := Obj.mk @PySem.Value.none (@Option.none @Nat) (@PySem.Data.fields #[]) #[]
noncomputable def oG_166 (P : Params) : Obj := Obj.mk (@PySem.Value.type "tuple") (@Option.none @Nat) (@PySem.Data.seq #[(@PySem.Value.str (@PySem.Str.ofString "stretch") 2352), (@PySem.Value.str (@PySem.Str.ofString "bias") 2353), (@PySem.Value.str (@PySem.Str.ofString "number") 2354), (@PySem.Value.str (@PySem.Str.ofString "age") 2355), (@PySem.Value.str (@PySem.Str.ofString "digit") 2356)] 0) #[]
noncomputable def oG_167 (P : Params) : Obj := Obj.mk (@PySem.Value.type "tuple") (@Option.none @Nat) (@PySem.Data.seq #[] 0) #[]
noncomputable def oG_168 (P : Params) : Obj := Obj.mk @PySem.Value.none (@Option.none @Nat) (Data.func { name := (@PySem.Str.ofString "_law_number"), qualname := (@PySem.Str.ofString "_law_number"), params := prmAt 20, body := .stmts (bdyAt 20), scope := scpAt 20, globals := 0, closure := [], defaults := @PySem.Value.none, kwdefaults := @PySem.Value.none, doc := @PySem.Value.none, pyModule := @PySem.Value.none, annotations := (@Option.none @Nat), code := @PySem.Value.none, closureTuple := @PySem.Value.none, builtins := 0 }) #[]
noncomputable def oG_169 (P : Params) : Obj := Obj.mk (@PySem.Value.type "code") (@Option.none @Nat) (@PySem.Data.fields #[(@PySem.Value.str (@PySem.Str.ofString "_law_number") 2349), (@PySem.Value.str (@PySem.Str.ofString "_law_number") 2350), (@PySem.Value.str (@PySem.Str.ofString "/claim/cut.py") 2351), (@PySem.Value.int 140 0), (@PySem.Value.int 2 0), (@PySem.Value.int 0 0), (@PySem.Value.int 0 0), (@PySem.Value.int 3 0), (@PySem.Value.ref 164), (@PySem.Value.bool @Bool.true), (@PySem.Value.int 181 0), (@PySem.Value.ref 165), @PySem.Value.none, (@PySem.Value.ref 166), (@PySem.Value.ref 167), (@PySem.Value.ref 168), (@PySem.Value.int 2357 0), (@PySem.Value.int 140 0), (@PySem.Value.str (@PySem.Str.ofString "/claim/cut.py") 2358)]) #[]
noncomputable def oG_170 (P : Params) : Obj := Obj.mk (@PySem.Value.type "function") (@Option.none @Nat) (Data.func { name := (@PySem.Str.ofString "_law_number"), qualname := (@PySem.Str.ofString "_law_number"), params := prmAt 20, body := .stmts (bdyAt 20), scope := scpAt 20, globals := 3, closure := [], defaults := @PySem.Value.none, kwdefaults := @PySem.Value.none, doc := @PySem.Value.none, pyModule := (@PySem.Value.str (@PySem.Str.ofString "law_wb0081_01") 2311), annotations := (@Option.none @Nat), code := (@PySem.Value.ref 169), closureTuple := @PySem.Value.none, builtins := 0 }) #[]
noncomputable def oG_171 (P : Params) : Obj := Obj.mk (@PySem.Value.type "tuple") (@Option.none @Nat) (@PySem.Data.seq #[] 0) #[]
noncomputable def oG_172 (P : Params) : Obj := Obj.mk @PySem.Value.none (@Option.none @Nat) (@PySem.Data.fields #[]) #[]
noncomputable def oG_173 (P : Params) : Obj := Obj.mk (@PySem.Value.type "tuple") (@Option.none @Nat) (@PySem.Data.seq #[(@PySem.Value.str (@PySem.Str.ofString "text") 2363), (@PySem.Value.str (@PySem.Str.ofString "bias") 2364), (@PySem.Value.str (@PySem.Str.ofString "row") 2365), (@PySem.Value.str (@PySem.Str.ofString "begin") 2366), (@PySem.Value.str (@PySem.Str.ofString "place") 2367), (@PySem.Value.str (@PySem.Str.ofString "letter") 2368)] 0) #[]
noncomputable def oG_174 (P : Params) : Obj := Obj.mk (@PySem.Value.type "tuple") (@Option.none @Nat) (@PySem.Data.seq #[] 0) #[]
noncomputable def oG_175 (P : Params) : Obj := Obj.mk @PySem.Value.none (@Option.none @Nat) (Data.func { name := (@PySem.Str.ofString "_law_counted"), qualname := (@PySem.Str.ofString "_law_counted"), params := prmAt 21, body := .stmts (bdyAt 21), scope := scpAt 21, globals := 0, closure := [], defaults := @PySem.Value.none, kwdefaults := @PySem.Value.none, doc := @PySem.Value.none, pyModule := @PySem.Value.none, annotations := (@Option.none @Nat), code := @PySem.Value.none, closureTuple := @PySem.Value.none, builtins := 0 }) #[]
noncomputable def oG_176 (P : Params) : Obj := Obj.mk (@PySem.Value.type "code") (@Option.none @Nat) (@PySem.Data.fields #[(@PySem.Value.str (@PySem.Str.ofString "_law_counted") 2360), (@PySem.Value.str (@PySem.Str.ofString "_law_counted") 2361), (@PySem.Value.str (@PySem.Str.ofString "/claim/cut.py") 2362), (@PySem.Value.int 146 0), (@PySem.Value.int 2 0), (@PySem.Value.int 0 0), (@PySem.Value.int 0 0), (@PySem.Value.int 3 0), (@PySem.Value.ref 171), (@PySem.Value.bool @Bool.true), (@PySem.Value.int 181 0), (@PySem.Value.ref 172), @PySem.Value.none, (@PySem.Value.ref 173), (@PySem.Value.ref 174), (@PySem.Value.ref 175), (@PySem.Value.int 2369 0), (@PySem.Value.int 146 0), (@PySem.Value.str (@PySem.Str.ofString "/claim/cut.py") 2370)]) #[]
noncomputable def oG_177 (P : Params) : Obj := Obj.mk (@PySem.Value.type "function") (@Option.none @Nat) (Data.func { name := (@PySem.Str.ofString "_law_counted"), qualname := (@PySem.Str.ofString "_law_counted"), params := prmAt 21, body := .stmts (bdyAt 21), scope := scpAt 21, globals := 3, closure := [], defaults := @PySem.Value.none, kwdefaults := @PySem.Value.none, doc := @PySem.Value.none, pyModule := (@PySem.Value.str (@PySem.Str.ofString "law_wb0081_01") 2311), annotations := (@Option.none @Nat), code := (@PySem.Value.ref 176), closureTuple := @PySem.Value.none, builtins := 0 }) #[]
noncomputable def oG_178 (P : Params) : Obj := Obj.mk (@PySem.Value.type "tuple") (@Option.none @Nat) (@PySem.Data.seq #[] 0) #[]
noncomputable def oG_179 (P : Params) : Obj := Obj.mk @PySem.Value.none (@Option.none @Nat) (@PySem.Data.fields #[]) #[]
noncomputable def oG_180 (P : Params) : Obj := Obj.mk @PySem.Value.none (@Option.none @Nat) (Data.func { name := (@PySem.Str.ofString "_law_read"), qualname := (@PySem.Str.ofString "_law_read"), params := prmAt 22, body := .stmts (bdyAt 22), scope := scpAt 22, globals := 0, closure := [], defaults := @PySem.Value.none, kwdefaults := @PySem.Value.none, doc := @PySem.Value.none, pyModule := @PySem.Value.none, annotations := (@Option.none @Nat), code := @PySem.Value.none, closureTuple := @PySem.Value.none, builtins := 0 }) #[]
noncomputable def oG_181 (P : Params) : Obj := Obj.mk (@PySem.Value.type "code") (@Option.none @Nat) (@PySem.Data.fields #[(@PySem.Value.str (@PySem.Str.ofString "_law_read") 2372), (@PySem.Value.str (@PySem.Str.ofString "_law_read") 2373), (@PySem.Value.str (@PySem.Str.ofString "/claim/cut.py") 2374), (@PySem.Value.int 154 0), (@PySem.Value.int 3 0), (@PySem.Value.int 0 0), (@PySem.Value.int 0 0), (@PySem.Value.int 3 0), (@PySem.Value.ref 178), (@PySem.Value.bool @Bool.true), (@PySem.Value.int 181 0), (@PySem.Value.ref 179), @PySem.Value.none, @PySem.Value.none, @PySem.Value.none, (@PySem.Value.ref 180), (@PySem.Value.int 2375 0), (@PySem.Value.int 154 0), (@PySem.Value.str (@PySem.Str.ofString "/claim/cut.py") 2376)]) #[]
noncomputable def oG_182 (P : Params) : Obj := Obj.mk (@PySem.Value.type "function") (@Option.none @Nat) (Data.func { name := (@PySem.Str.ofString "_law_read"), qualname := (@PySem.Str.ofString "_law_read"), params := prmAt 22, body := .stmts (bdyAt 22), scope := scpAt 22, globals := 3, closure := [], defaults := @PySem.Value.none, kwdefaults := @PySem.Value.none, doc := @PySem.Value.none, pyModule := (@PySem.Value.str (@PySem.Str.ofString "law_wb0081_01") 2311), annotations := (@Option.none @Nat), code := (@PySem.Value.ref 181), closureTuple := @PySem.Value.none, builtins := 0 }) #[]
noncomputable def oG_183 (P : Params) : Obj := Obj.mk (@PySem.Value.type "tuple") (@Option.none @Nat) (@PySem.Data.seq #[] 0) #[]
noncomputable def oG_184 (P : Params) : Obj := Obj.mk @PySem.Value.none (@Option.none @Nat) (@PySem.Data.fields #[]) #[]
noncomputable def oG_185 (P : Params) : Obj := Obj.mk @PySem.Value.none (@Option.none @Nat) (Data.func { name := (@PySem.Str.ofString "law"), qualname := (@PySem.Str.ofString "law"), params := prmAt 23, body := .stmts (bdyAt 23), scope := scpAt 23, globals := 0, closure := [], defaults := @PySem.Value.none, kwdefaults := @PySem.Value.none, doc := @PySem.Value.none, pyModule := @PySem.Value.none, annotations := (@Option.none @Nat), code := @PySem.Value.none, closureTuple := @PySem.Value.none, builtins := 0 }) #[]
noncomputable def oG_186 (P : Params) : Obj := Obj.mk (@PySem.Value.type "code") (@Option.none @Nat) (@PySem.Data.fields #[(@PySem.Value.str (@PySem.Str.ofString "law") 2378), (@PySem.Value.str (@PySem.Str.ofString "law") 2379), (@PySem.Value.str (@PySem.Str.ofString "/claim/cut.py") 2380), (@PySem.Value.int 168 0), (@PySem.Value.int 1 0), (@PySem.Value.int 0 0), (@PySem.Value.int 0 0), (@PySem.Value.int 3 0), (@PySem.Value.ref 183), (@PySem.Value.bool @Bool.true), (@PySem.Value.int 181 0), (@PySem.Value.ref 184), @PySem.Value.none, @PySem.Value.none, @PySem.Value.none, (@PySem.Value.ref 185), (@PySem.Value.int 2381 0), (@PySem.Value.int 168 0), (@PySem.Value.str (@PySem.Str.ofString "/claim/cut.py") 2382)]) #[]
noncomputable def oG_187 (P : Params) : Obj := Obj.mk (@PySem.Value.type "function") (@Option.none @Nat) (Data.func { name := (@PySem.Str.ofString "law"), qualname := (@PySem.Str.ofString "law"), params := prmAt 23, body := .stmts (bdyAt 23), scope := scpAt 23, globals := 3, closure := [], defaults := @PySem.Value.none, kwdefaults := @PySem.Value.none, doc := @PySem.Value.none, pyModule := (@PySem.Value.str (@PySem.Str.ofString "law_wb0081_01") 2311), annotations := (@Option.none @Nat), code := (@PySem.Value.ref 186), closureTuple := @PySem.Value.none, builtins := 0 }) #[]
noncomputable def treeG (P : Params) : BT := (.node (PySem.W.boot_o_0 P) (.node (PySem.W.boot_o_1 P) (.node (oG_3 P) (.node (PySem.W.boot_o_7 P) (.node (oC_15 P) (.node (oC_31 P) (.node (oC_63 P) (.node (oF_127 P) .nil .nil) .nil) (.node (oF_95 P) (.node (oG_159 P) .nil .nil) .nil)) (.node (oC_47 P) (.node (oD_79 P) (.node (oG_143 P) .nil .nil) .nil) (.node (oF_111 P) (.node (oG_175 P) .nil .nil) .nil))) (.node (oC_23 P) (.node (oC_39 P) (.node (oC_71 P) (.node (oG_135 P) .nil .nil) .nil) (.node (oF_103 P) (.node (oG_167 P) .nil .nil) .nil)) (.node (oC_55 P) (.node (oE_87 P) (.node (oG_151 P) .nil .nil) .nil) (.node (oF_119 P) (.node (oG_183 P) .nil .nil) .nil)))) (.node (oA_11 P) (.node (oC_19 P) (.node (oC_35 P) (.node (oC_67 P) (.node (oG_131 P) .nil .nil) .nil) (.node (oF_99 P) (.node (oG_163 P) .nil .nil) .nil)) (.node (oC_51 P) (.node (oE_83 P) (.node (oG_147 P) .nil .nil) .nil) (.node (oF_115 P) (.node (oG_179 P) .nil .nil) .nil))) (.node (oC_27 P) (.node (oC_43 P) (.node (oD_75 P) (.node (oG_139 P) .nil .nil) .nil) (.node (oF_107 P) (.node (oG_171 P) .nil .nil) .nil)) (.node (oC_59 P) (.node (oF_91 P) (.node (oG_155 P) .nil .nil) .nil) (.node (oF_123 P) (.node (oG_187 P) .nil .nil) .nil))))) (.node (PySem.W.boot_o_5 P) (.node (PySem.W.boot_o_9 P) (.node (oC_17 P) (.node (oC_33 P) (.node (oC_65 P) (.node (oG_129 P) .nil .nil) .nil) (.node (oF_97 P) (.node (oG_161 P) .nil .nil) .nil)) (.node (oC_49 P) (.node (oD_81 P) (.node (oG_145 P) .nil .nil) .nil) (.node (oF_113 P) (.node (oG_177 P) .nil .nil) .nil))) (.node (oC_25 P) (.node (oC_41 P) (.node (oD_73 P) (.node (oG_137 P) .nil .nil) .nil) (.node (oF_105 P) (.node (oG_169 P) .nil .nil) .nil)) (.node (oC_57 P) (.node (oE_89 P) (.node (oG_153 P) .nil .nil) .nil) (.node (oF_121 P) (.node (oG_185 P) .nil .nil) .nil)))) (.node (oA_13 P) (.node (oC_21 P) (.node (oC_37 P) (.node (oC_69 P) (.node (oG_133 P) .nil .nil) .nil) (.node (oF_101 P) (.node (oG_165 P) .nil .nil) .nil)) (.node (oC_53 P) (.node (oE_85 P) (.node (oG_149 P) .nil .nil) .nil) (.node (oF_117 P) (.node (oG_181 P) .nil .nil) .nil))) (.node (oC_29 P) (.node (oC_45 P) (.node (oD_77 P) (.node (oG_141 P) .nil .nil) .nil) (.node (oF_109 P) (.node (oG_173 P) .nil .nil) .nil)) (.node (oC_61 P) (.node (oF_93 P) (.node (oG_157 P) .nil .nil) .nil) (.node (oF_125 P) .nil .nil)))))) (.node (PySem.W.boot_o_2 P) (.node (PySem.W.boot_o_4 P) (.node (PySem.W.boot_o_8 P) (.node (oC_16 P) (.node (oC_32 P) (.node (oC_64 P) (.node (oF_128 P) .nil .nil) .nil) (.node (oF_96 P) (.node (oG_160 P) .nil .nil) .nil)) (.node (oC_48 P) (.node (oD_80 P) (.node (oG_144 P) .nil .nil) .nil) (.node (oF_112 P) (.node (oG_176 P) .nil .nil) .nil))) (.node (oC_24 P) (.node (oC_40 P) (.node (oD_72 P) (.node (oG_136 P) .nil .nil) .nil) (.node (oF_104 P) (.node (oG_168 P) .nil .nil) .nil)) (.node (oC_56 P) (.node (oE_88 P) (.node (oG_152 P) .nil .nil) .nil) (.node (oF_120 P) (.node (oG_184 P) .nil .nil) .nil)))) (.node (oG_12 P) (.node (oC_20 P) (.node (oC_36 P) (.node (oC_68 P) (.node (oG_132 P) .nil .nil) .nil) (.node (oF_100 P) (.node (oG_164 P) .nil .nil) .nil)) (.node (oC_52 P) (.node (oE_84 P) (.node (oG_148 P) .nil .nil) .nil) (.node (oF_116 P) (.node (oG_180 P) .nil .nil) .nil))) (.node (oC_28 P) (.node (oC_44 P) (.node (oD_76 P) (.node (oG_140 P) .nil .nil) .nil) (.node (oF_108 P) (.node (oG_172 P) .nil .nil) .nil)) (.node (oC_60 P) (.node (oF_92 P) (.node (oG_156 P) .nil .nil) .nil) (.node (oF_124 P) .nil .nil))))) (.node (PySem.W.boot_o_6 P) (.node (PySem.W.boot_o_10 P) (.node (oC_18 P) (.node (oC_34 P) (.node (oC_66 P) (.node (oG_130 P) .nil .nil) .nil) (.node (oF_98 P) (.node (oG_162 P) .nil .nil) .nil)) (.node (oC_50 P) (.node (oD_82 P) (.node (oG_146 P) .nil .nil) .nil) (.node (oF_114 P) (.node (oG_178 P) .nil .nil) .nil))) (.node (oC_26 P) (.node (oC_42 P) (.node (oD_74 P) (.node (oG_138 P) .nil .nil) .nil) (.node (oF_106 P) (.node (oG_170 P) .nil .nil) .nil)) (.node (oC_58 P) (.node (oF_90 P) (.node (oG_154 P) .nil .nil) .nil) (.node (oF_122 P) (.node (oG_186 P) .nil .nil) .nil)))) (.node (oA_14 P) (.node (oC_22 P) (.node (oC_38 P) (.node (oC_70 P) (.node (oG_134 P) .nil .nil) .nil) (.node (oF_102 P) (.node (oG_166 P) .nil .nil) .nil)) (.node (oC_54 P) (.node (oE_86 P) (.node (oG_150 P) .nil .nil) .nil) (.node (oF_118 P) (.node (oG_182 P) .nil .nil) .nil))) (.node (oC_30 P) (.node (oC_46 P) (.node (oD_78 P) (.node (oG_142 P) .nil .nil) .nil) (.node (oF_110 P) (.node (oG_174 P) .nil .nil) .nil)) (.node (oC_62 P) (.node (oF_94 P) (.node (oG_158 P) .nil .nil) .nil) (.node (oF_126 P) .nil .nil)))))))
noncomputable def SG (w : World) (os : OsState) : SharedT := ⟨treeG w.params, 188, (@PySem.Life.mk [] [] [] 0 [] [] @Bool.false #[] [] 0 @Bool.false @Bool.false @Bool.false 0 [2000, 10, 10] @Bool.false 0 @Bool.true [] [] 0 @Bool.false), #[], (@PySem.Drawn.mk 0 0 0 0), 2384, os⟩
noncomputable def treeH (P : Params) : BT := (.node (PySem.W.boot_o_0 P) (.node (PySem.W.boot_o_1 P) (.node (oG_3 P) (.node (PySem.W.boot_o_7 P) (.node (oC_15 P) (.node (oC_31 P) (.node (oC_63 P) (.node (oF_127 P) .nil .nil) .nil) (.node (oF_95 P) (.node (oG_159 P) .nil .nil) .nil)) (.node (oC_47 P) (.node (oD_79 P) (.node (oG_143 P) .nil .nil) .nil) (.node (oF_111 P) (.node (oG_175 P) .nil .nil) .nil))) (.node (oC_23 P) (.node (oC_39 P) (.node (oC_71 P) (.node (oG_135 P) .nil .nil) .nil) (.node (oF_103 P) (.node (oG_167 P) .nil .nil) .nil)) (.node (oC_55 P) (.node (oE_87 P) (.node (oG_151 P) .nil .nil) .nil) (.node (oF_119 P) (.node (oG_183 P) .nil .nil) .nil)))) (.node (oA_11 P) (.node (oC_19 P) (.node (oC_35 P) (.node (oC_67 P) (.node (oG_131 P) .nil .nil) .nil) (.node (oF_99 P) (.node (oG_163 P) .nil .nil) .nil)) (.node (oC_51 P) (.node (oE_83 P) (.node (oG_147 P) .nil .nil) .nil) (.node (oF_115 P) (.node (oG_179 P) .nil .nil) .nil))) (.node (oC_27 P) (.node (oC_43 P) (.node (oD_75 P) (.node (oG_139 P) .nil .nil) .nil) (.node (oF_107 P) (.node (oG_171 P) .nil .nil) .nil)) (.node (oC_59 P) (.node (oF_91 P) (.node (oG_155 P) .nil .nil) .nil) (.node (oF_123 P) (.node (oG_187 P) .nil .nil) .nil))))) (.node (PySem.W.boot_o_5 P) (.node (PySem.W.boot_o_9 P) (.node (oC_17 P) (.node (oC_33 P) (.node (oC_65 P) (.node (oG_129 P) .nil .nil) .nil) (.node (oF_97 P) (.node (oG_161 P) .nil .nil) .nil)) (.node (oC_49 P) (.node (oD_81 P) (.node (oG_145 P) .nil .nil) .nil) (.node (oF_113 P) (.node (oG_177 P) .nil .nil) .nil))) (.node (oC_25 P) (.node (oC_41 P) (.node (oD_73 P) (.node (oG_137 P) .nil .nil) .nil) (.node (oF_105 P) (.node (oG_169 P) .nil .nil) .nil)) (.node (oC_57 P) (.node (oE_89 P) (.node (oG_153 P) .nil .nil) .nil) (.node (oF_121 P) (.node (oG_185 P) .nil .nil) .nil)))) (.node (oA_13 P) (.node (oC_21 P) (.node (oC_37 P) (.node (oC_69 P) (.node (oG_133 P) .nil .nil) .nil) (.node (oF_101 P) (.node (oG_165 P) .nil .nil) .nil)) (.node (oC_53 P) (.node (oE_85 P) (.node (oG_149 P) .nil .nil) .nil) (.node (oF_117 P) (.node (oG_181 P) .nil .nil) .nil))) (.node (oC_29 P) (.node (oC_45 P) (.node (oD_77 P) (.node (oG_141 P) .nil .nil) .nil) (.node (oF_109 P) (.node (oG_173 P) .nil .nil) .nil)) (.node (oC_61 P) (.node (oF_93 P) (.node (oG_157 P) .nil .nil) .nil) (.node (oF_125 P) .nil .nil)))))) (.node (PySem.W.boot_o_2 P) (.node (PySem.W.boot_o_4 P) (.node (PySem.W.boot_o_8 P) (.node (oC_16 P) (.node (oC_32 P) (.node (oC_64 P) (.node (oF_128 P) .nil .nil) .nil) (.node (oF_96 P) (.node (oG_160 P) .nil .nil) .nil)) (.node (oC_48 P) (.node (oD_80 P) (.node (oG_144 P) .nil .nil) .nil) (.node (oF_112 P) (.node (oG_176 P) .nil .nil) .nil))) (.node (oC_24 P) (.node (oC_40 P) (.node (oD_72 P) (.node (oG_136 P) .nil .nil) .nil) (.node (oF_104 P) (.node (oG_168 P) .nil .nil) .nil)) (.node (oC_56 P) (.node (oE_88 P) (.node (oG_152 P) .nil .nil) .nil) (.node (oF_120 P) (.node (oG_184 P) .nil .nil) .nil)))) (.node (oG_12 P) (.node (oC_20 P) (.node (oC_36 P) (.node (oC_68 P) (.node (oG_132 P) .nil .nil) .nil) (.node (oF_100 P) (.node (oG_164 P) .nil .nil) .nil)) (.node (oC_52 P) (.node (oE_84 P) (.node (oG_148 P) .nil .nil) .nil) (.node (oF_116 P) (.node (oG_180 P) .nil .nil) .nil))) (.node (oC_28 P) (.node (oC_44 P) (.node (oD_76 P) (.node (oG_140 P) .nil .nil) .nil) (.node (oF_108 P) (.node (oG_172 P) .nil .nil) .nil)) (.node (oC_60 P) (.node (oF_92 P) (.node (oG_156 P) .nil .nil) .nil) (.node (oF_124 P) .nil .nil))))) (.node (PySem.W.boot_o_6 P) (.node (PySem.W.boot_o_10 P) (.node (oC_18 P) (.node (oC_34 P) (.node (oC_66 P) (.node (oG_130 P) .nil .nil) .nil) (.node (oF_98 P) (.node (oG_162 P) .nil .nil) .nil)) (.node (oC_50 P) (.node (oD_82 P) (.node (oG_146 P) .nil .nil) .nil) (.node (oF_114 P) (.node (oG_178 P) .nil .nil) .nil))) (.node (oC_26 P) (.node (oC_42 P) (.node (oD_74 P) (.node (oG_138 P) .nil .nil) .nil) (.node (oF_106 P) (.node (oG_170 P) .nil .nil) .nil)) (.node (oC_58 P) (.node (oF_90 P) (.node (oG_154 P) .nil .nil) .nil) (.node (oF_122 P) (.node (oG_186 P) .nil .nil) .nil)))) (.node (oA_14 P) (.node (oC_22 P) (.node (oC_38 P) (.node (oC_70 P) (.node (oG_134 P) .nil .nil) .nil) (.node (oF_102 P) (.node (oG_166 P) .nil .nil) .nil)) (.node (oC_54 P) (.node (oE_86 P) (.node (oG_150 P) .nil .nil) .nil) (.node (oF_118 P) (.node (oG_182 P) .nil .nil) .nil))) (.node (oC_30 P) (.node (oC_46 P) (.node (oD_78 P) (.node (oG_142 P) .nil .nil) .nil) (.node (oF_110 P) (.node (oG_174 P) .nil .nil) .nil)) (.node (oC_62 P) (.node (oF_94 P) (.node (oG_158 P) .nil .nil) .nil) (.node (oF_126 P) .nil .nil)))))))
noncomputable def SH (w : World) (os : OsState) : SharedT := ⟨treeH w.params, 188, (@PySem.Life.mk [] [] [] 0 [] [] @Bool.false #[] [] 0 @Bool.false @Bool.false @Bool.false 0 [2000, 10, 10] @Bool.false 0 @Bool.true [] [] 0 @Bool.false), #[], (@PySem.Drawn.mk 0 0 0 0), 2384, os⟩
noncomputable abbrev bE : List Stmt := behindTheImports pE
noncomputable def envT : Env := { scope := pE.main.scope, locals := mainNs, globals := mainNs, cells := [], code := (@PySem.Value.ref 13), frame := some 14 }
noncomputable abbrev cE : Code := .body bE envT
noncomputable def m0 : Nat := 11
noncomputable def ann : Option Value := (@Option.some @PySem.Value (@PySem.Value.ref 6))
noncomputable def q0 : Pos := (@PySem.Pos.mk 0 0 0 0)
noncomputable abbrev BF : List Frame := [topFrame q0]
noncomputable def posA : Pos := (@PySem.Pos.mk 0 0 0 0)
noncomputable def posB : Pos := (@PySem.Pos.mk 0 0 0 0)
noncomputable def posC : Pos := (@PySem.Pos.mk 100 0 100 8)
noncomputable def posD : Pos := (@PySem.Pos.mk 101 0 101 6)
noncomputable def posE : Pos := (@PySem.Pos.mk 102 0 103 30)
noncomputable def posF : Pos := (@PySem.Pos.mk 104 0 104 13)
noncomputable def posG : Pos := (@PySem.Pos.mk 168 0 216 15)
theorem te_seg : @segRunT = @PySem.W.Fast.tw10110043849684766642 := PySem.W.Fast.te10110043849684766642
theorem te_tab : treeTable = PySem.W.Fast.tw14364793385576792824 := PySem.W.Fast.te14364793385576792824
noncomputable def grp (lo hi : Nat) : List Stmt := (bE.drop lo).take (hi - lo)
theorem te_go : @segGoT = @PySem.W.Fast.tw10295753902157049106 := PySem.W.Fast.te10295753902157049106
noncomputable abbrev wf (w : World) (b : Bool) : World := w.withFollow "special-get-raises" b
theorem segGoT_add {w : World} : ∀ {n m : Nat} {s s' : SharedT} {t t' : Thread} {r : SharedT × Thread}, segGoT treeTable pE w m0 ann 1 n s t = some (s', t') → segGoT treeTable pE w m0 ann 1 m s' t' = some r →
    segGoT treeTable pE w m0 ann 1 (n + m) s t = some r
  | 0, m, s, s', t, t', r, h, k => by
    obtain ⟨rfl, rfl⟩ : s = s' ∧ t = t' := by simpa [segGoT] using h
    rw [Nat.zero_add]; exact k
  | n + 1, m, s, s', t, t', r, h, k => by
    rw [show n + 1 + m = n + m + 1 by (first | lia | omega)]
    unfold segGoT at h ⊢
    cases he : endAt 1 t with
    | some f => rw [he] at h; cases h
    | none =>
      rw [he] at h
      cases hk : stepOk m0 ann t with
      | false => rw [hk] at h; cases h
      | true =>
        rw [hk] at h
        cases hs : stepT (denote treeTable) pE w s t with
        | none => rw [hs] at h; cases h
        | some p => obtain ⟨s₂, t₂⟩ := p; rw [hs] at h; exact segGoT_add h k
noncomputable def Rn {α : Type} (w : World) (n : Nat) (x : Sem α) (s : SharedT) (q : Pos) (a : α) (s' : SharedT) (q' : Pos) : Prop :=
  ∀ (K : α → Sem Fin) (H : Value → Sem Fin) (gd : Bool → Bool) (lv : List Value → List Value), segGoT treeTable pE w m0 ann 1 n s ⟨x.wrap K H gd lv, cE, q, BF⟩ = some (s', ⟨K a, cE, q', BF⟩)
section
variable {α β : Type} {w : World} {n m : Nat} {s s' s'' : SharedT} {q q' q'' : Pos}
theorem Rn.pure (a : α) : Rn w 0 (Pure.pure a : Sem α) s q a s q := fun _ _ _ _ => rfl
theorem Rn.bind {x : Sem α} {f : α → Sem β} {a : α} {b : β} (h : Rn w n x s q a s' q') (k : Rn w m (f a) s' q' b s'' q'') : Rn w (n + m) (x >>= f) s q b s'' q'' := fun K H gd lv => by
  rw [Sem.bind_eq_wrap', Sem.wrap_wrap]
  exact segGoT_add (h _ _ _ _) (k K H gd lv)
theorem Rn.bind0 {x : Sem α} {f : α → Sem β} {a : α} {b : β} (h : Rn w n x s q a s' q') (k : f a = Pure.pure b) : Rn w n (x >>= f) s q b s' q' := fun K H gd lv => by
  rw [Sem.bind_eq_wrap', Sem.wrap_wrap]
  have := h (fun a => (f a).wrap K H gd lv) (fun e => (Sem.raise e : Sem β).wrap K H gd lv) (fun g => gd (id g)) (fun l => lv (id l))
  rw [k] at this
  exact this
theorem Rn.keep {x : Sem α} {a : α} (vs : List Value) (h : Rn w n x s q a s' q') : Rn w n (x.keep vs) s q a s' q' := fun K H gd lv => by
  rw [Sem.keep_eq_wrap, Sem.wrap_wrap]
  exact h _ _ _ _
theorem Rn.holding {x : Sem α} {a : α} (vs : List Value) (h : Rn w n x s q a s' q') : Rn w n (PySem.holding vs x) s q a s' q' := by
  unfold PySem.holding
  split
  · exact h
  · exact h.keep _
theorem Rn.onRaise {x : Sem α} {a : α} {f : Value → Sem Unit} (h : Rn w n x s q a s' q') : Rn w n (x.onRaise f) s q a s' q' := fun K H gd lv => by
  rw [Sem.onRaise_eq_wrap, Sem.wrap_wrap]
  exact h _ _ _ _
theorem Rn.cast {x : Sem α} {a : α} {n' : Nat} (h : Rn w n x s q a s' q') (e : n = n') : Rn w n' x s q a s' q' := e ▸ h
theorem Rn.rule (t : String) : Rn w 1 (PySem.rule t) s q () s q := fun _ _ _ _ => by obtain ⟨T, n, life, gens, drawn, toks, os⟩ := s; rfl
theorem Rn.standAt (p : Pos) : Rn w 1 (PySem.standAt p) s q () s p := fun _ _ _ _ => by obtain ⟨T, n, life, gens, drawn, toks, os⟩ := s; rfl
theorem Rn.fresh : Rn w 1 (PySem.fresh) s q s.toks { s with toks := s.toks + 1 } q := fun _ _ _ _ => by obtain ⟨T, n, life, gens, drawn, toks, os⟩ := s; rfl
theorem Rn.loadPart {a : Addr} {o : Obj} (part : Option Value) (hg : s.tree.get a = some o) (ha : alive o = some o) (hn : Nat.blt a s.n = true) : Rn w 1 (PySem.loadPart a part) s q o s q := fun K H gd lv => by
  obtain ⟨T, n, life, gens, drawn, toks, os⟩ := s
  dsimp only at hg hn
  show (match (match Nat.blt a n with
      | true => match T.get a with
        | some o => match alive o with
          | some o' => some ((⟨T, n, life, gens, drawn, toks, os⟩ : SharedT), (⟨(K o'), cE, q, BF⟩ : Thread))
          | none => none
        | none => none
      | false => none) with | some (s', t') => some (s', t') | none => none) = _
  rw [hn, hg]
  dsimp only
  rw [ha]
theorem Rn.updatePart {a : Addr} {o : Obj} {f : Obj → Obj} (part : Option Value) (hg : s.tree.get a = some o) (ha : alive o = some o) (hn : Nat.blt a s.n = true) (hm : Nat.ble m0 a = true) :
    Rn w 1 (PySem.updatePart a part f) s q () { s with tree := s.tree.set a f } q := fun K H gd lv => by
  obtain ⟨T, n, life, gens, drawn, toks, os⟩ := s
  dsimp only at hg hn
  show (match (true && (Nat.ble m0 a || a == mainNs || a == cStatics || ann == some (.ref a))) with
    | false => none
    | true => match (match Nat.blt a n with
      | true => match T.get a with
        | some o => match alive o with
          | some _ => some ((⟨T.set a f, n, life, gens, drawn, toks, os⟩ : SharedT), (⟨(K ()), cE, q, BF⟩ : Thread))
          | none => none
        | none => none
      | false => none) with | some (s', t') => some (s', t') | none => none) = _
  rw [hm, hn, hg]
  simp only [Bool.true_or, Bool.true_and]
  rw [ha]
theorem Rn.alloc {o : Obj} (hg : ((s.tree.ins s.n o).get s.n).isSome = true) : Rn w 1 (PySem.alloc o) s q s.n { s with tree := s.tree.ins s.n o, n := s.n + 1 } q := fun K H gd lv => by
  obtain ⟨T, n, life, gens, drawn, toks, os⟩ := s
  dsimp only at hg
  show (match (match ((T.ins n o).get n).isSome with
      | true => some ((⟨T.ins n o, n + 1, life, gens, drawn, toks, os⟩ : SharedT), (⟨K n, cE, q, BF⟩ : Thread))
      | false => none) with | some (s', t') => some (s', t') | none => none) = _
  rw [hg]
end
theorem bt_set_const : ∀ (t : BT) (a : Nat) (f : Obj → Obj) (o : Obj), t.get a = some o → t.set a f = t.set a (fun _ => f o)
  | .nil, a, f, o, h => by simp [BT.get] at h
  | .node v l r, a, f, o, h => by
    unfold BT.get at h
    unfold BT.set
    cases h1 : Nat.beq a 0 with
    | true => rw [h1] at h; dsimp only at h ⊢; rw [Option.some.inj h]
    | false =>
      rw [h1] at h
      dsimp only at h ⊢
      cases h2 : Nat.beq (a % 2) 1 with
      | true => rw [h2] at h; dsimp only at h ⊢; rw [bt_set_const l _ f o h]
      | false => rw [h2] at h; dsimp only at h ⊢; rw [bt_set_const r _ f o h]
theorem bt_set_set : ∀ (t : BT) (a : Nat) (x : Obj) (g : Obj → Obj), (t.set a (fun _ => x)).set a g = t.set a (fun _ => g x)
  | .nil, a, x, g => rfl
  | .node v l r, a, x, g => by
    cases h1 : Nat.beq a 0 with
    | true => simp only [BT.set, h1]
    | false => cases h2 : Nat.beq (a % 2) 1 with
      | true => simp only [BT.set, h1, h2, bt_set_set l]
      | false => simp only [BT.set, h1, h2, bt_set_set r]
noncomputable abbrev hashI (i : Int) : Int := let h : Int := i.natAbs % (2 ^ 61 - 1 : Nat)
  let h := if i < 0 then -h else h
  if h == -1 then -2 else h
theorem hashI_small {n : Nat} (h : n < 2 ^ 61 - 1) : hashI (n : Int) = n := by
  unfold hashI
  have h1 : ¬ ((n : Int) < 0) := by (first | lia | omega)
  have h2 : ((n : Int).natAbs % (2 ^ 61 - 1 : Nat)) = n := by rw [Int.natAbs_natCast]; exact Nat.mod_eq_of_lt h
  simp only [if_neg h1]
  have h3 : ((((n : Int).natAbs : Int)) % ((2 ^ 61 - 1 : Nat) : Int)) = (n : Int) := by rw [← Int.natCast_emod, h2]
  rw [h3]
  have h4 : ((n : Int) == -1) = false := by simpa using (by (first | lia | omega) : ¬ (n : Int) = -1)
  rw [h4]; rfl
theorem reduced_small {n : Nat} (h : n < 2 ^ 61 - 1) : pyHashByItsType.reduced (n : Int) = Pure.pure (n : Int) := by
  unfold pyHashByItsType.reduced
  have h1 : (decide (-(2 ^ 63 : Int) ≤ (n : Int)) && decide ((n : Int) < 2 ^ 63)) = true := by
    rw [Bool.and_eq_true, decide_eq_true_eq, decide_eq_true_eq]; (first | lia | omega)
  have h4 : ((n : Int) == -1) = false := by simpa using (by (first | lia | omega) : ¬ (n : Int) = -1)
  rw [if_pos h1, h4]; rfl
theorem pyHash_pre_t (w : World) (i : Int) (t : Tok) (s : SharedT) (q : Pos) (K : Int → Sem Fin) (H gd lv) :
    segGoT treeTable pE (wf w true) m0 ann 1 5 s ⟨(pyHash (.int i t)).wrap K H gd lv, cE, q, BF⟩ = some ({ s with toks := s.toks + 1 }, ⟨(pyHashByItsType.reduced (hashI i)).wrap K H gd lv, cE, q, BF⟩) := by
  rw [te_go, te_tab]
  obtain ⟨T, n, life, gens, drawn, toks, os⟩ := s
  kernel_rfl!
theorem pyHash_pre_f (w : World) (i : Int) (t : Tok) (s : SharedT) (q : Pos) (K : Int → Sem Fin) (H gd lv) :
    segGoT treeTable pE (wf w false) m0 ann 1 5 s ⟨(pyHash (.int i t)).wrap K H gd lv, cE, q, BF⟩ = some ({ s with toks := s.toks + 1 }, ⟨(pyHashByItsType.reduced (hashI i)).wrap K H gd lv, cE, q, BF⟩) := by
  rw [te_go, te_tab]
  obtain ⟨T, n, life, gens, drawn, toks, os⟩ := s
  kernel_rfl!
theorem pyHash_run (w : World) (b : Bool) {n : Nat} (h : n < 2 ^ 61 - 1) (t : Tok) (s : SharedT) (q : Pos) : Rn (wf w b) 5 (pyHash (.int (n : Int) t)) s q (n : Int) { s with toks := s.toks + 1 } q := fun K H gd lv => by
  have e := reduced_small h
  cases b with
  | true => rw [pyHash_pre_t, hashI_small h, e]; rfl
  | false => rw [pyHash_pre_f, hashI_small h, e]; rfl
theorem places_nil {L : List DictEntry} {h : Int} (hh : ∀ e ∈ L, e.hash ≠ h) : placesWithHash L.toArray.size (fun i => L.toArray[i]?.map (·.hash)) h = [] := by
  unfold placesWithHash
  rw [List.filter_eq_nil_iff]
  intro i _ e
  dsimp only at e
  rw [List.getElem?_toArray, beq_iff_eq] at e
  obtain ⟨x, hx, rfl⟩ := Option.map_eq_some_iff.mp e
  exact hh x (List.mem_of_getElem? hx) rfl
section
variable {w : World} {s : SharedT} {q : Pos} {d a : Addr} {L M : List DictEntry}
theorem entries_run (part : Option Value) (hg : s.tree.get d = some (dO L)) (hn : Nat.blt d s.n = true) : Rn w 1 (dictEntries d part) s q L.toArray s q :=
  Rn.bind0 (Rn.loadPart part hg rfl hn) rfl
theorem epoch_run (part : Option Value) (hg : s.tree.get d = some (dO L)) (hn : Nat.blt d s.n = true) : Rn w 1 (dictEpoch d part) s q L.length s q :=
  Rn.bind0 (Rn.loadPart part hg rfl hn) rfl
theorem find_run {k : Int} {t : Tok} {h : Int} (hg : s.tree.get d = some (dO L)) (hn : Nat.blt d s.n = true) (hh : ∀ e ∈ L, e.hash ≠ h) : Rn w 1 (dictFind d (.int k t) h) s q none s q := by
  unfold dictFind
  refine Rn.holding _ (Rn.bind0 (entries_run _ hg hn) ?_)
  dsimp only
  rw [places_nil hh]
  rfl
theorem updKeys_run {e : DictEntry} (part : Option Value) (hg : s.tree.get d = some (dO L)) (hn : Nat.blt d s.n = true) (hm : Nat.ble m0 d = true) (hl : L.length < 1000) :
    Rn w 3 (updateDictKeys d (·.push e) part) s q () { s with tree := s.tree.set d (fun _ => dO (L ++ [e])) } q := by
  unfold updateDictKeys
  have e1 : s.tree.set d (Obj.mapDictKeys (·.push e)) = s.tree.set d (fun _ => dO (L ++ [e])) := by
    rw [bt_set_const _ _ _ _ hg]
    congr 1
    funext _
    simp [dO, Obj.mapDictKeys]
  refine Rn.bind (n := 1) (m := 2) (Rn.loadPart part hg rfl hn) ?_
  show Rn w (1 + 1) (updatePart d part (Obj.mapDictKeys (·.push e)) >>= fun _ => lookBehind d part) s q () _ q
  refine Rn.bind (Rn.updatePart part hg rfl hn hm) ?_
  rw [e1]
  unfold lookBehind
  refine Rn.bind0 (Rn.loadPart (o := dO (L ++ [e])) part ?_ rfl hn) ?_
  · dsimp only; rw [BT.get_set, if_pos rfl, hg]; rfl
  · have : (dO (L ++ [e])).data.pastItsLine = none := by
      unfold Data.pastItsLine dO
      dsimp only
      rw [if_neg (by simp only [List.size_toArray, List.length_append, List.length_singleton]; simp only [sizeLine]; (first | lia | omega))]
    rw [this]
theorem put_run {k : Int} {t : Tok} {h : Int} {v : Value} (hg : s.tree.get d = some (dO L)) (hn : Nat.blt d s.n = true) (hm : Nat.ble m0 d = true) (hl : L.length < 1000) (hh : ∀ e ∈ L, e.hash ≠ h) :
    Rn w 4 (dictPut d h (.int k t) v) s q () { s with tree := s.tree.set d (fun _ => dO (L ++ [⟨h, .int k t, v⟩])) } q := by
  unfold dictPut
  exact Rn.bind (n := 1) (m := 3) (find_run hg hn hh) (updKeys_run _ hg hn hm hl)
end
theorem bt_set_same : ∀ (t : BT) (a : Nat) (o : Obj), t.get a = some o → t.set a (fun _ => o) = t
  | .nil, a, o, h => rfl
  | .node v l r, a, o, h => by
    unfold BT.get at h
    unfold BT.set
    cases h1 : Nat.beq a 0 with
    | true => rw [h1] at h; dsimp only at h ⊢; rw [Option.some.inj h]
    | false =>
      rw [h1] at h
      dsimp only at h ⊢
      cases h2 : Nat.beq (a % 2) 1 with
      | true => rw [h2] at h; dsimp only at h ⊢; rw [bt_set_same l _ o h]
      | false => rw [h2] at h; dsimp only at h ⊢; rw [bt_set_same r _ o h]
noncomputable def kS (p : Nat × Str) : Sem Value := mkInt (p.1 : Int)
noncomputable def vS (P : Pos) (p : Nat × Str) : Sem Value := mkText p.2 >>= fun x => standAt P >>= fun _ => Pure.pure x
noncomputable def pairS (P : Pos) (p : Nat × Str) : Sem Value × Sem Value := (kS p, vS P p)
noncomputable def risingFrom (m : Nat) : List (Nat × Str) → Bool
  | [] => true
  | (n, _) :: r => Nat.blt m n && Nat.blt n (2 ^ 61 - 1) && risingFrom n r
theorem Rn.forIn_cons {α β : Type} {w : World} {n m : Nat} {s s1 s2 : SharedT} {q q1 q2 : Pos} {f : α → β → Sem (ForInStep β)} {x : α} {xs : List α} {b b' r : β}
    (h : Rn w n (f x b) s q (.yield b') s1 q1) (k : Rn w m (forIn xs b' f) s1 q1 r s2 q2) : Rn w (n + m) (forIn (x :: xs) b f) s q r s2 q2 := by
  rw [List.forIn_cons]
  exact Rn.bind h k
theorem setS {s : SharedT} {d : Addr} {o o' : Obj} : ({ s with tree := s.tree.set d (fun _ => o) } : SharedT).tree.set d (fun _ => o') = s.tree.set d (fun _ => o') := bt_set_set _ _ _ _
noncomputable def subBody (d : Addr) (x : Sem Value × Sem Value) (_ : PUnit) : Sem (ForInStep PUnit) := match x with
            | (k, v) => do
              let kv ← k
              let vv ← holding [kv] v
              holding [kv, vv] (dictSet d kv vv)
              Pure.pure (ForInStep.yield PUnit.unit)
section
variable {w : World} {b : Bool} {q : Pos} {d a : Addr}
theorem item_run {s : SharedT} {P : Pos} {n : Nat} {x : Str} {es : List DictEntry} (hg : s.tree.get d = some (dO es)) (hn : Nat.blt d s.n = true) (hm : Nat.ble m0 d = true) (hl : es.length < 1000) (hs : n < 2 ^ 61 - 1) (hh : ∀ e ∈ es, e.hash ≠ (n : Int)) :
    Rn (wf w b) 13 (subBody d (pairS P (n, x)) PUnit.unit) s q (ForInStep.yield PUnit.unit)
      { s with tree := s.tree.set d (fun _ => dO (es ++ [⟨(n : Int), .int (n : Int) s.toks, .str x (s.toks + 1)⟩])), toks := s.toks + 3 } P := by
  show Rn (wf w b) 13 (kS (n, x) >>= fun kv => holding [kv] (vS P (n, x)) >>= fun vv => holding [kv, vv] (dictSet d kv vv) >>= fun _ => Pure.pure (ForInStep.yield PUnit.unit)) s q _ _ _
  refine Rn.bind (n := 1) (m := 12) (Rn.bind0 Rn.fresh rfl) ?_
  refine Rn.bind (n := 2) (m := 10) (Rn.holding _ (Rn.bind (n := 1) (m := 1) (Rn.bind0 Rn.fresh rfl) (Rn.bind0 (Rn.standAt P) rfl))) ?_
  refine Rn.bind0 (a := ()) (Rn.holding _ ?_) rfl
  unfold dictSet
  refine Rn.holding _ (Rn.bind (n := 5) (m := 5) (pyHash_run w b hs _ _ _) ?_)
  unfold dictSetHashed
  refine Rn.holding _ (Rn.bind (n := 1) (m := 4) (find_run (L := es) hg hn hh) ?_)
  refine Rn.bind (n := 1) (m := 3) (Rn.rule _) ?_
  exact updKeys_run _ hg hn hm hl
theorem items_run {P : Pos} : ∀ (L : List (Nat × Str)) (s : SharedT) (es : List DictEntry) (m : Nat) (_ : s.tree.get d = some (dO es)) (_ : Nat.blt d s.n = true) (_ : Nat.ble m0 d = true) (_ : es.length + L.length < 1000)
    (_ : ∀ e ∈ es, e.hash ≤ (m : Int)) (_ : risingFrom m L = true),
    Rn (wf w b) (13 * L.length) (forIn (L.map (pairS P)) PUnit.unit (subBody d)) s P PUnit.unit { s with tree := s.tree.set d (fun _ => dO (es ++ ent s.toks L)), toks := s.toks + 3 * L.length } P
  | [], s, es, m, hg, hn, hm, hl, hh, hr => by
    have : s = { s with tree := s.tree.set d (fun _ => dO (es ++ ent s.toks [])), toks := s.toks + 3 * ([] : List (Nat × Str)).length } := by
      rw [show es ++ ent s.toks [] = es from List.append_nil _, bt_set_same _ _ _ hg]; rfl
    rw [← this]
    exact Rn.pure _
  | (n, x) :: L, s, es, m, hg, hn, hm, hl, hh, hr => by
    unfold risingFrom at hr
    simp only [Bool.and_eq_true] at hr
    obtain ⟨⟨h1, h2⟩, h3⟩ := hr
    have h1 := Nat.le_of_ble_eq_true h1
    have h2 := Nat.le_of_ble_eq_true h2
    have hl' : es.length + (L.length + 1) < 1000 := hl
    have I := item_run (w := w) (b := b) (q := P) (P := P) (x := x) hg hn hm (by (first | lia | omega)) (n := n) (by (first | lia | omega)) (fun e he => by have := hh e he; (first | lia | omega))
    have J := items_run (P := P) L { s with tree := s.tree.set d (fun _ => dO (es ++ [⟨(n : Int), .int (n : Int) s.toks, .str x (s.toks + 1)⟩])), toks := s.toks + 3 } (es ++ [⟨(n : Int), .int (n : Int) s.toks, .str x (s.toks + 1)⟩]) n
      (by dsimp only; rw [BT.get_set, if_pos rfl, hg]; rfl) hn hm (by rw [List.length_append, List.length_singleton]; (first | lia | omega))
      (fun e he => by
        rcases List.mem_append.mp he with he | he
        · have := hh e he; (first | lia | omega)
        · rw [List.mem_singleton] at he; subst he; exact Int.le_refl _) h3
    have J' := Rn.forIn_cons I J
    rw [show 13 * ((n, x) :: L).length = 13 + 13 * L.length by rw [List.length_cons]; (first | lia | omega)]
    rw [setS] at J'
    have e1 : (es ++ [⟨(n : Int), .int (n : Int) s.toks, .str x (s.toks + 1)⟩]) ++ ent (s.toks + 3) L = es ++ ent s.toks ((n, x) :: L) := by rw [List.append_assoc]; rfl
    have e2 : s.toks + 3 + 3 * L.length = s.toks + 3 * ((n, x) :: L).length := by rw [List.length_cons]; (first | lia | omega)
    dsimp only at J'
    rw [e1, e2] at J'
    exact J'
theorem subDict_run {P : Pos} {L : List (Nat × Str)} {s : SharedT} {m : Nat} (hL : 15 < L.length) (hl : L.length < 1000) (hr : risingFrom m L = true) (hi : (s.tree.ins s.n (dO [])).get s.n = some (dO [])) (hm : Nat.ble m0 s.n = true) :
    Rn (wf w b) (2 + 13 * L.length) (subDict (L.map (pairS P))) s P s.n { s with tree := (s.tree.ins s.n (dO [])).set s.n (fun _ => dO (ent s.toks L)), n := s.n + 1, toks := s.toks + 3 * L.length } P := by
  unfold subDict
  rw [show 2 + 13 * L.length = 1 + (1 + 13 * L.length) by (first | lia | omega)]
  refine Rn.bind (Rn.alloc (o := dO []) (by rw [hi]; rfl)) ?_
  refine Rn.bind0 (a := ()) (Rn.holding _ ?_) rfl
  rw [if_neg (by rw [List.length_map]; (first | lia | omega))]
  refine Rn.bind (Rn.rule _) ?_
  refine Rn.bind0 (items_run L _ [] m hi ?_ hm ?_ (fun e he => by cases he) hr) rfl
  · exact Nat.ble_eq_true_of_le (Nat.lt_succ_self _)
  · simpa using hl
end
theorem sub_dict (w : World) : isSubtype (.type "dict") (.type "dict") = (Pure.pure true : Sem Bool) := by
  rw [show @isSubtype = PySem.W.Fast.tw16098473122060591676 from PySem.W.Fast.te16098473122060591676]; kernel_rfl!
theorem look_iter_t (w : World) (s : SharedT) (q : Pos) : Rn (wf w true) 0 (typeLookup (.type "dict") "__iter__") s q (some (.builtin "dict.__iter__")) s q := by
  intro K H gd lv
  rw [te_go, te_tab, show @typeLookup = PySem.W.Fast.tw1381439984260040727 from PySem.W.Fast.te1381439984260040727]
  kernel_rfl!
theorem look_iter_f (w : World) (s : SharedT) (q : Pos) : Rn (wf w false) 0 (typeLookup (.type "dict") "__iter__") s q (some (.builtin "dict.__iter__")) s q := by
  intro K H gd lv
  rw [te_go, te_tab, show @typeLookup = PySem.W.Fast.tw1381439984260040727 from PySem.W.Fast.te1381439984260040727]
  kernel_rfl!
noncomputable def mergeTurn (d a : Addr) (epoch : Nat) (i : Nat) (_ : PUnit) : Sem (ForInStep PUnit) := do
              let __do_lift ← dictEntries a
              match __do_lift[i]? with
                | some e => do
                  holding [e.key, e.val] (dictPut d e.hash e.key e.val)
                  let __do_lift ← dictEpoch a
                  if (__do_lift != epoch) = true then do
                      unsupported "dict.changed-during-merge"
                      Pure.pure (ForInStep.yield PUnit.unit)
                    else Pure.pure (ForInStep.yield PUnit.unit)
                | x => do
                  unsupported "dict.changed-during-merge"
                  Pure.pure (ForInStep.yield PUnit.unit)
section
variable {w : World} {b : Bool} {q : Pos} {d a : Addr}
theorem ent_get {L : List (Nat × Str)} {t : Nat} {e : DictEntry} : e ∈ ent t L → ∃ n x u, e = (⟨((n : Nat) : Int), .int (n : Int) u, .str x (u + 1)⟩ : DictEntry) ∧ (n, x) ∈ L := by
  induction L generalizing t with
  | nil => intro h; cases h
  | cons p L ih =>
    obtain ⟨n, x⟩ := p
    intro h
    unfold ent at h
    rcases List.mem_cons.mp h with rfl | h
    · exact ⟨n, x, t, rfl, .head _⟩
    · obtain ⟨n', x', u, e1, e2⟩ := ih h
      exact ⟨n', x', u, e1, .tail _ e2⟩
theorem turn_run {s : SharedT} {sub es : List DictEntry} {i : Nat} {e : DictEntry} {k : Int} {t : Tok} (hda : d ≠ a) (hga : s.tree.get a = some (dO sub)) (hgd : s.tree.get d = some (dO es)) (hna : Nat.blt a s.n = true) (hnd : Nat.blt d s.n = true)
    (hm : Nat.ble m0 d = true) (hl : es.length < 1000) (he : sub[i]? = some e) (hk : e.key = .int k t) (hh : ∀ x ∈ es, x.hash ≠ e.hash) :
    Rn w 6 (mergeTurn d a sub.length i PUnit.unit) s q (ForInStep.yield PUnit.unit) { s with tree := s.tree.set d (fun _ => dO (es ++ [e])) } q := by
  unfold mergeTurn
  refine Rn.bind (n := 1) (m := 5) (entries_run (L := sub) _ hga hna) ?_
  rw [List.getElem?_toArray, he]
  dsimp only
  obtain ⟨h, key, v⟩ := e
  dsimp only at hk hh ⊢
  subst hk
  refine Rn.bind (n := 4) (m := 1) (Rn.holding _ (put_run hgd hnd hm hl hh)) ?_
  refine Rn.bind0 (epoch_run (L := sub) _ ?_ hna) ?_
  · dsimp only; rw [BT.get_set, if_neg (fun e => hda e.symm), hga]
  · rw [show (sub.length != sub.length) = false by simp]; rfl
theorem turns_run {sub : List DictEntry} : ∀ (m i : Nat) (s : SharedT) (es : List DictEntry) (_ : d ≠ a) (_ : s.tree.get a = some (dO sub)) (_ : s.tree.get d = some (dO es)) (_ : Nat.blt a s.n = true) (_ : Nat.blt d s.n = true) (_ : Nat.ble m0 d = true)
    (_ : es.length + m < 1000) (_ : i + m = sub.length) (_ : ∀ e ∈ sub, ∃ k t, e.key = .int k t) (_ : ∀ x ∈ es, ∀ e ∈ sub.drop i, x.hash ≠ e.hash) (_ : sub.Pairwise (fun x e => x.hash ≠ e.hash)),
    Rn w (6 * m) (forIn (List.range' i m) PUnit.unit (mergeTurn d a sub.length)) s q PUnit.unit { s with tree := s.tree.set d (fun _ => dO (es ++ sub.drop i)) } q
  | 0, i, s, es, hda, hga, hgd, hna, hnd, hm, hl, hi, hk, hh, hp => by
    have : sub.drop i = [] := List.drop_eq_nil_of_le (by (first | lia | omega))
    rw [this, List.append_nil, bt_set_same _ _ _ hgd]
    exact Rn.pure _
  | m + 1, i, s, es, hda, hga, hgd, hna, hnd, hm, hl, hi, hk, hh, hp => by
    have hlt : i < sub.length := by (first | lia | omega)
    have hg : sub[i]? = some sub[i] := List.getElem?_eq_getElem hlt
    obtain ⟨k, t, hkey⟩ := hk _ (List.getElem_mem hlt)
    have hd : sub.drop i = sub[i] :: sub.drop (i + 1) := List.drop_eq_getElem_cons hlt
    have I := turn_run (w := w) (q := q) (es := es) hda hga hgd hna hnd hm (by (first | lia | omega)) hg hkey (fun x hx => hh x hx _ (by rw [hd]; exact .head _))
    have J := turns_run m (i + 1) { s with tree := s.tree.set d (fun _ => dO (es ++ [sub[i]])) } (es ++ [sub[i]]) hda
      (by dsimp only; rw [BT.get_set, if_neg (fun e => hda e.symm), hga]) (by dsimp only; rw [BT.get_set, if_pos rfl, hgd]; rfl) hna hnd hm (by rw [List.length_append, List.length_singleton]; (first | lia | omega)) (by (first | lia | omega)) hk
      (fun x hx e he => by
        rcases List.mem_append.mp hx with hx | hx
        · exact hh x hx e (by rw [hd]; exact .tail _ he)
        · rw [List.mem_singleton] at hx; subst hx
          have hp' := hp.drop (i := i)
          rw [hd] at hp'
          exact (List.pairwise_cons.mp hp').1 e he) hp
    have J' := Rn.forIn_cons I J
    rw [setS] at J'
    rw [List.range'_succ, show 6 * (m + 1) = 6 + 6 * m by (first | lia | omega)]
    rw [List.append_assoc, List.singleton_append, ← hd] at J'
    exact J'
theorem merge_run {s : SharedT} {sub es : List DictEntry} (hda : d ≠ a) (hsys : (a == sysModules) = false) (hga : s.tree.get a = some (dO sub)) (hgd : s.tree.get d = some (dO es)) (hna : Nat.blt a s.n = true) (hnd : Nat.blt d s.n = true) (hm : Nat.ble m0 d = true)
    (hne : es ≠ []) (hl : es.length + sub.length < 1000) (hk : ∀ e ∈ sub, ∃ k t, e.key = .int k t) (hh : ∀ x ∈ es, ∀ e ∈ sub, x.hash ≠ e.hash) (hp : sub.Pairwise (fun x e => x.hash ≠ e.hash)) :
    Rn (wf w b) (5 + 6 * sub.length) (mergeMapping d (.ref a) false) s q () { s with tree := s.tree.set d (fun _ => dO (es ++ sub)) } q := by
  have T1 : Rn (wf w b) 1 (typeOf (.ref a)) s q (.type "dict") s q := Rn.bind0 (Rn.loadPart _ hga rfl hna) rfl
  have T2 : Rn (wf w b) 1 (isInstance (.ref a) (.type "dict")) s q true s q := Rn.bind0 T1 (sub_dict w)
  have T3 : Rn (wf w b) 1 (specialOf (.ref a) "__iter__") s q (some (.builtin "dict.__iter__")) s q := Rn.bind (n := 1) (m := 0) T1 (by cases b; exact look_iter_f w s q; exact look_iter_t w s q)
  unfold mergeMapping
  rw [show 5 + 6 * sub.length = 1 + (1 + (1 + (1 + (1 + 6 * sub.length)))) by (first | lia | omega)]
  refine Rn.bind T2 ?_
  show Rn (wf w b) _ (specialOf (.ref a) "__iter__" >>= fun x => _) s q _ _ _
  refine Rn.bind T3 ?_
  rw [show ((some (Value.builtin "dict.__iter__") == some (.builtin "dict.__iter__")) = true) by decide +kernel]
  refine Rn.cast (n := 0 + (1 + (1 + (1 + 6 * sub.length)))) ?_ (by (first | lia | omega))
  refine Rn.bind (Rn.pure true) ?_
  dsimp only
  rw [hsys, if_neg (by decide)]
  refine Rn.bind (entries_run (L := es) _ hgd hnd) ?_
  rw [show es.toArray.isEmpty = false by cases es; exact absurd rfl hne; rfl, if_neg (by decide)]
  refine Rn.bind (entries_run (L := sub) _ hga hna) ?_
  refine Rn.bind (epoch_run (L := sub) _ hga hna) ?_
  refine Rn.bind0 (a := PUnit.unit) ?_ rfl
  have := turns_run (w := wf w b) (q := q) sub.length 0 s es hda hga hgd hna hnd hm hl (by (first | lia | omega)) hk (by simpa using hh) hp
  rw [List.drop_zero, ← List.range_eq_range'] at this
  exact this
end
noncomputable def Braun : Nat → BT → Prop
  | n, .nil => n = 0
  | n, .node _ l r => 0 < n ∧ Braun (n / 2) l ∧ Braun ((n - 1) / 2) r
theorem braun_ins : ∀ (T : BT) (n : Nat) (o : Obj), Braun n T → (T.ins n o).get n = some o ∧ Braun (n + 1) (T.ins n o)
  | .nil, n, o, h => by
    have h : n = 0 := h
    subst h
    exact ⟨rfl, Nat.succ_pos _, rfl, rfl⟩
  | .node v l r, n, o, h => by
    obtain ⟨h0, hl, hr⟩ := h
    rw [BT.ins_node, if_neg (Nat.ne_of_gt h0)]
    by_cases h2 : n % 2 = 1
    · rw [if_pos h2, BT.get_node, if_neg (Nat.ne_of_gt h0), if_pos h2]
      obtain ⟨a, b⟩ := braun_ins l (n / 2) o hl
      refine ⟨a, Nat.succ_pos _, ?_, ?_⟩
      · rw [show (n + 1) / 2 = n / 2 + 1 by (first | lia | omega)]; exact b
      · rw [show (n + 1 - 1) / 2 = (n - 1) / 2 by (first | lia | omega)]; exact hr
    · rw [if_neg h2, BT.get_node, if_neg (Nat.ne_of_gt h0), if_neg h2]
      have e : (n - 1) / 2 = n / 2 - 1 := by (first | lia | omega)
      obtain ⟨a, b⟩ := braun_ins r (n / 2 - 1) o (e ▸ hr)
      refine ⟨a, Nat.succ_pos _, ?_, ?_⟩
      · rw [show (n + 1) / 2 = n / 2 by (first | lia | omega)]; exact hl
      · rw [show (n + 1 - 1) / 2 = n / 2 - 1 + 1 by (first | lia | omega)]; exact b
theorem braun_set : ∀ (T : BT) (n a : Nat) (f : Obj → Obj), Braun n T → Braun n (T.set a f)
  | .nil, n, a, f, h => h
  | .node v l r, n, a, f, h => by
    obtain ⟨h0, hl, hr⟩ := h
    rw [BT.set_node]
    split
    · exact ⟨h0, hl, hr⟩
    · split
      · exact ⟨h0, braun_set l _ _ _ hl, hr⟩
      · exact ⟨h0, hl, braun_set r _ _ _ hr⟩
noncomputable def braunB : Nat → BT → Bool
  | n, .nil => Nat.beq n 0
  | n, .node _ l r => Nat.blt 0 n && braunB (n / 2) l && braunB ((n - 1) / 2) r
theorem braun_of : ∀ (T : BT) (n : Nat), braunB n T = true → Braun n T
  | .nil, n, h => Nat.eq_of_beq_eq_true h
  | .node _ l r, n, h => by
    unfold braunB at h
    simp only [Bool.and_eq_true] at h
    exact ⟨Nat.le_of_ble_eq_true h.1.1, braun_of l _ h.1.2, braun_of r _ h.2⟩
noncomputable def flushD (run : List (Sem Value × Sem Value)) (main : Option Addr) : Sem (Option Addr) :=
    if run.isEmpty = true then Pure.pure main
    else
      match main with
      | none => do
        let __do_lift ← subDict run
        Pure.pure (some __do_lift)
      | some d => do
        let sub ← holding [Value.ref d] (subDict run)
        (holding [Value.ref d, Value.ref sub] (mergeMapping d (Value.ref sub) false)).onRaise fun (x : Value) => do
            let _ ← holding [Value.ref d, x] (runValue (Code.builtin "proto.let_go" { }))
            Pure.pure ()
        Pure.pure (some d)
noncomputable def dispBody (x : Option (Sem Value) × Sem Value) (__s : Option Addr × List (Sem Value × Sem Value)) : Sem (ForInStep (Option Addr × List (Sem Value × Sem Value))) :=
        have main := __s.fst;
        have run := __s.snd;
        match x with
        | (k, v) =>
          match k with
          | some k =>
            have run := run ++ [(k, v)];
            if (run.length == 17) = true then do
              let main ← flushD run main
              have run : List (Sem Value × Sem Value) := []
              Pure.pure (ForInStep.yield (main, run))
            else Pure.pure (ForInStep.yield (main, run))
          | none => do
            let main ← flushD run main
            have run : List (Sem Value × Sem Value) := []
            have __do_jp : Addr → Sem (ForInStep (Option Addr × List (Sem Value × Sem Value))) := fun (d : Addr) =>
              have main := some d;
              do
              let m ← holding [Value.ref d] v
              (((holding [Value.ref d, m] (mergeMapping d m false)).onRaise fun (x : Value) => do
                          let _ ← holding [Value.ref d, m, x] (runValue (Code.builtin "proto.let_go" { }))
                          Pure.pure ()).tryCatch
                      fun (e : Value) => do
                      let __do_lift ← isInstance e (Value.type "AttributeError")
                      have __do_jp : Unit → Sem Unit := fun (__r : Unit) => throw e
                      if __do_lift = true then do
                          rule "dict.display.not-a-mapping"
                          let __do_lift ← typeNameOf m
                          let __r ←
                            raiseErrorMade "TypeError"
                                (toString "'" ++ toString __do_lift ++ toString "' object is not a mapping")
                          __do_jp __r
                        else __do_jp ()).onRaise
                  fun (x : Value) => do
                  let _ ← holding [Value.ref d, x] (runValue (Code.builtin "proto.let_go" { }))
                  Pure.pure ()
              Pure.pure (ForInStep.yield (main, run))
            match main with
              | some d => do
                let d ← Pure.pure d
                __do_jp d
              | none => do
                let d ← alloc { cls := Value.type "dict", data := Data.dict #[] }
                __do_jp d
theorem dictDisplay_eq (items : List (Option (Sem Value) × Sem Value)) : dictDisplay items = (forIn items (none, []) dispBody >>= fun r => flushD r.2 r.1 >>= fun o => match o with | some d => Pure.pure (Value.ref d) | none => newDict) := rfl
noncomputable def itemS (P : Pos) (p : Nat × Str) : Option (Sem Value) × Sem Value := (some (kS p), vS P p)
theorem disp_acc {P : Pos} {main : Option Addr} {rest : List (Option (Sem Value) × Sem Value)} : ∀ (c : List (Nat × Str)) (run : List (Sem Value × Sem Value)), run.length + c.length < 17 →
    forIn (c.map (itemS P) ++ rest) (main, run) dispBody = forIn rest (main, run ++ c.map (pairS P)) dispBody
  | [], run, h => by rw [List.map_nil, List.map_nil, List.append_nil]; rfl
  | p :: c, run, h => by
    have hl : run.length + (c.length + 1) < 17 := h
    rw [List.map_cons, List.cons_append, List.forIn_cons]
    have e : dispBody (itemS P p) (main, run) = Pure.pure (ForInStep.yield (main, run ++ [pairS P p])) := by
      show (if ((run ++ [pairS P p]).length == 17) = true then _ else _) = _
      exact if_neg (by rw [List.length_append, List.length_singleton, beq_iff_eq]; (first | lia | omega))
    rw [e]
    show forIn (c.map (itemS P) ++ rest) (main, run ++ [pairS P p]) dispBody = _
    rw [disp_acc c _ (by rw [List.length_append, List.length_singleton]; (first | lia | omega)), List.map_cons, List.append_assoc, List.singleton_append]
section
variable {w : World} {b : Bool} {P : Pos}
theorem disp_chunk {c : List (Nat × Str)} {p : Nat × Str} {n m : Nat} {s s' s'' : SharedT} {q : Pos} {main main' : Option Addr} {rest : List (Option (Sem Value) × Sem Value)} {r : Option Addr × List (Sem Value × Sem Value)}
    (hc : c.length = 16) (h : Rn w n (flushD ((c ++ [p]).map (pairS P)) main) s P main' s' P) (k : Rn w m (forIn rest (main', []) dispBody) s' P r s'' q) :
    Rn w (n + m) (forIn ((c ++ [p]).map (itemS P) ++ rest) (main, []) dispBody) s P r s'' q := by
  rw [List.map_append, List.append_assoc, disp_acc c [] (by simp [hc]), List.nil_append, List.map_cons, List.map_nil, List.cons_append, List.nil_append]
  refine Rn.forIn_cons ?_ k
  show Rn w n (if ((c.map (pairS P) ++ [pairS P p]).length == 17) = true then (flushD (c.map (pairS P) ++ [pairS P p]) main >>= fun m => Pure.pure (ForInStep.yield (m, []))) else _) s P _ s' P
  rw [if_pos (by simp [hc])]
  rw [List.map_append] at h
  exact Rn.bind0 h rfl
theorem flush_none {L : List (Nat × Str)} {s : SharedT} {m : Nat} (hL : 15 < L.length) (hl : L.length < 1000) (hr : risingFrom m L = true) (hB : Braun s.n s.tree) (hm : Nat.ble m0 s.n = true) :
    Rn (wf w b) (2 + 13 * L.length) (flushD (L.map (pairS P)) none) s P (some s.n) { s with tree := (s.tree.ins s.n (dO [])).set s.n (fun _ => dO (ent s.toks L)), n := s.n + 1, toks := s.toks + 3 * L.length } P := by
  unfold flushD
  rw [if_neg (by cases L; exact absurd hL (by decide); simp)]
  exact Rn.bind0 (subDict_run hL hl hr (braun_ins _ _ _ hB).1 hm) rfl
theorem ent_length : ∀ (L : List (Nat × Str)) (t : Nat), (ent t L).length = L.length
  | [], t => rfl
  | (_, _) :: L, t => by unfold ent; rw [List.length_cons, ent_length L, List.length_cons]
theorem rising_mem : ∀ {L : List (Nat × Str)} {m : Nat}, risingFrom m L = true → ∀ p ∈ L, m < p.1
  | (n, x) :: L, m, h, p, hp => by
    unfold risingFrom at h
    simp only [Bool.and_eq_true] at h
    have h1 : m < n := Nat.le_of_ble_eq_true h.1.1
    rcases List.mem_cons.mp hp with rfl | hp
    · exact h1
    · exact Nat.lt_trans h1 (rising_mem h.2 p hp)
noncomputable def lastOf (m : Nat) : List (Nat × Str) → Nat
  | [] => m
  | (n, _) :: L => lastOf n L
theorem rising_last : ∀ {L : List (Nat × Str)} {m : Nat}, risingFrom m L = true → m ≤ lastOf m L ∧ ∀ p ∈ L, p.1 ≤ lastOf m L
  | [], m, h => ⟨Nat.le_refl _, fun p hp => nomatch hp⟩
  | (n, x) :: L, m, h => by
    unfold risingFrom at h
    simp only [Bool.and_eq_true] at h
    have h1 : m < n := Nat.le_of_ble_eq_true h.1.1
    obtain ⟨a, c⟩ := rising_last h.2
    refine ⟨Nat.le_trans (Nat.le_of_lt h1) a, fun p hp => ?_⟩
    rcases List.mem_cons.mp hp with rfl | hp
    · exact a
    · exact c p hp
theorem ent_pair : ∀ {L : List (Nat × Str)} {m t : Nat}, risingFrom m L = true → (ent t L).Pairwise (fun x e => x.hash ≠ e.hash)
  | [], m, t, h => List.Pairwise.nil
  | (n, x) :: L, m, t, h => by
    unfold risingFrom at h
    simp only [Bool.and_eq_true] at h
    unfold ent
    refine List.pairwise_cons.mpr ⟨fun e he => ?_, ent_pair h.2⟩
    obtain ⟨n', x', u, rfl, hp⟩ := ent_get he
    have := rising_mem h.2 _ hp
    dsimp only
    (first | lia | omega)
theorem flush_some {L : List (Nat × Str)} {s : SharedT} {m : Nat} {d : Addr} {es : List DictEntry} (hL : 15 < L.length) (hl : es.length + L.length < 1000) (hr : risingFrom m L = true) (hB : Braun s.n s.tree) (hm : Nat.ble m0 s.n = true)
    (hmd : Nat.ble m0 d = true) (hd : d < s.n) (hgd : s.tree.get d = some (dO es)) (hne : es ≠ []) (hsys : (s.n == sysModules) = false) (hh : ∀ e ∈ es, e.hash ≤ (m : Int)) :
    Rn (wf w b) ((2 + 13 * L.length) + (5 + 6 * L.length)) (flushD (L.map (pairS P)) (some d)) s P (some d)
      { s with tree := ((s.tree.ins s.n (dO [])).set s.n (fun _ => dO (ent s.toks L))).set d (fun _ => dO (es ++ ent s.toks L)), n := s.n + 1, toks := s.toks + 3 * L.length } P := by
  unfold flushD
  rw [if_neg (by cases L; exact absurd hL (by decide); simp)]
  have hi := braun_ins s.tree s.n (dO []) hB
  refine Rn.bind (Rn.holding _ (subDict_run hL (by (first | lia | omega)) hr hi.1 hm)) ?_
  refine Rn.bind0 (a := ()) (Rn.onRaise (Rn.holding _ ?_)) rfl
  have hne' : ¬ d = s.n := Nat.ne_of_lt hd
  have g1 : (s.tree.ins s.n (dO [])).get d = some (dO es) := by
    rw [BT.get_ins _ _ _ (by rw [hi.1]; rfl), if_neg hne', hgd]
  have := merge_run (w := w) (b := b) (q := P) (d := d) (a := s.n) (sub := ent s.toks L) (es := es)
    (s := { s with tree := (s.tree.ins s.n (dO [])).set s.n (fun _ => dO (ent s.toks L)), n := s.n + 1, toks := s.toks + 3 * L.length }) hne' hsys
    (by dsimp only; rw [BT.get_set, if_pos rfl, hi.1]; rfl) (by dsimp only; rw [BT.get_set, if_neg hne', g1]) (Nat.ble_eq_true_of_le (Nat.lt_succ_self _)) (Nat.ble_eq_true_of_le (Nat.succ_le_succ (Nat.le_of_lt hd))) hmd hne (by rw [ent_length]; (first | lia | omega))
    (fun e he => by obtain ⟨n, x, u, rfl, _⟩ := ent_get he; exact ⟨_, _, rfl⟩)
    (fun x hx e he => by
      obtain ⟨n, y, u, rfl, hp⟩ := ent_get he
      have h1 := hh x hx
      have h2 := rising_mem hr _ hp
      dsimp only at h2 ⊢
      (first | lia | omega)) (ent_pair hr)
  rw [ent_length] at this
  exact this
end
noncomputable def valsS (t : Nat) : List (Nat × Str) → List (Value × Value)
  | [] => []
  | (n, x) :: r => (.int (n : Int) t, .str x (t + 1)) :: valsS (t + 2) r
theorem entS_length : ∀ (L : List (Nat × Str)) (t : Nat), (entS t L).length = L.length
  | [], t => rfl
  | (_, _) :: L, t => by unfold entS; rw [List.length_cons, entS_length L, List.length_cons]
theorem entS_get {L : List (Nat × Str)} {t : Nat} {e : DictEntry} : e ∈ entS t L → ∃ n x u, e = (⟨((n : Nat) : Int), .int (n : Int) u, .str x (u + 1)⟩ : DictEntry) ∧ (n, x) ∈ L := by
  induction L generalizing t with
  | nil => intro h; cases h
  | cons p L ih =>
    obtain ⟨n, x⟩ := p
    intro h
    unfold entS at h
    rcases List.mem_cons.mp h with rfl | h
    · exact ⟨n, x, t, rfl, .head _⟩
    · obtain ⟨n', x', u, e1, e2⟩ := ih h
      exact ⟨n', x', u, e1, .tail _ e2⟩
theorem entS_pair : ∀ {L : List (Nat × Str)} {m t : Nat}, risingFrom m L = true → (entS t L).Pairwise (fun x e => x.hash ≠ e.hash)
  | [], m, t, h => List.Pairwise.nil
  | (n, x) :: L, m, t, h => by
    unfold risingFrom at h
    simp only [Bool.and_eq_true] at h
    unfold entS
    refine List.pairwise_cons.mpr ⟨fun e he => ?_, entS_pair h.2⟩
    obtain ⟨n', x', u, rfl, hp⟩ := entS_get he
    have := rising_mem h.2 _ hp
    dsimp only
    (first | lia | omega)
noncomputable def subBody2 (d : Addr) (x : Value × Value) (_ : PUnit) : Sem (ForInStep PUnit) := match x with
                | (k, v) => do
                  dictSet d k v
                  Pure.pure (ForInStep.yield PUnit.unit)
section
variable {w : World} {b : Bool} {P : Pos} {d : Addr}
theorem evalPairs_run : ∀ (L : List (Nat × Str)) (s : SharedT), Rn w (3 * L.length) (evalPairs (L.map (pairS P))) s P (valsS s.toks L) { s with toks := s.toks + 2 * L.length } P
  | [], s => Rn.pure _
  | (n, x) :: L, s => by
    rw [List.map_cons]
    unfold evalPairs
    rw [show 3 * ((n, x) :: L).length = 1 + (2 + 3 * L.length) by rw [List.length_cons]; (first | lia | omega)]
    show Rn w _ (kS (n, x) >>= fun kv => holding [kv] (vS P (n, x)) >>= fun vv => holding [kv, vv] (evalPairs (L.map (pairS P))) >>= fun r => Pure.pure ((kv, vv) :: r)) s P _ _ P
    refine Rn.bind (n := 1) (Rn.bind0 Rn.fresh rfl) ?_
    refine Rn.bind (n := 2) (Rn.holding _ (Rn.bind (n := 1) (m := 1) (Rn.bind0 Rn.fresh rfl) (Rn.bind0 (Rn.standAt P) rfl))) ?_
    have := evalPairs_run L { s with toks := s.toks + 1 + 1 }
    dsimp only at this
    rw [show s.toks + 2 * ((n, x) :: L).length = s.toks + 1 + 1 + 2 * L.length by rw [List.length_cons]; (first | lia | omega)]
    exact Rn.bind0 (Rn.holding _ this) rfl
theorem item2_run {s : SharedT} {n t : Nat} {v : Value} {es : List DictEntry} (hg : s.tree.get d = some (dO es)) (hn : Nat.blt d s.n = true) (hm : Nat.ble m0 d = true) (hl : es.length < 1000) (hs : n < 2 ^ 61 - 1) (hh : ∀ e ∈ es, e.hash ≠ (n : Int)) :
    Rn (wf w b) 10 (subBody2 d (.int (n : Int) t, v) PUnit.unit) s P (ForInStep.yield PUnit.unit)
      { s with tree := s.tree.set d (fun _ => dO (es ++ [⟨(n : Int), .int (n : Int) t, v⟩])), toks := s.toks + 1 } P := by
  show Rn (wf w b) 10 (dictSet d (.int (n : Int) t) v >>= fun _ => Pure.pure (ForInStep.yield PUnit.unit)) s P _ _ _
  refine Rn.bind0 (a := ()) ?_ rfl
  unfold dictSet
  refine Rn.holding _ (Rn.bind (n := 5) (m := 5) (pyHash_run w b hs _ _ _) ?_)
  unfold dictSetHashed
  refine Rn.holding _ (Rn.bind (n := 1) (m := 4) (find_run (L := es) hg hn hh) ?_)
  refine Rn.bind (n := 1) (m := 3) (Rn.rule _) ?_
  exact updKeys_run _ hg hn hm hl
theorem items2_run : ∀ (L : List (Nat × Str)) (t : Nat) (s : SharedT) (es : List DictEntry) (m : Nat) (_ : s.tree.get d = some (dO es)) (_ : Nat.blt d s.n = true) (_ : Nat.ble m0 d = true) (_ : es.length + L.length < 1000)
    (_ : ∀ e ∈ es, e.hash ≤ (m : Int)) (_ : risingFrom m L = true),
    Rn (wf w b) (10 * L.length) (forIn (valsS t L) PUnit.unit (subBody2 d)) s P PUnit.unit { s with tree := s.tree.set d (fun _ => dO (es ++ entS t L)), toks := s.toks + L.length } P
  | [], t, s, es, m, hg, hn, hm, hl, hh, hr => by
    have : s = { s with tree := s.tree.set d (fun _ => dO (es ++ entS t [])), toks := s.toks + ([] : List (Nat × Str)).length } := by
      rw [show es ++ entS t [] = es from List.append_nil _, bt_set_same _ _ _ hg]; rfl
    rw [← this]
    exact Rn.pure _
  | (n, x) :: L, t, s, es, m, hg, hn, hm, hl, hh, hr => by
    unfold risingFrom at hr
    simp only [Bool.and_eq_true] at hr
    obtain ⟨⟨h1, h2⟩, h3⟩ := hr
    have h1 := Nat.le_of_ble_eq_true h1
    have h2 := Nat.le_of_ble_eq_true h2
    have hl' : es.length + (L.length + 1) < 1000 := hl
    have I := item2_run (w := w) (b := b) (P := P) (v := .str x (t + 1)) (t := t) hg hn hm (by (first | lia | omega)) (n := n) (by (first | lia | omega)) (fun e he => by have := hh e he; (first | lia | omega))
    have J := items2_run L (t + 2) { s with tree := s.tree.set d (fun _ => dO (es ++ [⟨(n : Int), .int (n : Int) t, .str x (t + 1)⟩])), toks := s.toks + 1 } (es ++ [⟨(n : Int), .int (n : Int) t, .str x (t + 1)⟩]) n
      (by dsimp only; rw [BT.get_set, if_pos rfl, hg]; rfl) hn hm (by rw [List.length_append, List.length_singleton]; (first | lia | omega))
      (fun e he => by
        rcases List.mem_append.mp he with he | he
        · have := hh e he; (first | lia | omega)
        · rw [List.mem_singleton] at he; subst he; exact Int.le_refl _) h3
    have J' := Rn.forIn_cons I J
    rw [show 10 * ((n, x) :: L).length = 10 + 10 * L.length by rw [List.length_cons]; (first | lia | omega)]
    rw [setS] at J'
    have e1 : (es ++ [⟨(n : Int), .int (n : Int) t, .str x (t + 1)⟩]) ++ entS (t + 2) L = es ++ entS t ((n, x) :: L) := by rw [List.append_assoc]; rfl
    have e2 : s.toks + 1 + L.length = s.toks + ((n, x) :: L).length := by rw [List.length_cons]; (first | lia | omega)
    dsimp only at J'
    rw [e1, e2] at J'
    exact J'
theorem subDict_short {L : List (Nat × Str)} {s : SharedT} {m : Nat} (hL : L.length ≤ 15) (hr : risingFrom m L = true) (hB : Braun s.n s.tree) (hm : Nat.ble m0 s.n = true) :
    Rn (wf w b) (1 + 13 * L.length) (subDict (L.map (pairS P))) s P s.n { s with tree := (s.tree.ins s.n (dO [])).set s.n (fun _ => dO (entS s.toks L)), n := s.n + 1, toks := s.toks + 3 * L.length } P := by
  have hi := (braun_ins _ _ (dO []) hB).1
  unfold subDict
  refine Rn.bind (Rn.alloc (o := dO []) (by rw [hi]; rfl)) ?_
  refine Rn.bind0 (a := ()) (Rn.holding _ ?_) rfl
  rw [if_pos (by rw [List.length_map]; (first | lia | omega))]
  rw [show 13 * L.length = 3 * L.length + 10 * L.length by (first | lia | omega)]
  refine Rn.bind (evalPairs_run L _) ?_
  refine Rn.holding _ (Rn.bind0 (a := PUnit.unit) ?_ rfl)
  have := items2_run (w := w) (b := b) (P := P) (d := s.n) L s.toks { s with tree := s.tree.ins s.n (dO []), n := s.n + 1, toks := s.toks + 2 * L.length } [] m hi (Nat.ble_eq_true_of_le (Nat.lt_succ_self _)) hm (by simp only [List.length_nil]; (first | lia | omega)) (fun e he => by cases he) hr
  rw [show s.toks + 3 * L.length = s.toks + 2 * L.length + L.length by (first | lia | omega)]
  exact this
theorem flush_last {L : List (Nat × Str)} {s : SharedT} {m : Nat} {es : List DictEntry} (hL : L.length ≤ 15) (h0 : L ≠ []) (hl : es.length + L.length < 1000) (hr : risingFrom m L = true) (hB : Braun s.n s.tree) (hm : Nat.ble m0 s.n = true)
    (hmd : Nat.ble m0 d = true) (hd : d < s.n) (hgd : s.tree.get d = some (dO es)) (hne : es ≠ []) (hsys : (s.n == sysModules) = false) (hh : ∀ e ∈ es, e.hash ≤ (m : Int)) :
    Rn (wf w b) ((1 + 13 * L.length) + (5 + 6 * L.length)) (flushD (L.map (pairS P)) (some d)) s P (some d)
      { s with tree := ((s.tree.ins s.n (dO [])).set s.n (fun _ => dO (entS s.toks L))).set d (fun _ => dO (es ++ entS s.toks L)), n := s.n + 1, toks := s.toks + 3 * L.length } P := by
  unfold flushD
  rw [if_neg (by cases L; exact absurd rfl h0; simp)]
  have hi := braun_ins s.tree s.n (dO []) hB
  refine Rn.bind (Rn.holding _ (subDict_short hL hr hB hm)) ?_
  refine Rn.bind0 (a := ()) (Rn.onRaise (Rn.holding _ ?_)) rfl
  have hne' : ¬ d = s.n := Nat.ne_of_lt hd
  have g1 : (s.tree.ins s.n (dO [])).get d = some (dO es) := by
    rw [BT.get_ins _ _ _ (by rw [hi.1]; rfl), if_neg hne', hgd]
  have := merge_run (w := w) (b := b) (q := P) (d := d) (a := s.n) (sub := entS s.toks L) (es := es)
    (s := { s with tree := (s.tree.ins s.n (dO [])).set s.n (fun _ => dO (entS s.toks L)), n := s.n + 1, toks := s.toks + 3 * L.length }) hne' hsys
    (by dsimp only; rw [BT.get_set, if_pos rfl, hi.1]; rfl) (by dsimp only; rw [BT.get_set, if_neg hne', g1]) (Nat.ble_eq_true_of_le (Nat.lt_succ_self _)) (Nat.ble_eq_true_of_le (Nat.succ_le_succ (Nat.le_of_lt hd))) hmd hne (by rw [entS_length]; (first | lia | omega))
    (fun e he => by obtain ⟨n, x, u, rfl, _⟩ := entS_get he; exact ⟨_, _, rfl⟩)
    (fun x hx e he => by
      obtain ⟨n, y, u, rfl, hp⟩ := entS_get he
      have h1 := hh x hx
      have h2 := rising_mem hr _ hp
      dsimp only at h2 ⊢
      (first | lia | omega)) (entS_pair hr)
  rw [entS_length] at this
  exact this
noncomputable def nextS (d : Addr) (s : SharedT) (es : List DictEntry) (c : List (Nat × Str)) : SharedT :=
  { s with tree := ((s.tree.ins s.n (dO [])).set s.n (fun _ => dO (ent s.toks c))).set d (fun _ => dO (es ++ ent s.toks c)), n := s.n + 1, toks := s.toks + 3 * c.length }
noncomputable def runC (d : Addr) : List (List (Nat × Str)) → SharedT → List DictEntry → SharedT × List DictEntry
  | [], s, es => (s, es)
  | c :: cs, s, es => runC d cs (nextS d s es c) (es ++ ent s.toks c)
noncomputable def risingC (m : Nat) : List (List (Nat × Str)) → Bool
  | [] => true
  | c :: cs => Nat.beq c.length 17 && risingFrom m c && risingC (lastOf m c) cs
noncomputable def lastC (m : Nat) : List (List (Nat × Str)) → Nat
  | [] => m
  | c :: cs => lastC (lastOf m c) cs
structure Good (d : Addr) (m : Nat) (s : SharedT) (es : List DictEntry) : Prop where
  B : Braun s.n s.tree
  hm : Nat.ble m0 s.n = true
  hd : d < s.n
  hg : s.tree.get d = some (dO es)
  hne : es ≠ []
  hsys : sysModules < s.n
  hh : ∀ e ∈ es, e.hash ≤ (m : Int)
theorem Good.next {m : Nat} {s : SharedT} {es : List DictEntry} {c : List (Nat × Str)} (G : Good d m s es) (hr : risingFrom m c = true) : Good d (lastOf m c) (nextS d s es c) (es ++ ent s.toks c) := by
  have hi := braun_ins s.tree s.n (dO []) G.B
  have hL := rising_last hr
  refine ⟨braun_set _ _ _ _ (braun_set _ _ _ _ hi.2), ?_, ?_, ?_, ?_, ?_, ?_⟩
  · exact Nat.ble_eq_true_of_le (Nat.le_succ_of_le (Nat.le_of_ble_eq_true G.hm))
  · exact Nat.lt_succ_of_lt G.hd
  · unfold nextS
    dsimp only
    rw [BT.get_set, if_pos rfl, BT.get_set, if_neg (Nat.ne_of_lt G.hd), BT.get_ins _ _ _ (by rw [hi.1]; rfl), if_neg (Nat.ne_of_lt G.hd), G.hg]; rfl
  · exact fun e => G.hne (List.append_eq_nil_iff.mp e).1
  · exact Nat.lt_succ_of_lt G.hsys
  · intro e he
    rcases List.mem_append.mp he with he | he
    · have := G.hh e he; have := hL.1; (first | lia | omega)
    · obtain ⟨n, x, u, rfl, hp⟩ := ent_get he
      have := hL.2 _ hp
      dsimp only at this ⊢
      (first | lia | omega)
theorem sys_ne {n : Nat} (h : sysModules < n) : (n == sysModules) = false := by simpa using Nat.ne_of_gt h
theorem runC_good : ∀ (cs : List (List (Nat × Str))) (m : Nat) (s : SharedT) (es : List DictEntry), Good d m s es → risingC m cs = true → Good d (lastC m cs) (runC d cs s es).1 (runC d cs s es).2
  | [], m, s, es, G, h => G
  | c :: cs, m, s, es, G, h => by
    unfold risingC at h
    simp only [Bool.and_eq_true] at h
    exact runC_good cs _ _ _ (G.next h.1.2) h.2
theorem loop_run {last : List (Nat × Str)} (hlast : last.length < 17) : ∀ (cs : List (List (Nat × Str))) (m : Nat) (s : SharedT) (es : List DictEntry), Good d m s es → Nat.ble m0 d = true → risingC m cs = true → es.length + 17 * cs.length < 1000 →
    Rn (wf w b) (330 * cs.length) (forIn (cs.flatten.map (itemS P) ++ last.map (itemS P)) (some d, []) dispBody) s P (some d, last.map (pairS P)) (runC d cs s es).1 P
  | [], m, s, es, G, hmd, h, hl => by
    have := disp_acc (P := P) (main := some d) (rest := []) last [] (by simpa using hlast)
    rw [List.append_nil, List.nil_append] at this
    rw [List.flatten_nil, List.map_nil, List.nil_append, this]
    exact Rn.pure _
  | c :: cs, m, s, es, G, hmd, h, hl => by
    unfold risingC at h
    simp only [Bool.and_eq_true] at h
    have hc : c.length = 17 := Nat.eq_of_beq_eq_true h.1.1
    have hl' : es.length + 17 * (cs.length + 1) < 1000 := hl
    have F := flush_some (w := w) (b := b) (P := P) (L := c) (m := m) (d := d) (es := es) (by (first | lia | omega)) (by (first | lia | omega)) h.1.2 G.B G.hm hmd G.hd G.hg G.hne (sys_ne G.hsys) G.hh
    have I := loop_run hlast cs _ _ _ (G.next h.1.2) hmd h.2 (by rw [List.length_append, ent_length]; (first | lia | omega))
    obtain ⟨c', p, rfl⟩ : ∃ c' p, c = c' ++ [p] := ⟨c.dropLast, c.getLast (by intro e; rw [e] at hc; cases hc), (List.dropLast_concat_getLast _).symm⟩
    have hc' : c'.length = 16 := by rw [List.length_append, List.length_singleton] at hc; (first | lia | omega)
    have := disp_chunk hc' F I
    rw [List.flatten_cons, List.map_append, List.append_assoc]
    refine Rn.cast this ?_
    rw [hc, List.length_cons]
    (first | lia | omega)
noncomputable def endS (d : Addr) (s : SharedT) (es : List DictEntry) (L : List (Nat × Str)) : SharedT :=
  { s with tree := ((s.tree.ins s.n (dO [])).set s.n (fun _ => dO (entS s.toks L))).set d (fun _ => dO (es ++ entS s.toks L)), n := s.n + 1, toks := s.toks + 3 * L.length }
noncomputable def firstS (s : SharedT) (c : List (Nat × Str)) : SharedT := { s with tree := (s.tree.ins s.n (dO [])).set s.n (fun _ => dO (ent s.toks c)), n := s.n + 1, toks := s.toks + 3 * c.length }
theorem display_run {c : List (Nat × Str)} {cs : List (List (Nat × Str))} {last : List (Nat × Str)} {s : SharedT} (hB : Braun s.n s.tree) (hm : Nat.ble m0 s.n = true) (hsys : sysModules < s.n) (hc : c.length = 17) (hr : risingFrom 0 c = true) (hcs : risingC (lastOf 0 c) cs = true)
    (hlast : last.length ≤ 15) (h0 : last ≠ []) (hrl : risingFrom (lastC (lastOf 0 c) cs) last = true) (hn : 17 * cs.length + 100 < 1000) (hlen : (runC s.n cs (firstS s c) (ent s.toks c)).2.length < 900) :
    Rn (wf w b) (223 + (330 * cs.length + ((1 + 13 * last.length) + (5 + 6 * last.length)))) (dictDisplay ((c ++ cs.flatten ++ last).map (itemS P))) s P (.ref s.n)
      (endS s.n (runC s.n cs (firstS s c) (ent s.toks c)).1 (runC s.n cs (firstS s c) (ent s.toks c)).2 last) P := by
  have hi := braun_ins s.tree s.n (dO []) hB
  have hL := rising_last hr
  have G : Good s.n (lastOf 0 c) (firstS s c) (ent s.toks c) := by
    refine ⟨braun_set _ _ _ _ hi.2, Nat.ble_eq_true_of_le (Nat.le_succ_of_le (Nat.le_of_ble_eq_true hm)), Nat.lt_succ_self _, ?_, ?_, Nat.lt_succ_of_lt hsys, ?_⟩
    · unfold firstS; dsimp only; rw [BT.get_set, if_pos rfl, hi.1]; rfl
    · intro e; have := congrArg List.length e; rw [ent_length, hc] at this; cases this
    · intro e he
      obtain ⟨n, x, u, rfl, hp⟩ := ent_get he
      have := hL.2 _ hp
      dsimp only at this ⊢
      (first | lia | omega)
  have F := flush_none (w := w) (b := b) (P := P) (L := c) (m := 0) (by (first | lia | omega)) (by (first | lia | omega)) hr hB hm
  have I := loop_run (w := w) (b := b) (P := P) (last := last) (by (first | lia | omega)) cs _ _ _ G hm hcs (by rw [ent_length]; (first | lia | omega))
  obtain ⟨c', p, rfl⟩ : ∃ c' p, c = c' ++ [p] := ⟨c.dropLast, c.getLast (by intro e; rw [e] at hc; cases hc), (List.dropLast_concat_getLast _).symm⟩
  have hc' : c'.length = 16 := by rw [List.length_append, List.length_singleton] at hc; (first | lia | omega)
  have D := disp_chunk hc' F I
  have GE := runC_good cs _ _ _ G hcs
  have Z := flush_last (w := w) (b := b) (P := P) hlast h0 (by (first | lia | omega)) hrl GE.B GE.hm hm GE.hd GE.hg GE.hne (sys_ne GE.hsys) GE.hh
  rw [dictDisplay_eq, List.map_append, List.map_append, List.append_assoc]
  have D' := Rn.bind D (f := fun r => flushD r.2 r.1 >>= fun o => match o with | some d => Pure.pure (Value.ref d) | none => newDict) (Rn.bind0 Z rfl)
  refine Rn.cast D' ?_
  rw [hc]
  (first | lia | omega)
end
noncomputable def restKs : List (List (Nat × Str)) := (List.range 37).map fun i => chunkK (i + 1)
theorem b3_split : b3L = chunkK 0 ++ restKs.flatten ++ lastK := by decide +kernel
theorem items_eq : (evalEachOpt b3Keys envT).zip ((evalEach b3Vals envT).map fun v => do let x ← v; standAt b3Pos; Pure.pure x) = b3L.map (itemS b3Pos) := by kernel_rfl!
theorem end_eq (w : World) (os : OsState) : endS 90 (runC 90 restKs (firstS (SE w os) (chunkK 0)) (ent (SE w os).toks (chunkK 0))).1 (runC 90 restKs (firstS (SE w os) (chunkK 0)) (ent (SE w os).toks (chunkK 0))).2 lastK = SM w os := by kernel_rfl!
theorem len_eq (w : World) (os : OsState) : Nat.blt (runC 90 restKs (firstS (SE w os) (chunkK 0)) (ent (SE w os).toks (chunkK 0))).2.length 900 = true := by kernel_rfl!
theorem disp_all (w : World) (b : Bool) (os : OsState) : Rn (wf w b) (223 + (330 * 37 + ((1 + 13 * 4) + (5 + 6 * 4)))) (dictDisplay (b3L.map (itemS b3Pos))) (SE (wf w b) os) b3Pos (.ref 90) (SM (wf w b) os) b3Pos := by
  have D := display_run (w := w) (b := b) (P := b3Pos) (c := chunkK 0) (cs := restKs) (last := lastK) (s := SE (wf w b) os) (braun_of _ _ (by kernel_rfl!)) (by kernel_rfl!) (by show sysModules < 90; decide) (by decide +kernel) (by decide +kernel) (by decide +kernel) (by decide +kernel) (by decide +kernel) (by decide +kernel) (by decide +kernel)
    (Nat.le_of_ble_eq_true (len_eq (wf w b) os))
  rw [← b3_split, show restKs.length = 37 by decide +kernel, show lastK.length = 4 by decide +kernel] at D
  rw [← end_eq]
  exact D
theorem segRunT_of_go {w : World} : ∀ {n : Nat} {s s' : SharedT} {t : Thread} {f : Flow} {q : Pos}, segGoT treeTable pE w m0 ann 1 n s t = some (s', ⟨doneF f, cE, q, BF⟩) →
    segRunT treeTable pE w m0 ann 1 (n + 1) s t = some (f, s', cE, q)
  | 0, s, s', t, f, q, h => by
    obtain ⟨rfl, rfl⟩ : s = s' ∧ t = ⟨doneF f, cE, q, BF⟩ := by simpa [segGoT] using h
    rfl
  | n + 1, s, s', t, f, q, h => by
    unfold segGoT at h
    unfold segRunT
    cases he : endAt 1 t with
    | some f => rw [he] at h; cases h
    | none =>
      rw [he] at h
      cases hk : stepOk m0 ann t with
      | false => rw [hk] at h; cases h
      | true =>
        rw [hk] at h
        cases hs : stepT (denote treeTable) pE w s t with
        | none => rw [hs] at h; cases h
        | some p => obtain ⟨s₂, t₂⟩ := p; rw [hs] at h; exact segRunT_of_go h
noncomputable def st13T : List Expr := match stAt 13 with | .Assign t _ _ => t | _ => []
noncomputable def st13P : Pos := match stAt 13 with | .Assign _ _ p => p | _ => default
theorem st13_eq : grp 13 14 = [.Assign st13T (.Dict b3Keys b3Vals b3Pos) st13P] := by kernel_rfl!
theorem swaps_eq (w : World) (b : Bool) (os : OsState) (K : Bool → Sem Fin) (H gd lv) : segGoT treeTable pE (wf w b) m0 ann 1 0 (SE (wf w b) os) ⟨(swapsWithSole st13T (.Dict b3Keys b3Vals b3Pos) st13P.line envT).wrap K H gd lv, cE, st13P, BF⟩ = some (SE (wf w b) os, ⟨K false, cE, st13P, BF⟩) := by
  kernel_rfl!
theorem suf_eq (w : World) (b : Bool) (os : OsState) : Rn (wf w b) 7 (do assignStores envT (.ref 90) (← swappedStores st13T (.Dict b3Keys b3Vals b3Pos) envT) ((assignEach st13T envT).map (·.2))) (SM (wf w b) os) b3Pos .next (SF (wf w b) os) posF := by
  intro K H gd lv
  rw [te_go, te_tab]
  kernel_rfl!
theorem exec_eq13 : exec (.Assign st13T (.Dict b3Keys b3Vals b3Pos) st13P) envT = (standAt st13P >>= fun _ => swapsWithSole st13T (.Dict b3Keys b3Vals b3Pos) st13P.line envT >>= fun c => if c = true then
      (evalThenUse (.Dict b3Keys b3Vals b3Pos) envT (fun v => assignAll v ((assignEach st13T envT).map (·.2))) >>= fun _ => Pure.pure Flow.next)
    else (eval (.Dict b3Keys b3Vals b3Pos) envT >>= fun v => (do assignStores envT v (← swappedStores st13T (.Dict b3Keys b3Vals b3Pos) envT) ((assignEach st13T envT).map (·.2))))) := by kernel_rfl!
theorem eval_eq13 : eval (.Dict b3Keys b3Vals b3Pos) envT = (standAt b3Pos >>= fun _ => dictDisplay ((evalEachOpt b3Keys envT).zip ((evalEach b3Vals envT).map fun v => do let x ← v; standAt b3Pos; Pure.pure x))) := by kernel_rfl!
theorem exec_F (w : World) (b : Bool) (os : OsState) : Rn (wf w b) 12524 (exec (.Assign st13T (.Dict b3Keys b3Vals b3Pos) st13P) envT) (SE (wf w b) os) posE .next (SF (wf w b) os) posF := by
  rw [exec_eq13]
  have h3 := disp_all w b os
  rw [← items_eq] at h3
  have h2 : Rn (wf w b) (1 + (223 + (330 * 37 + ((1 + 13 * 4) + (5 + 6 * 4))))) (eval (.Dict b3Keys b3Vals b3Pos) envT) (SE (wf w b) os) st13P (.ref 90) (SM (wf w b) os) b3Pos := by
    rw [eval_eq13]
    exact Rn.bind (Rn.standAt _) h3
  have h4 := Rn.bind h2 (f := fun v => (do assignStores envT v (← swappedStores st13T (.Dict b3Keys b3Vals b3Pos) envT) ((assignEach st13T envT).map (·.2)))) (suf_eq w b os)
  have h5 : Rn (wf w b) 0 (swapsWithSole st13T (.Dict b3Keys b3Vals b3Pos) st13P.line envT) (SE (wf w b) os) st13P false (SE (wf w b) os) st13P := swaps_eq w b os
  refine Rn.cast (n := 1 + (0 + (1 + (223 + (330 * 37 + ((1 + 13 * 4) + (5 + 6 * 4)))) + 7))) (Rn.bind (Rn.standAt _) (Rn.bind h5 ?_)) (by decide)
  rw [if_neg (by decide)]
  exact h4
theorem p_F' (w : World) (b : Bool) : (fun os => segRunT treeTable pE (wf w b) m0 ann 1 12525 (SE (wf w b) os) (piecesOf (grp 13 14) envT cE posE BF)) = fun os => some (Flow.next, SF (wf w b) os, cE, posF) := by
  funext os
  have E := exec_F w b os
  have E' : Rn (wf w b) 12524 (execs (grp 13 14) envT) (SE (wf w b) os) posE .next (SF (wf w b) os) posF := by
    rw [st13_eq]
    exact Rn.bind0 E rfl
  have := E' doneF deadEnd id id
  exact segRunT_of_go this
theorem p_pre (w : World) : (fun os => topGo treeTable pE w m0 ann 12 (S0 w os) (topStub pE)) = fun os => some (SA w os, (⟨denote treeTable cE, cE, posA, BF⟩ : Thread)) := by kernel_rfl!
theorem p_block (w : World) : (fun os => segRun treeTable pE w m0 ann 1 1 (SA w os) (blockOf bE envT cE posA BF)) = fun os => some (Flow.next, (SB w os).abs, cE, posB) := by kernel_rfl!
theorem p_C (w : World) : (fun os => segRunT treeTable pE w m0 ann 1 301 (SB w os) (piecesOf (grp 0 11) envT cE posB BF)) = fun os => some (Flow.next, SC w os, cE, posC) := by kernel_rfl!
theorem p_D0 (w : World) : (fun os => segRunT treeTable pE ((w.withFollow "set-order" false).withFollow "special-get-raises" false) m0 ann 1 999 (SC ((w.withFollow "set-order" false).withFollow "special-get-raises" false) os) (piecesOf (grp 11 12) envT cE posC BF)) = fun os => some (Flow.next, SD ((w.withFollow "set-order" false).withFollow "special-get-raises" false) os, cE, posD) := by
  rw [te_seg, te_tab]
  kernel_rfl!
theorem p_D1 (w : World) : (fun os => segRunT treeTable pE ((w.withFollow "set-order" false).withFollow "special-get-raises" true) m0 ann 1 999 (SC ((w.withFollow "set-order" false).withFollow "special-get-raises" true) os) (piecesOf (grp 11 12) envT cE posC BF)) = fun os => some (Flow.next, SD ((w.withFollow "set-order" false).withFollow "special-get-raises" true) os, cE, posD) := by
  rw [te_seg, te_tab]
  kernel_rfl!
theorem p_D2 (w : World) : (fun os => segRunT treeTable pE ((w.withFollow "set-order" true).withFollow "special-get-raises" false) m0 ann 1 999 (SC ((w.withFollow "set-order" true).withFollow "special-get-raises" false) os) (piecesOf (grp 11 12) envT cE posC BF)) = fun os => some (Flow.next, SD ((w.withFollow "set-order" true).withFollow "special-get-raises" false) os, cE, posD) := by
  rw [te_seg, te_tab]
  kernel_rfl!
theorem p_D3 (w : World) : (fun os => segRunT treeTable pE ((w.withFollow "set-order" true).withFollow "special-get-raises" true) m0 ann 1 999 (SC ((w.withFollow "set-order" true).withFollow "special-get-raises" true) os) (piecesOf (grp 11 12) envT cE posC BF)) = fun os => some (Flow.next, SD ((w.withFollow "set-order" true).withFollow "special-get-raises" true) os, cE, posD) := by
  rw [te_seg, te_tab]
  kernel_rfl!
theorem p_D (w : World) : (fun os => segRunT treeTable pE w m0 ann 1 999 (SC w os) (piecesOf (grp 11 12) envT cE posC BF)) = fun os => some (Flow.next, SD w os, cE, posD) :=
  byRow2 "special-get-raises" (P := fun w => (fun os => segRunT treeTable pE w m0 ann 1 999 (SC w os) (piecesOf (grp 11 12) envT cE posC BF)) = fun os => some (Flow.next, SD w os, cE, posD))
    (byRow2 "set-order" (P := fun w => (fun os => segRunT treeTable pE (w.withFollow "special-get-raises" false) m0 ann 1 999 (SC (w.withFollow "special-get-raises" false) os) (piecesOf (grp 11 12) envT cE posC BF)) = fun os => some (Flow.next, SD (w.withFollow "special-get-raises" false) os, cE, posD))  p_D0 p_D2)
    (byRow2 "set-order" (P := fun w => (fun os => segRunT treeTable pE (w.withFollow "special-get-raises" true) m0 ann 1 999 (SC (w.withFollow "special-get-raises" true) os) (piecesOf (grp 11 12) envT cE posC BF)) = fun os => some (Flow.next, SD (w.withFollow "special-get-raises" true) os, cE, posD))  p_D1 p_D3) w
theorem p_E (w : World) : (fun os => segRunT treeTable pE w m0 ann 1 30 (SD w os) (piecesOf (grp 12 13) envT cE posD BF)) = fun os => some (Flow.next, SE w os, cE, posE) := by kernel_rfl!
theorem p_F (w : World) : (fun os => segRunT treeTable pE w m0 ann 1 12525 (SE w os) (piecesOf (grp 13 14) envT cE posE BF)) = fun os => some (Flow.next, SF w os, cE, posF) :=
  byRow2 "special-get-raises" (P := fun w => (fun os => segRunT treeTable pE w m0 ann 1 12525 (SE w os) (piecesOf (grp 13 14) envT cE posE BF)) = fun os => some (Flow.next, SF w os, cE, posF)) (fun w => p_F' w false) (fun w => p_F' w true) w
theorem p_G (w : World) : (fun os => segRunT treeTable pE w m0 ann 1 283 (SF w os) (piecesOf (grp 14 24) envT cE posF BF)) = fun os => some (Flow.next, SG w os, cE, posG) := by kernel_rfl!
theorem p_fin (w : World) : (fun os => topRun treeTable pE w m0 ann 2 (SG w os).abs ⟨doneF .next, cE, posG, BF⟩) = fun os => some (SH w os).abs := by kernel_rfl!
theorem split_bE : bE = grp 0 11 ++ (grp 11 12 ++ (grp 12 13 ++ (grp 13 14 ++ (grp 14 24 ++ [])))) := by kernel_rfl!
theorem chain (w : World) (os : OsState) : topRun treeTable pE w m0 ann (12 + (1 + (301 + (999 + (30 + (12525 + (283 + 2))))))) (S0 w os) (topStub pE) = some (SH w os).abs := by
  refine go_top (congrFun (p_pre w) os) ?_
  refine piece_block (congrFun (p_block w) os) ?_
  show topRun _ _ _ _ _ _ _ (restOf bE envT cE posB BF) = _
  rw [split_bE]
  refine piece_app (segRun_of (congrFun (p_C w) os)) ?_
  refine piece_app (segRun_of (congrFun (p_D w) os)) ?_
  refine piece_app (segRun_of (congrFun (p_E w) os)) ?_
  refine piece_app (segRun_of (congrFun (p_F w) os)) ?_
  refine piece_app (segRun_of (congrFun (p_G w) os)) ?_
  exact piece_nil (congrFun (p_fin w) os)
noncomputable def HH (P : Params) : Heap := absHeap (treeH P) 188 {}
noncomputable def qV : Program := view pE [23]
noncomputable def looseN : List Str := (pE.boundNames.filter fun n => n != "law")
noncomputable def NN : Nat := 30000
theorem op (w : World) : (fencedOpening treeTable pE w NN).map (fun s => (s.heap, s.gens, s.drawn, s.toks)) = some (boot_heap w.params, Array.mk [], boot_drawn, boot_toks) :=
  boot_open (by kernel_rfl!) (by decide +kernel) (fun s => by kernel_rfl!) w
theorem size (w : World) : ((boot_heap w.params).isNs mainGlobals && (Array.mk [] : Array GenState).size == 0, (boot_heap w.params).objs.size, (boot_heap w.params).nsMap mainGlobals "__annotations__") = (true, m0, ann) := by kernel_rfl!
theorem looks (w : World) : (fun os => ((staticsOk (importedModules pE.main.body) (boot_heap w.params) (HH w.params) && namesBound pE (HH w.params) && gensDone ⟨HH w.params, #[], {}, 2384, os⟩ && laidKept (boot_heap w.params) (HH w.params)),
        openSeen qV looseN (importedModules pE.main.body) (fun _ => true) true ⟨HH w.params, #[], {}, 2384, os⟩, (fun s : Shared => s.heap) ⟨HH w.params, #[], {}, 2384, os⟩)) = fun _ => (true, openGood qV looseN, (fun w : World => HH w.params) w) := by kernel_rfl!
theorem left : LeftO pE qV looseN (fun _ => true) (fun s => s.heap) (fun w => HH w.params) NN true :=
  LeftO.of_pieces (H₁ := HH) (gs₁ := #[]) (d₁ := {}) (k₁ := 2384) (M := (12 + (1 + (301 + (999 + (30 + (12525 + (283 + 2)))))))) (fun w => op w) (fun w => size w) (fun w os => chain w os) (by decide +kernel) (fun w => looks w)
noncomputable abbrev KeepP (w : World) (h : Heap) : Prop := ∀ b o, (HH w.params).get? b = some o → h.get? b = some o
noncomputable def posAt (i : Nat) : Pos := match stAt i with | .FunctionDef _ _ _ _ _ _ _ _ _ p => p | _ => default
noncomputable def dLaw : DefRec := { name := "law", params := prmAt 23, body := bdyAt 23, scope := scpAt 23, pos := posAt 23 }
end
section
section
noncomputable abbrev tabA : Addr := 184
noncomputable abbrev codA : Addr := 186
noncomputable def HL (P : Params) : Heap := absHeap ((treeH P).set tabA fun o => { o with data := .freed }) 188 {}
theorem hl_eq (P : Params) : HL P = (HH P).hide tabA := absHeap_set (o := oG_184 P) (by kernel_rfl!)
theorem hl_of {P : Params} {b : Addr} {o : Obj} (e : (HL P).get? b = some o) : (HH P).get? b = some o ∧ b ≠ tabA := by
  rw [hl_eq] at e
  exact ⟨Heap.of_hide e, fun x => by rw [x, Heap.hide_self] at e; cases e⟩
noncomputable abbrev KeepR (w : World) (h : Heap) : Prop := ∀ b o, (HL w.params).get? b = some o → h.get? b = some o
theorem KeepP.r {w : World} {h : Heap} (k : KeepP w h) : KeepR w h := fun b o e => k b o (hl_of e).1
theorem KeepP.hide {w : World} {h : Heap} (k : KeepP w h) : KeepR w (h.hide tabA) := fun b o e => (Heap.hide_ne h (hl_of e).2).trans (k b o (hl_of e).1)
theorem KeepP.tab {w : World} {h : Heap} (k : KeepP w h) : h.get? tabA = some (tabObj #[]) := k _ _ (by kernel_rfl!)
theorem KeepP.at {w : World} {h : Heap} (k : KeepP w h) : h.TableAt codA tabA #[] := ⟨⟨oG_186 w.params, _, k _ _ (by kernel_rfl!), rfl, rfl, rfl⟩, k.tab⟩
theorem mem_1 {α : Type} {x a : α} {l : List α} : a ∈ x :: a :: l := .tail _ (.head _)
theorem mem_2 {α : Type} {x y a : α} {l : List α} : a ∈ x :: y :: a :: l := .tail _ (.tail _ (.head _))
theorem mem_3 {α : Type} {x y z a : α} {l : List α} : a ∈ x :: y :: z :: a :: l := .tail _ (.tail _ (.tail _ (.head _)))
theorem mem_s4 {α : Type} {x y z u a : α} {l : List α} (h : a ∈ l) : a ∈ x :: y :: z :: u :: l := .tail _ (.tail _ (.tail _ (.tail _ h)))
noncomputable abbrev Ext (h h' : Heap) : Prop := ∀ b o, h.get? b = some o → h'.get? b = some o
theorem Ext.refl (h : Heap) : Ext h h := fun _ _ e => e
theorem Ext.trans {a b c : Heap} (x : Ext a b) (y : Ext b c) : Ext a c := fun _ _ e => y _ _ (x _ _ e)
noncomputable abbrev Sh (c : Shared) (h : Heap) (tk : Nat) : Shared := { c with heap := h, toks := tk }
noncomputable abbrev MM (w : World) : Model := model pE w
inductive D where
  | none
  | bool (b : Bool)
  | int (i : Int)
  | str (s : Str)
  | bytes (b : Array UInt8)
  | tup (ds : List D)
mutual
inductive Rep (h : Heap) : Value → D → Prop
  | none : Rep h .none .none
  | bool (b : Bool) : Rep h (.bool b) (.bool b)
  | int (i : Int) (t : Tok) : Rep h (.int i t) (.int i)
  | str (s : Str) (t : Tok) : Rep h (.str s t) (.str s)
  | bytes (b : Array UInt8) (t : Tok) : Rep h (.bytes b t) (.bytes b)
  | tup {a : Addr} {vs : List Value} {ds : List D} : IsTup h a vs.toArray → Reps h vs ds → Rep h (.ref a) (.tup ds)
inductive Reps (h : Heap) : List Value → List D → Prop
  | nil : Reps h [] []
  | cons {v : Value} {d : D} {vs : List Value} {ds : List D} : Rep h v d → Reps h vs ds → Reps h (v :: vs) (d :: ds)
end
noncomputable abbrev Tups (h h' : Heap) : Prop := ∀ a items, IsTup h a items → IsTup h' a items
theorem Rep.mono {h h' : Heap} (k : Tups h h') {v : Value} {d : D} (x : Rep h v d) : Rep h' v d :=
  Rep.rec (motive_1 := fun v d _ => Rep h' v d) (motive_2 := fun vs ds _ => Reps h' vs ds) .none .bool .int .str .bytes (fun a _ b => .tup (k _ _ a) b) .nil (fun _ _ a b => .cons a b) x
theorem Ext.tups {h h' : Heap} (k : Ext h h') : Tups h h' := fun _ _ x => x.keeps k
noncomputable def keyB : List (Str × Value) → Bool
  | [] => true
  | p :: r => (r.all fun q => !(q.1 == p.1)) && keyB r
theorem keyB_nd {vs : List (Str × Value)} (h : keyB vs = true) : (vs.map (·.1)).Nodup := by
  induction vs with
  | nil => exact .nil
  | cons p r ih =>
    obtain ⟨h1, h2⟩ := Bool.and_eq_true_iff.mp h
    refine List.nodup_cons.mpr ⟨fun hm => ?_, ih h2⟩
    obtain ⟨q, hq, e⟩ := List.mem_map.mp hm
    have h3 := List.all_eq_true.mp h1 q hq
    rw [e, beq_self_eq_true] at h3
    exact Bool.noConfusion h3
inductive Sb (vs : List (Str × Value)) : List (Str × Value) → Prop
  | nil : Sb vs []
  | cons {p : Str × Value} {r : List (Str × Value)} : p ∈ vs → Sb vs r → Sb vs (p :: r)
theorem Sb.all {vs vs' : List (Str × Value)} (x : Sb vs vs') : ∀ p ∈ vs', p ∈ vs := by
  induction x with
  | nil => exact fun p hp => nomatch hp
  | cons h _ ih => exact fun p hp => (List.mem_cons.mp hp).elim (fun e => e ▸ h) (ih p)
structure St (w : World) (env : Env) (h₀ : Heap) (vs : List (Str × Value)) (ns : List (Addr × Obj)) (rs : List (Value × D)) (h : Heap) : Prop where
  kp : KeepR w h₀
  keep : Ext h₀ h
  fk : env.scope.kind = .function
  eg : env.globals = mainGlobals
  eb : env.builtins = builtinsNs
  loc : ∃ m, h.Ns env.locals m ∧ ∀ p ∈ vs, m p.1 = some p.2
  nd : (vs.map (·.1)).Nodup
  old : h₀.get? env.locals = none
  led : ∀ p ∈ ns, h.get? p.1 = some p.2 ∧ h₀.get? p.1 = none
  dis : (env.locals :: ns.map (·.1)).Nodup
  rep : ∀ r ∈ rs, Rep h r.1 r.2
section
variable {w : World} {env : Env} {h₀ h h' : Heap} {vs vs' : List (Str × Value)} {ns : List (Addr × Obj)} {rs : List (Value × D)} {A : Around} {E : Value → Shared → Prop} {c : Shared} {tk : Nat} {x : Str} {v : Value}
theorem St.kph (st : St w env h₀ vs ns rs h) : KeepR w h := fun b o e => st.keep b o (st.kp b o e)
theorem St.ext (st : St w env h₀ vs ns rs h) (k : Ext h h') : St w env h₀ vs ns rs h' :=
  ⟨st.kp, st.keep.trans k, st.fk, st.eg, st.eb, let ⟨m, a, b⟩ := st.loc; ⟨m, a.keeps k, b⟩, st.nd, st.old, fun p hp => ⟨k _ _ (st.led p hp).1, (st.led p hp).2⟩, st.dis, fun r hr => (st.rep r hr).mono k.tups⟩
theorem St.addRep {d : D} (st : St w env h₀ vs ns rs h) (r : Rep h v d) : St w env h₀ vs ns ((v, d) :: rs) h :=
  { st with rep := fun r' hr => by rcases List.mem_cons.mp hr with rfl | hr; exact r; exact st.rep r' hr }
theorem St.dropReps (st : St w env h₀ vs ns rs h) : St w env h₀ vs ns [] h := { st with rep := fun _ hr => (nomatch hr) }
theorem St.dropLed (st : St w env h₀ vs ns rs h) : St w env h₀ vs [] rs h := { st with led := fun _ hr => (nomatch hr), dis := by simp }
theorem St.alloc {o : Obj} (st : St w env h₀ vs ns rs h) (hf : o.isFreed = false) : St w env h₀ vs ((h.objs.size, o) :: ns) rs (h.push o) := by
  have k : Ext h (h.push o) := fun b o' e => Heap.get?_push_of_some o e
  obtain ⟨m, a, b⟩ := st.loc
  have lt : ∀ p ∈ ns, p.1 < h.objs.size := fun p hp => Heap.lt_size (st.led p hp).1
  refine { st.ext k with led := fun p hp => ?_, dis := ?_ }
  · rcases List.mem_cons.mp hp with rfl | hp
    · refine ⟨Heap.get?_push_size _ hf, ?_⟩
      cases e : h₀.get? h.objs.size with
      | none => rfl
      | some o' => exact absurd (Heap.lt_size (st.keep _ _ e)) (Nat.lt_irrefl _)
    · exact (st.ext k).led p hp
  · have d := List.nodup_cons.mp st.dis
    refine List.nodup_cons.mpr ⟨fun hm => ?_, List.nodup_cons.mpr ⟨fun hm => ?_, d.2⟩⟩
    · rcases List.mem_cons.mp hm with e | hm
      · exact absurd a.lt (by rw [e]; exact Nat.lt_irrefl _)
      · exact d.1 hm
    · obtain ⟨p, hp, e⟩ := List.mem_map.mp hm
      exact absurd (lt p hp) (by rw [e]; exact Nat.lt_irrefl _)
theorem tups_of {b : Addr} (hs : Heap.SameBut b h h') (hb : ∀ items, ¬ IsTup h b items) : Tups h h' := fun a items x => by
  by_cases e : a = b
  · exact absurd (e ▸ x) (hb items)
  · obtain ⟨o, ho, r⟩ := x
    exact ⟨o, (hs.2 a e).trans ho, r⟩
theorem ns_noTup {a : Addr} {m : Str → Option Value} (n : h.Ns a m) : ∀ items, ¬ IsTup h a items := fun items ⟨o, ho, _, k, hd⟩ => by
  obtain ⟨o', es, ep, ho', hd', _⟩ := n
  rw [ho] at ho'; cases ho'
  rw [hd] at hd'; cases hd'
inductive Put (x : Str) (v : Value) : List (Str × Value) → List (Str × Value) → Prop
  | here {u : Value} {r : List (Str × Value)} : Put x v ((x, u) :: r) ((x, v) :: r)
  | there {p : Str × Value} {r r' : List (Str × Value)} : Put x v r r' → Put x v (p :: r) (p :: r')
theorem Put.keys {x : Str} {v : Value} {r r' : List (Str × Value)} (y : Put x v r r') : r'.map (·.1) = r.map (·.1) := by
  induction y with
  | here => rfl
  | there _ ih => rw [List.map_cons, List.map_cons, ih]
theorem Put.here' {x : Str} {v : Value} {r r' : List (Str × Value)} (y : Put x v r r') : x ∈ r.map (·.1) := by
  induction y with
  | here => exact .head _
  | there _ ih => exact .tail _ ih
theorem Put.mem {x : Str} {v : Value} {r r' : List (Str × Value)} (y : Put x v r r') : (r.map (·.1)).Nodup → ∀ p ∈ r', p = (x, v) ∨ (p ∈ r ∧ p.1 ≠ x) := by
  induction y with
  | @here u r =>
    intro n p hp
    rcases List.mem_cons.mp hp with rfl | hp
    · exact .inl rfl
    · exact .inr ⟨.tail _ hp, fun e => (List.nodup_cons.mp n).1 (e ▸ List.mem_map_of_mem (f := (·.1)) hp)⟩
  | @there q r r' y ih =>
    intro n p hp
    have n' := List.nodup_cons.mp n
    rcases List.mem_cons.mp hp with rfl | hp
    · exact .inr ⟨.head _, fun e => n'.1 (show p.1 ∈ r.map (·.1) from e ▸ y.here')⟩
    · exact (ih n'.2 p hp).imp id fun e => ⟨.tail _ e.1, e.2⟩
noncomputable def PutN (x : Str) (v : Value) (vs vs' : List (Str × Value)) : Prop := Put x v vs vs' ∨ (vs' = (x, v) :: vs ∧ (vs.all fun p => !(p.1 == x)) = true)
theorem PutN.put (p : Put x v vs vs') : PutN x v vs vs' := .inl p
theorem PutN.new (e : (vs.all fun p => !(p.1 == x)) = true) : PutN x v vs ((x, v) :: vs) := .inr ⟨rfl, e⟩
theorem PutN.mem (p : PutN x v vs vs') (n : (vs.map (·.1)).Nodup) : (∀ p ∈ vs', p = (x, v) ∨ (p ∈ vs ∧ p.1 ≠ x)) ∧ (vs'.map (·.1)).Nodup := by
  rcases p with p | ⟨rfl, e⟩
  · exact ⟨p.mem n, by rw [p.keys]; exact n⟩
  · have e' : ∀ p ∈ vs, p.1 ≠ x := fun p hp => by
      have := List.all_eq_true.mp e p hp
      simpa using this
    refine ⟨fun p hp => ?_, ?_⟩
    · rcases List.mem_cons.mp hp with rfl | hp
      · exact .inl rfl
      · exact .inr ⟨hp, e' p hp⟩
    · rw [List.map_cons]
      refine List.nodup_cons.mpr ⟨fun hm => ?_, n⟩
      obtain ⟨p, hp, e2⟩ := List.mem_map.mp hm
      exact e' p hp e2
theorem St.setLocal (st : St w env h₀ vs ns rs h) (p : PutN x v vs vs') {m : Str → Option Value} (hm : h.Ns env.locals m) (hv : ∀ q ∈ vs, m q.1 = some q.2) (hn : h'.Ns env.locals (fun y => if y = x then some v else m y)) (hs : Heap.SameBut env.locals h h') : St w env h₀ vs' ns rs h' := by
  obtain ⟨k1, k2⟩ := p.mem st.nd
  refine ⟨st.kp, fun b o e => ?_, st.fk, st.eg, st.eb, ⟨_, hn, fun q hq => ?_⟩, k2, st.old, fun q hq => ⟨?_, (st.led q hq).2⟩, st.dis, fun r hr => (st.rep r hr).mono (tups_of hs (ns_noTup hm))⟩
  · have : b ≠ env.locals := fun e' => by rw [e', st.old] at e; cases e
    exact (hs.2 b this).trans (st.keep b o e)
  · rcases k1 q hq with rfl | ⟨e1, e2⟩
    · simp
    · simp only [e2, if_false]; exact hv q e1
  · have : q.1 ≠ env.locals := fun e => (List.nodup_cons.mp st.dis).1 (e ▸ List.mem_map_of_mem hq)
    exact (hs.2 _ this).trans (st.led q hq).1
theorem x_store {Q : Unit → Shared → Prop} (st : St w env h₀ vs ns rs h) (hl : env.kindOf x = some .local) (p : PutN x v vs vs')
    (hq : ∀ h', St w env h₀ vs' ns rs h' → Q () (Sh c h' (tk + 1))) : wpAny (MM w) A (storeName env x v) Q E (Sh c h tk) := by
  obtain ⟨m, hm, hv⟩ := st.loc
  refine wpAny_storeName_local hl hm (fun h' hn hs => hq h' (st.setLocal p hm hv hn hs)) ?_
  rw [st.fk]; rfl
theorem r_store {Q : Unit → Shared → Prop} (st : St w env h₀ vs ns rs h) (hl : env.kindOf x = some .local) (p : PutN x v vs vs')
    (hq : ∀ h' tk', St w env h₀ vs' ns rs h' → Q () (Sh c h' tk')) : wpAny (MM w) A (storeName env x v) Q E (Sh c h tk) := by
  obtain ⟨m, hm, hv⟩ := st.loc
  refine wpAny_storeName_local hl hm (fun h' hn hs => hq h' _ (st.setLocal p hm hv hn hs)) ?_
  rw [st.fk]; rfl
theorem r_local {Q : Value → Shared → Prop} {p : Pos} (st : St w env h₀ vs ns rs h) (hl : env.kindOf x = some .local) (hm : (x, v) ∈ vs) (hd : (x == ("__debug__" : Str)) = false) (hq : Q v (Sh c h tk)) :
    wpAny (MM w) A (eval (.Name x p) env) Q E (Sh c h tk) :=
  let ⟨_, a, b⟩ := st.loc
  wpAny_Name (wpAny_loadName_local st.fk hl a (b _ hm) hq) hd
theorem r_loadLocal {Q : Value → Shared → Prop} (st : St w env h₀ vs ns rs h) (hl : env.kindOf x = some .local) (hm : (x, v) ∈ vs) (hq : Q v (Sh c h tk)) :
    wpAny (MM w) A (loadName env x) Q E (Sh c h tk) :=
  let ⟨_, a, b⟩ := st.loc
  wpAny_loadName_local st.fk hl a (b _ hm) hq
end
noncomputable def dictEs (o : Obj) : Array DictEntry := match o.data with | .dict es _ => es | _ => #[]
noncomputable def keysStr (es : Array DictEntry) : Bool := es.all fun e => match e.key with | .str .. => true | _ => false
theorem keysStr_ok {es : Array DictEntry} (h : keysStr es = true) : StrKeys es := fun e he => by
  have := Array.all_eq_true_iff_forall_mem.mp h e he
  cases hk : e.key with
  | str n t => exact ⟨n, t, rfl⟩
  | _ => rw [hk] at this; cases this
theorem ns_of {h : Heap} {a : Addr} {o : Obj} {es : Array DictEntry} {ep : Nat} (ho : h.get? a = some o) (hd : o.data = .dict es ep) (hk : keysStr es = true) : h.Ns a (fun x => nsFind es x) :=
  ⟨o, es, ep, ho, hd, keysStr_ok hk, fun _ => rfl⟩
end
section
noncomputable def retV (f : Flow) : Value := match f with | .ret v => v | _ => .none
structure FnOk (a : Addr) (fd : FuncData) : Prop where
  get : ∀ P, ∃ o, (HL P).get? a = some o ∧ o.data = .func fd
  code : ∀ P, (HL P).CodeRec fd.code fd.qualname
  co : fd.scope.isCoroutine = false
  gen : fd.scope.isGenerator = false
  kind : fd.scope.kind = .function
  glob : fd.globals = mainGlobals
  clos : fd.closure = []
  blt : fd.builtins = builtinsNs
theorem lookup_of_mem {x : Str} {v : Value} : ∀ {l : List (Str × Value)}, (x, v) ∈ l → (l.map (·.1)).Nodup → l.lookup x = some v
  | (y, u) :: l, hm, hn => by
    have n := List.nodup_cons.mp hn
    rcases List.mem_cons.mp hm with e | hm
    · cases e; simp [List.lookup]
    · have : x ≠ y := fun e => n.1 (by rw [← e]; exact List.mem_map_of_mem (f := (·.1)) hm)
      rw [List.lookup_cons, beq_eq_false_iff_ne.mpr this]
      exact lookup_of_mem hm n.2
theorem hh_nolimit (P : Params) : (HL P).NoLimit := ⟨_, ns_of (o := boot_o_2 P) (es := dictEs (boot_o_2 P)) (ep := match (boot_o_2 P).data with | .dict _ n => n | _ => 0) (by kernel_rfl!) (by kernel_rfl!) (by kernel_rfl!), by kernel_rfl!⟩
section
variable {w : World} {env : Env} {h₀ h h' : Heap} {vs vs' : List (Str × Value)} {ns : List (Addr × Obj)} {rs : List (Value × D)} {A : Around} {E : Value → Shared → Prop} {c : Shared} {tk : Nat} {x : Str} {v : Value}
theorem enter {fd : FuncData} {a : Addr} {body : List Stmt} {pos : List Value} {kw : List (Str × Value)} {binds : List (Str × Value)} {Q : Value → Shared → Prop} (ok : FnOk a fd) (hb : fd.body = .stmts body) (kp : KeepR w h) (hbind : BindsTo (Sh c h tk) fd ⟨pos, kw⟩ binds)
    (hcell : (fd.scope.names.all fun x => x.2 != .cell) = true) (hloc : (binds.all fun x => fd.scope.names.lookup x.1 == some .local) = true) (hnd : keyB binds = true) (hd : A.depth < 900)
    (k : ∀ L h₁ tk₁, St w (callEnv fd L a) h binds [] [] h₁ → wpAny (MM w) (A.deeper (callEnv fd L a)) (execs body (callEnv fd L a)) (fun f s' => Q (retV f) s')
        (fun e s' => wpAny (MM w) (A.deeper (callEnv fd L a)) (leaving (callEnv fd L a) e) (fun _ s'' => E e s'') (fun e' s'' => E e' s'') s') (Sh c h₁ tk₁)) :
    wpAny (MM w) A (call (.ref a) pos kw) Q E (Sh c h tk) := by
  obtain ⟨o, ho, hdat⟩ := ok.get w.params
  refine wpAny_call (codeAny_call_def (fd := fd) (body := body) (binds := binds) (by have : recursionLimit = 1000 := rfl; (first | lia | omega)) (kp _ _ ho) hdat ((hh_nolimit w.params).keeps kp) ((ok.code w.params).keeps kp) hb hbind ?_ ?_ (fun h₁ hns hk => ?_) ok.co ok.gen ok.kind)
  · intro x hx
    have := List.all_eq_true.mp hcell x hx
    simpa using this
  · intro x hx
    have := List.all_eq_true.mp hloc x hx
    simpa using this
  · refine k _ h₁ _ ⟨kp, hk, ok.kind, ok.glob, ok.blt, ⟨_, hns, fun p hp => ?_⟩, keyB_nd hnd, ?_, fun _ hp => (nomatch hp), by simp, fun _ hr => (nomatch hr)⟩
    · refine lookup_of_mem (by simpa using hp) ?_
      rw [List.map_reverse]
      exact List.pairwise_reverse.mpr (List.Pairwise.imp (fun h e => h e.symm) (keyB_nd hnd))
    · cases e : h.get? (callEnv fd (Sh c h tk).heap.objs.size a).locals with
      | none => rfl
      | some o' => exact absurd (Heap.lt_size e) (Nat.lt_irrefl _)
noncomputable def NoE : Value → Shared → Prop := fun _ _ => False
theorem enterN {fd : FuncData} {a : Addr} {body : List Stmt} {pos : List Value} {kw : List (Str × Value)} {binds : List (Str × Value)} {Q : Value → Shared → Prop} (ok : FnOk a fd) (hb : fd.body = .stmts body) (kp : KeepR w h) (hbind : BindsTo (Sh c h tk) fd ⟨pos, kw⟩ binds)
    (hcell : (fd.scope.names.all fun x => x.2 != .cell) = true) (hloc : (binds.all fun x => fd.scope.names.lookup x.1 == some .local) = true) (hnd : keyB binds = true) (hd : A.depth < 900)
    (k : ∀ L h₁ tk₁, St w (callEnv fd L a) h binds [] [] h₁ → wpAny (MM w) (A.deeper (callEnv fd L a)) (execs body (callEnv fd L a)) (fun f s' => Q (retV f) s') NoE (Sh c h₁ tk₁)) :
    wpAny (MM w) A (call (.ref a) pos kw) Q E (Sh c h tk) :=
  enter ok hb kp hbind hcell hloc hnd hd fun L h₁ tk₁ st => wpAny_mono (k L h₁ tk₁ st) (fun _ _ x => x) fun _ _ x => x.elim
theorem r_glob {Q : Value → Shared → Prop} {p : Pos} {es : Params → Array DictEntry} (st : St w env h₀ vs ns rs h) (hl : env.kindOf x = some .globalImplicit) (hg : ∀ P, (HL P).Ns mainGlobals (fun x => nsFind (es P) x)) (hv : nsFind (es w.params) x = some v) (hd : (x == ("__debug__" : Str)) = false) (hq : Q v (Sh c h tk)) :
    wpAny (MM w) A (eval (.Name x p) env) Q E (Sh c h tk) := by
  refine Calls.Name_function_global st.fk hl (Calls.loadGlobal_global (mg := fun x => nsFind (es w.params) x) ?_ hv hq) hd
  rw [st.eg]
  exact (hg w.params).keeps st.kph
theorem r_builtin {Q : Value → Shared → Prop} {p : Pos} {es eb : Params → Array DictEntry} (st : St w env h₀ vs ns rs h) (hl : env.kindOf x = some .globalImplicit) (hg : ∀ P, (HL P).Ns mainGlobals (fun x => nsFind (es P) x)) (hb : ∀ P, (HL P).Ns builtinsNs (fun x => nsFind (eb P) x)) (hm : nsFind (es w.params) x = none) (hv : nsFind (eb w.params) x = some v) (hd : (x == ("__debug__" : Str)) = false) (hq : Q v (Sh c h tk)) :
    wpAny (MM w) A (eval (.Name x p) env) Q E (Sh c h tk) := by
  refine Calls.Name_function_global st.fk hl (Calls.loadGlobal_builtin (mg := fun x => nsFind (es w.params) x) (mb := fun x => nsFind (eb w.params) x) ?_ hm ?_ hv hq) hd
  · rw [st.eg]; exact (hg w.params).keeps st.kph
  · rw [st.eb]; exact (hb w.params).keeps st.kph
end
noncomputable def globE (P : Params) : Array DictEntry := dictEs (oG_3 P)
noncomputable def bltE (P : Params) : Array DictEntry := dictEs (boot_o_0 P)
theorem hh_glob (P : Params) : (HL P).Ns mainGlobals (fun x => nsFind (globE P) x) := ns_of (o := oG_3 P) (ep := match (oG_3 P).data with | .dict _ n => n | _ => 0) (by kernel_rfl!) (by kernel_rfl!) (by kernel_rfl!)
theorem hh_blt (P : Params) : (HL P).Ns builtinsNs (fun x => nsFind (bltE P) x) := ns_of (o := boot_o_0 P) (ep := match (boot_o_0 P).data with | .dict _ n => n | _ => 0) (by kernel_rfl!) (by kernel_rfl!) (by kernel_rfl!)
end
section
section
noncomputable abbrev Flo (P : Shared → Prop) (Q : Flow → Shared → Prop) (f : Flow) (s : Shared) : Prop := match f with | .next => P s | f => Q f s
noncomputable abbrev XK {β : Type} (P : Shared → Prop) (_ : β) : Shared → Prop := P
noncomputable abbrev XRet (Q : Flow → Shared → Prop) (v : Value) : Shared → Prop := Q (.ret v)
noncomputable abbrev XNot (Q : Bool → Shared → Prop) (b : Bool) : Shared → Prop := Q (!b)
noncomputable abbrev XTh (w : World) (A : Around) (E : Value → Shared → Prop) {α β : Type} (t : α → Sem β) (Q : β → Shared → Prop) (a : α) (s : Shared) : Prop := wpAny (MM w) A (t a) Q E s
noncomputable abbrev XB2 (w : World) (A : Around) (E : Value → Shared → Prop) (op : Operator) (Q : Value → Shared → Prop) (a b : Value) (s : Shared) : Prop := wpAny (MM w) A (binaryOp op a b) Q E s
noncomputable abbrev XB1 (w : World) (A : Around) (E : Value → Shared → Prop) (env : Env) (r : Expr) (op : Operator) (Q : Value → Shared → Prop) (a : Value) (s : Shared) : Prop := wpAny (MM w) A (eval r env) (XB2 w A E op Q a) E s
noncomputable abbrev XC2 (w : World) (A : Around) (E : Value → Shared → Prop) (op : CmpOp) (Q : Value → Shared → Prop) (a b : Value) (s : Shared) : Prop := wpAny (MM w) A (compareOp op a b) Q E s
noncomputable abbrev XC1 (w : World) (A : Around) (E : Value → Shared → Prop) (env : Env) (r : Expr) (op : CmpOp) (Q : Value → Shared → Prop) (a : Value) (s : Shared) : Prop := wpAny (MM w) A (eval r env) (XC2 w A E op Q a) E s
noncomputable abbrev XS2 (w : World) (A : Around) (E : Value → Shared → Prop) (value slice : Expr) (Q : Value → Shared → Prop) (o i : Value) (s : Shared) : Prop := wpAny (MM w) A (subscriptTail value slice o i) Q E s
noncomputable abbrev XS1 (w : World) (A : Around) (E : Value → Shared → Prop) (env : Env) (value slice : Expr) (Q : Value → Shared → Prop) (o : Value) (s : Shared) : Prop := wpAny (MM w) A (eval slice env) (XS2 w A E value slice Q o) E s
noncomputable abbrev XA2 (w : World) (A : Around) (E : Value → Shared → Prop) (op : Operator) (Q : Value → Shared → Prop) (a b : Value) (s : Shared) : Prop := wpAny (MM w) A (inplaceOp op a b) Q E s
noncomputable abbrev XA1 (w : World) (A : Around) (E : Value → Shared → Prop) (env : Env) (r : Expr) (op : Operator) (Q : Value → Shared → Prop) (a : Value) (s : Shared) : Prop := wpAny (MM w) A (eval r env) (XA2 w A E op Q a) E s
end
section
variable {w : World} {env : Env} {A : Around} {E : Value → Shared → Prop} {c : Shared} {h : Heap} {tk : Nat} {a b : Int} {t u : Tok}
noncomputable abbrev TkV (c : Shared) (h : Heap) (Q : Value → Shared → Prop) (i : Int) : Prop := ∀ t tk', Q (.int i t) (Sh c h tk')
theorem r_cint {i : Int} {k : Nat} {p : Pos} {Q : Value → Shared → Prop} (q : TkV c h Q i) : wpAny (MM w) A (eval (.Constant (.int i) k p) env) Q E (Sh c h tk) := wpAny_Constant_int (q _ _)
theorem r_cstr {i : Str} {k : Nat} {p : Pos} {Q : Value → Shared → Prop} (q : ∀ t tk', Q (.str i t) (Sh c h tk')) : wpAny (MM w) A (eval (.Constant (.str i) k p) env) Q E (Sh c h tk) := Calls.Constant_str (q _ _)
theorem r_cnone {k : Nat} {p : Pos} {Q : Value → Shared → Prop} (q : Q .none (Sh c h tk)) : wpAny (MM w) A (eval (.Constant .none k p) env) Q E (Sh c h tk) := wpAny_pure q
theorem r_cbool {b : Bool} {k : Nat} {p : Pos} {Q : Value → Shared → Prop} (q : Q (.bool b) (Sh c h tk)) : wpAny (MM w) A (eval (.Constant (.bool b) k p) env) Q E (Sh c h tk) := wpAny_pure q
theorem x_cint {i : Int} {k : Nat} {p : Pos} {Q : Value → Shared → Prop} (q : Q (.int i tk) (Sh c h (tk + 1))) : wpAny (MM w) A (eval (.Constant (.int i) k p) env) Q E (Sh c h tk) := wpAny_Constant_int q
theorem x_cstr {i : Str} {k : Nat} {p : Pos} {Q : Value → Shared → Prop} (q : Q (.str i tk) (Sh c h (tk + 1))) : wpAny (MM w) A (eval (.Constant (.str i) k p) env) Q E (Sh c h tk) := Calls.Constant_str q
theorem x_add {Q : Value → Shared → Prop} (q : Q (.int (a + b) tk) (Sh c h (tk + 1))) : wpAny (MM w) A (binaryOp .Add (.int a t) (.int b u)) Q E (Sh c h tk) := add_int q
theorem x_sub {Q : Value → Shared → Prop} (q : Q (.int (a - b) tk) (Sh c h (tk + 1))) : wpAny (MM w) A (binaryOp .Sub (.int a t) (.int b u)) Q E (Sh c h tk) := sub_int q
theorem x_mul {Q : Value → Shared → Prop} (ok : IntMulOk a b) (q : Q (.int (a * b) tk) (Sh c h (tk + 1))) : wpAny (MM w) A (binaryOp .Mult (.int a t) (.int b u)) Q E (Sh c h tk) := mul_int q ok
theorem r_isTrue1 {l r : Expr} {op : CmpOp} {p : Pos} {whole : Sem Value} {Q : Bool → Shared → Prop} (hm : behindInMarks op r = false)
    (q : wpAny (MM w) A (eval l env) (XC1 w A E env r op (XTh w A E truthy Q)) E (Sh c h tk)) :
    wpAny (MM w) A (PySem.isTrue (.Compare l [op] [r] p) env whole) Q E (Sh c h tk) := wpAny_isTrue_Compare1 q hm
theorem r_lt {Q : Value → Shared → Prop} (q : Q (.bool (decide (a < b))) (Sh c h tk)) : wpAny (MM w) A (compareOp .Lt (.int a t) (.int b u)) Q E (Sh c h tk) := PySem.P.lt_int q
theorem r_le {Q : Value → Shared → Prop} (q : Q (.bool (decide (a ≤ b))) (Sh c h tk)) : wpAny (MM w) A (compareOp .LtE (.int a t) (.int b u)) Q E (Sh c h tk) := PySem.P.le_int q
theorem r_gt {Q : Value → Shared → Prop} (q : Q (.bool (decide (a > b))) (Sh c h tk)) : wpAny (MM w) A (compareOp .Gt (.int a t) (.int b u)) Q E (Sh c h tk) := PySem.P.gt_int q
theorem r_ge {Q : Value → Shared → Prop} (q : Q (.bool (decide (a ≥ b))) (Sh c h tk)) : wpAny (MM w) A (compareOp .GtE (.int a t) (.int b u)) Q E (Sh c h tk) := PySem.P.ge_int q
theorem r_tbool {b : Bool} {Q : Bool → Shared → Prop} (q : Q b (Sh c h tk)) : wpAny (MM w) A (truthy (.bool b)) Q E (Sh c h tk) := wpAny_truthy_bool q
structure IfQ (w : World) (A : Around) (env : Env) (body orelse : List Stmt) (Q : Flow → Shared → Prop) (E : Value → Shared → Prop) (b : Bool) (s : Shared) : Prop where
  yes : b = true → wpAny (MM w) A (execs body env) Q E s
  no : b = false → wpAny (MM w) A (execs orelse env) Q E s
theorem r_if {test : Expr} {body orelse : List Stmt} {p : Pos} {Q : Flow → Shared → Prop}
    (q : wpAny (MM w) A (PySem.isTrue test env (eval test env)) (IfQ w A env body orelse Q E) E (Sh c h tk)) :
    wpAny (MM w) A (exec (.If test body orelse p) env) Q E (Sh c h tk) :=
  wpAny_If (wpAny_mono q (fun b s x => by cases b; simpa using x.no rfl; simpa using x.yes rfl) fun _ _ x => x)
theorem r_cons {st : Stmt} {rest : List Stmt} {Q : Flow → Shared → Prop} (q : wpAny (MM w) A (exec st env) (Flo (wpAny (MM w) A (execs rest env) Q E) Q) E (Sh c h tk)) :
    wpAny (MM w) A (execs (st :: rest) env) Q E (Sh c h tk) := wpAny_execs_cons q
theorem r_nil {Q : Flow → Shared → Prop} (q : Q .next (Sh c h tk)) : wpAny (MM w) A (execs [] env) Q E (Sh c h tk) := wpAny_execs_nil q
theorem r_assign {x : Str} {p' p : Pos} {value : Expr} {Q : Flow → Shared → Prop} (hs : swapsWith value (some (.Name x p')) p.line env = Pure.pure false)
    (q : wpAny (MM w) A (eval value env) (XTh w A E (storeName env x) (XK (Q .next))) E (Sh c h tk)) : wpAny (MM w) A (exec (.Assign [.Name x p'] value p) env) Q E (Sh c h tk) := wpAny_Assign_Name q hs
theorem r_ret {e : Expr} {p : Pos} {Q : Flow → Shared → Prop} (q : wpAny (MM w) A (eval e env) (XRet Q) E (Sh c h tk)) : wpAny (MM w) A (exec (.Return (some e) p) env) Q E (Sh c h tk) := wpAny_Return_some q
theorem r_binop {l r : Expr} {op : Operator} {p : Pos} {Q : Value → Shared → Prop} (q : wpAny (MM w) A (eval l env) (XB1 w A E env r op Q) E (Sh c h tk)) :
    wpAny (MM w) A (eval (.BinOp l op r p) env) Q E (Sh c h tk) := wpAny_BinOp q
theorem mulOk_left {a b : Int} (h : a.natAbs < 2 ^ 64) : IntMulOk a b := by
  refine IntMulOk.of_left ?_
  unfold Builtin.Int.intBits
  split
  · exact Nat.zero_le _
  · rename_i h0
    have h1 : a.natAbs ≠ 0 := by simpa using h0
    have := (Nat.log2_lt h1).mpr h
    (first | lia | omega)
end
noncomputable def notStar (e : Expr) : Bool := match e with | .Starred .. => false | _ => true
noncomputable def wArgs (w : World) (A : Around) (env : Env) (E : Value → Shared → Prop) : List Expr → (List Value → Shared → Prop) → Shared → Prop
  | [], Q, s => Q [] s
  | e :: r, Q, s => wpAny (MM w) A (eval e env) (fun v s₁ => wArgs w A env E r (fun vs => Q (v :: vs)) s₁) E s
noncomputable def wKws (w : World) (A : Around) (env : Env) (E : Value → Shared → Prop) : List Keyword → (List (Str × Value) → Shared → Prop) → Shared → Prop
  | [], Q, s => Q [] s
  | ⟨some n, e, _⟩ :: r, Q, s => wpAny (MM w) A (eval e env) (fun v s₁ => wKws w A env E r (fun vs => Q ((n, v) :: vs)) s₁) E s
  | ⟨none, _, _⟩ :: _, _, _ => False
noncomputable def CanCall (f : Value) (s : Shared) : Prop := match f with
  | .builtin _ | .type _ => True
  | .ref a => ∃ o fd, s.heap.get? a = some o ∧ o.data = .func fd
  | _ => False
noncomputable abbrev XV (Q : List Value → Shared → Prop) (v : Value) (vs : List Value) : Shared → Prop := Q (v :: vs)
noncomputable abbrev XN (n : Str) (Q : List (Str × Value) → Shared → Prop) (v : Value) (vs : List (Str × Value)) : Shared → Prop := Q ((n, v) :: vs)
noncomputable abbrev XG (w : World) (A : Around) (E : Value → Shared → Prop) (env : Env) (r : List Expr) (Q : List Value → Shared → Prop) (v : Value) (s : Shared) : Prop := wArgs w A env E r (XV Q v) s
noncomputable abbrev XW (w : World) (A : Around) (E : Value → Shared → Prop) (env : Env) (n : Str) (r : List Keyword) (Q : List (Str × Value) → Shared → Prop) (v : Value) (s : Shared) : Prop := wKws w A env E r (XN n Q v) s
noncomputable abbrev XF3 (w : World) (A : Around) (E : Value → Shared → Prop) (Q : Value → Shared → Prop) (f : Value) (vs : List Value) (ks : List (Str × Value)) (s : Shared) : Prop := CanCall f s ∧ wpAny (MM w) A (call f vs ks) Q E s
noncomputable abbrev XF2 (w : World) (A : Around) (E : Value → Shared → Prop) (env : Env) (kws : List Keyword) (Q : Value → Shared → Prop) (f : Value) (vs : List Value) (s : Shared) : Prop := wKws w A env E kws (XF3 w A E Q f vs) s
noncomputable abbrev XF1 (w : World) (A : Around) (E : Value → Shared → Prop) (env : Env) (args : List Expr) (kws : List Keyword) (Q : Value → Shared → Prop) (f : Value) (s : Shared) : Prop := wArgs w A env E args (XF2 w A E env kws Q f) s
section
variable {w : World} {env : Env} {A : Around} {E : Value → Shared → Prop} {c : Shared} {h : Heap} {tk : Nat}
theorem star1 {e : Expr} {r : List Expr} (h : notStar e = true) : starEach (e :: r) env = (false, eval e env) :: starEach r env := by
  cases e <;> first | rfl | cases h
theorem starEach_eq {args : List Expr} (hp : args.all notStar = true) : starEach args env = args.map fun e => (false, eval e env) := by
  induction args with
  | nil => rfl
  | cons e r ih =>
    rw [List.all_cons] at hp
    have hp := Bool.and_eq_true_iff.mp hp
    rw [star1 hp.1, ih hp.2]; rfl
theorem spliced_of : ∀ {args : List Expr} {Q : List Value → Shared → Prop} {s : Shared} {pos : Pos}, wArgs w A env E args Q s → wpAny (MM w) A (spliced (backTo pos (args.map fun e => (false, eval e env)))) Q E s
  | [], Q, s, pos, q => wpAny_pure q
  | e :: r, Q, s, pos, q => Calls.spliced_cons (wpAny_mono q (fun v s₁ q' => spliced_of q') fun _ _ x => x)
noncomputable def kwNamed : List Keyword → Bool
  | [] => true
  | ⟨some _, _, _⟩ :: r => kwNamed r
  | ⟨none, _, _⟩ :: _ => false
theorem kw_named {pos : Pos} : ∀ {kws : List Keyword}, kwNamed kws = true → (backToKw pos (keywordEach kws env)).all (·.1.isSome) = true ∧ (backToKw pos (keywordEach kws env)).any (·.1.isNone) = false
  | [], _ => ⟨rfl, rfl⟩
  | ⟨some n, e, p⟩ :: r, h => by
    obtain ⟨a, b⟩ := kw_named (pos := pos) (kws := r) h
    exact ⟨a, b⟩
theorem kws_of {kws : List Keyword} {Q : List (Str × Value) → Shared → Prop} {s : Shared} {pos : Pos} (q : wKws w A env E kws Q s) :
    wpAny (MM w) A (evalAll ((backToKw pos (keywordEach kws env)).map (·.2))) (fun ks s' => Q (((backToKw pos (keywordEach kws env)).filterMap (·.1)).zip ks) s') E s := by
  induction kws generalizing Q s with
  | nil => exact wpAny_pure q
  | cons k r ih =>
    obtain ⟨n, e, p⟩ := k
    cases n with
    | none => exact q.elim
    | some n =>
      refine wpAny_evalAll_cons ?_
      refine wpAny_bind (wpAny_mono q (fun v s₁ q' => wpAny_bind (wpAny_standAt (wpAny_pure ?_))) fun _ _ x => x)
      exact wpAny_mono (ih q') (fun ks s' x => x) fun _ _ x => x
theorem evalArgs_of {f : Value} {args : List Expr} {kws : List Keyword} {pos : Pos} {Q : Args → Shared → Prop} {s : Shared} (hp : args.all notStar = true) (hk : kwNamed kws = true)
    (q : wArgs w A env E args (fun vs s₁ => wKws w A env E kws (fun ks s₂ => Q ⟨vs, ks⟩ s₂) s₁) s) :
    wpAny (MM w) A (evalArgs f true (backTo pos (starEach args env)) (backToKw pos (keywordEach kws env))) Q E s := by
  unfold evalArgs
  have q' := spliced_of (pos := pos) q
  rw [starEach_eq hp]
  have fin : ∀ (l : List (Bool × Sem Value)) (vs : List Value) (s₁ : Shared), wKws w A env E kws (fun ks s₂ => Q ⟨vs, ks⟩ s₂) s₁ → wpAny (MM w) A (do
      if ((backToKw pos (keywordEach kws env)).all fun x => x.fst.isSome) = true then do
            let __do_lift ← evalAll (List.map (fun x => x.snd) (backToKw pos (keywordEach kws env)))
            have kw : List (Str × Value) :=
              (List.filterMap (fun x => x.fst) (backToKw pos (keywordEach kws env))).zip __do_lift
            let __do_lift ← (Pure.pure vs : Sem (List Value))
            Pure.pure ({ pos := __do_lift, kw := kw } : Args)
          else do
            let d ← mergedKeywords f (backToKw pos (keywordEach kws env))
            let pos ← (Pure.pure vs : Sem (List Value))
            let __do_lift ← holding (Value.ref d :: pos) (keywordsIn f d)
            Pure.pure ({ pos := pos, kw := __do_lift } : Args)) Q E s₁ := fun l vs s₁ q₁ => by
    rw [if_pos (kw_named hk).1]
    refine wpAny_bind (wpAny_mono (kws_of (pos := pos) q₁) (fun ks s₂ q₂ => ?_) fun _ _ x => x)
    exact wpAny_bind (wpAny_pure (wpAny_pure q₂))
  cases args with
  | nil =>
    show wpAny (MM w) A (spliced [] >>= _) Q E s
    refine wpAny_bind (wpAny_mono q' (fun vs s₁ q₁ => ?_) fun _ _ x => x)
    exact wpAny_holding (fin [] vs s₁ q₁)
  | cons e r =>
    show wpAny (MM w) A (spliced (backTo pos ((false, eval e env) :: r.map fun e => (false, eval e env))) >>= _) Q E s
    refine wpAny_bind (wpAny_mono q' (fun vs s₁ q₁ => ?_) fun _ _ x => x)
    exact wpAny_holding (fin [] vs s₁ q₁)
theorem args_any {args : List Expr} {pos : Pos} (hp : args.all notStar = true) : (backTo pos (starEach args env)).any (·.1) = false := by
  rw [starEach_eq hp]
  unfold backTo
  rw [List.map_map, List.any_map, List.any_eq_false]
  intro x hx
  simp
theorem callWith_of {f : Value} {first : List Value} {args : List Expr} {kws : List Keyword} {pos : Pos} {Q : Value → Shared → Prop} {s : Shared} (hp : args.all notStar = true) (hk : kwNamed kws = true)
    (q : wArgs w A env E args (fun vs s₁ => wKws w A env E kws (fun ks s₂ => CanCall f s₂ ∧ wpAny (MM w) A (call f (first ++ vs) ks) Q E s₂) s₁) s) :
    wpAny (MM w) A (callWith pos f first (backTo pos (starEach args env)) (backToKw pos (keywordEach kws env))) Q E s := by
  unfold callWith
  refine wpAny_bind (wpAny_holding (wpAny_mono (evalArgs_of (f := f) (pos := pos) (Q := fun a s₂ => CanCall f s₂ ∧ wpAny (MM w) A (call f (first ++ a.pos) a.kw) Q E s₂) hp hk q) (fun a s₁ h₁ => wpAny_bind (wpAny_standAt ?_)) fun _ _ x => x))
  have tail : ∀ {t : Sem Value}, wpAny (MM w) A t Q E s₁ → wpAny (MM w) A (t >>= fun r => holding [r] point >>= fun _ => pure r) Q E s₁ :=
    fun ht => wpAny_bind (wpAny_mono ht (fun r s₂ hr => wpAny_bind (wpAny_holding (wpAny_point (wpAny_pure hr)))) fun _ _ x => x)
  have hs : ((backTo pos (starEach args env)).any (·.1) || (backToKw pos (keywordEach kws env)).any (·.1.isNone)) = false := by
    rw [args_any hp, (kw_named hk).2]; rfl
  rw [hs]
  obtain ⟨hc, hq⟩ := h₁
  cases f <;> first | exact hc.elim | skip
  case type => exact wpAny_bind (wpAny_pure (tail hq))
  case builtin => exact wpAny_bind (wpAny_pure (tail hq))
  case ref a =>
    obtain ⟨o, fd, ho, hd⟩ := hc
    refine wpAny_bind (m := keeperOf (.ref a)) ?_
    unfold keeperOf
    refine wpAny_bind (wpAny_load ho ?_)
    rw [hd]
    refine wpAny_pure ?_
    dsimp only
    split
    · exact tail hq
    · exact tail (by unfold callMarked; exact Calls.wpAny_keep hq)
theorem r_call {id : Str} {p pos : Pos} {args : List Expr} {kws : List Keyword} {Q : Value → Shared → Prop} (hp : args.all notStar = true) (hk : kwNamed kws = true)
    (q : wpAny (MM w) A (eval (.Name id p) env) (XF1 w A E env args kws Q) E (Sh c h tk)) :
    wpAny (MM w) A (eval (.Call (.Name id p) args kws pos) env) Q E (Sh c h tk) :=
  wpAny_Call_Name_kw (wpAny_mono q (fun f s₀ q => callWith_of (first := []) hp hk q) fun _ _ x => x)
theorem r_args_nil {Q : List Value → Shared → Prop} {s : Shared} (q : Q [] s) : wArgs w A env E [] Q s := q
theorem r_args_cons {e : Expr} {r : List Expr} {Q : List Value → Shared → Prop} {s : Shared} (q : wpAny (MM w) A (eval e env) (XG w A E env r Q) E s) : wArgs w A env E (e :: r) Q s := q
theorem r_kws_nil {Q : List (Str × Value) → Shared → Prop} {s : Shared} (q : Q [] s) : wKws w A env E [] Q s := q
theorem r_kws_cons {n : Str} {e : Expr} {p : Pos} {r : List Keyword} {Q : List (Str × Value) → Shared → Prop} {s : Shared} (q : wpAny (MM w) A (eval e env) (XW w A E env n r Q) E s) :
    wKws w A env E (⟨some n, e, p⟩ :: r) Q s := q
theorem can_b {id : String} {s : Shared} {P : Prop} (q : P) : CanCall (.builtin id) s ∧ P := ⟨trivial, q⟩
theorem can_t {id : String} {s : Shared} {P : Prop} (q : P) : CanCall (.type id) s ∧ P := ⟨trivial, q⟩
theorem can_f {a : Addr} {fd : FuncData} {P : Prop} (ok : FnOk a fd) (kp : KeepR w h) (q : P) : CanCall (.ref a) (Sh c h tk) ∧ P := ⟨let ⟨o, ho, hd⟩ := ok.get w.params; ⟨o, fd, kp _ _ ho, hd⟩, q⟩
end
end
section
section
variable {w : World} {env : Env} {A : Around} {E : Value → Shared → Prop} {c : Shared} {h h₀ : Heap} {tk : Nat} {vs vs' : List (Str × Value)} {ns : List (Addr × Obj)} {rs : List (Value × D)}
theorem St.sub (st : St w env h₀ vs ns rs h) (hs : Sb vs vs') (nd : keyB vs' = true) : St w env h₀ vs' ns rs h :=
  { st with loc := let ⟨m, a, b⟩ := st.loc; ⟨m, a, fun p hp => b p (hs.all p hp)⟩, nd := keyB_nd nd }
theorem r_while {test : Expr} {body orelse : List Stmt} {p : Pos} {Q : Flow → Shared → Prop} (I : Nat → Heap → Prop) (n : Nat) (h0 : I n h)
    (turn : ∀ n h tk, I n h → wpAny (MM w) A (PySem.isTrue test env (eval test env)) (fun b s₂ =>
        (b = true → wpAny (MM w) A (execs body env) (fun f s₃ => match f with
            | .next | .cont => ∃ m h' tk', s₃ = Sh c h' tk' ∧ m < n ∧ I m h'
            | .brk => Q .next s₃
            | .ret v => Q (.ret v) s₃) NoE s₂) ∧
        (b = false → wpAny (MM w) A (execs orelse env) Q NoE s₂)) NoE (Sh c h tk)) :
    wpAny (MM w) A (exec (.While test body orelse p) env) Q E (Sh c h tk) := by
  refine wpAny_While (codeAny_whileLoop (fun n s => ∃ h' tk', s = Sh c h' tk' ∧ I n h') ?_ n ⟨h, tk, rfl, h0⟩)
  rintro n s ⟨h', tk', rfl, hI⟩
  refine wpAny_mono (turn n h' tk' hI) (fun b s₂ q => ?_) fun _ _ x => x.elim
  cases b with
  | false =>
    rw [if_neg (by decide)]
    exact wpAny_mono (q.2 rfl) (fun f s₃ x => x) fun _ _ x => x.elim
  | true =>
    rw [if_pos rfl]
    refine wpAny_mono (q.1 rfl) (fun f s₃ x => ?_) fun _ _ x => x.elim
    cases f with
    | next => obtain ⟨m, h'', tk'', e, lt, hm⟩ := x; exact ⟨m, lt, h'', tk'', e, hm⟩
    | cont => obtain ⟨m, h'', tk'', e, lt, hm⟩ := x; exact ⟨m, lt, h'', tk'', e, hm⟩
    | brk => exact x
    | ret v => exact x
theorem r_isNN {Q : Value → Shared → Prop} (q : Q (.bool true) (Sh c h tk)) : wpAny (MM w) A (compareOp .Is .none .none) Q E (Sh c h tk) := is_none_none q
theorem r_isRN {a : Addr} {Q : Value → Shared → Prop} (q : Q (.bool false) (Sh c h tk)) : wpAny (MM w) A (compareOp .Is (.ref a) .none) Q E (Sh c h tk) := is_ref_none q
theorem r_isIN {a : Int} {t : Tok} {Q : Value → Shared → Prop} (q : Q (.bool false) (Sh c h tk)) : wpAny (MM w) A (compareOp .Is (.int a t) .none) Q E (Sh c h tk) := is_int_none q
theorem r_lenL {l : Addr} {items : List Value} {Q : Value → Shared → Prop} (hl : h.IsList l items.toArray) (hs : items.length < 2 ^ 62) (q : ∀ t tk', Q (.int (items.length : Int) t) (Sh c h tk')) :
    wpAny (MM w) A (call (.builtin "len") [.ref l] []) Q E (Sh c h tk) := by
  refine Calls.call_len_list hl (by simp only [List.size_toArray]; (first | lia | omega)) ?_
  simp only [List.size_toArray]
  exact q _ _
theorem x_fdiv {a b : Int} {t u : Tok} {Q : Value → Shared → Prop} (hb : b ≠ 0) (hs : b.natAbs < 1073741824) (q : Q (.int (a.fdiv b) tk) (Sh c h (tk + 1))) : wpAny (MM w) A (binaryOp .FloorDiv (.int a t) (.int b u)) Q E (Sh c h tk) := floordiv_int hb q (.inl (PyProof.noPylong_small hs))
theorem x_mod {a b : Int} {t u : Tok} {Q : Value → Shared → Prop} (hb : b ≠ 0) (q : Q (.int (a.fmod b) tk) (Sh c h (tk + 1))) : wpAny (MM w) A (binaryOp .Mod (.int a t) (.int b u)) Q E (Sh c h tk) := PyProof.Rows.mod_int' hb q
theorem r_subscr {value slice : Expr} {p : Pos} {Q : Value → Shared → Prop} (q : wpAny (MM w) A (eval value env) (XS1 w A E env value slice Q) E (Sh c h tk)) :
    wpAny (MM w) A (eval (.Subscript value slice p) env) Q E (Sh c h tk) := Subscript_ q
end
section
variable {w : World} {A : Around} {E : Value → Shared → Prop} {c : Shared} {h h₀ : Heap} {tk : Nat}
theorem isList_ext {h h' : Heap} {a : Addr} {items : Array Value} (x : h.IsList a items) (k : Ext h h') : h'.IsList a items := let ⟨o, ho, r⟩ := x; ⟨o, k _ _ ho, r⟩
theorem r_itemL {value slice : Expr} {l : Addr} {items : List Value} {k : Int} {n : Nat} {u : Tok} {x : Value} {Q : Value → Shared → Prop} (hl : h.IsList l items.toArray) (hk : k = (n : Int)) (hx : items[n]? = some x) (hsz : items.length < 2 ^ 62)
    (hs : subscripted slice false (.ref l) (.int k u) = operate [.ref l, .int k u] (getItem (.ref l) (.int k u))) (hg : ∀ r, letTemporaryGo value (.ref l) r = Pure.pure ()) (q : Q x (Sh c h tk)) :
    wpAny (MM w) A (subscriptTail value slice (.ref l) (.int k u)) Q E (Sh c h tk) := by
  have : n < items.length := by
    cases hn : decide (n < items.length) with
    | true => exact of_decide_eq_true hn
    | false => rw [List.getElem?_eq_none (by simpa using hn)] at hx; cases hx
  exact item_list hl (by (first | lia | omega)) (by (first | lia | omega)) (by rw [hk]; simpa using hx) q hs hg
end
noncomputable def builtL : List (Str × Value) := [("len", .builtin "len"), ("ord", .builtin "ord"), ("chr", .builtin "chr"), ("sorted", .builtin "sorted"), ("sum", .builtin "sum"), ("abs", .builtin "abs"), ("isinstance", .builtin "isinstance"), ("min", .builtin "min"), ("max", .builtin "max"),
  ("range", .type "range"), ("bytes", .type "bytes"), ("bytearray", .type "bytearray"), ("list", .type "list"), ("zip", .type "zip"), ("IndexError", .type "IndexError"), ("UnicodeDecodeError", .type "UnicodeDecodeError")]
theorem builtL_ok (P : Params) : ∀ p ∈ builtL, nsFind (globE P) p.1 = none ∧ nsFind (bltE P) p.1 = some p.2 := by
  unfold builtL
  refine List.forall_mem_cons.mpr ⟨⟨by kernel_rfl!, by kernel_rfl!⟩, ?_⟩
  refine List.forall_mem_cons.mpr ⟨⟨by kernel_rfl!, by kernel_rfl!⟩, ?_⟩
  refine List.forall_mem_cons.mpr ⟨⟨by kernel_rfl!, by kernel_rfl!⟩, ?_⟩
  refine List.forall_mem_cons.mpr ⟨⟨by kernel_rfl!, by kernel_rfl!⟩, ?_⟩
  refine List.forall_mem_cons.mpr ⟨⟨by kernel_rfl!, by kernel_rfl!⟩, ?_⟩
  refine List.forall_mem_cons.mpr ⟨⟨by kernel_rfl!, by kernel_rfl!⟩, ?_⟩
  refine List.forall_mem_cons.mpr ⟨⟨by kernel_rfl!, by kernel_rfl!⟩, ?_⟩
  refine List.forall_mem_cons.mpr ⟨⟨by kernel_rfl!, by kernel_rfl!⟩, ?_⟩
  refine List.forall_mem_cons.mpr ⟨⟨by kernel_rfl!, by kernel_rfl!⟩, ?_⟩
  refine List.forall_mem_cons.mpr ⟨⟨by kernel_rfl!, by kernel_rfl!⟩, ?_⟩
  refine List.forall_mem_cons.mpr ⟨⟨by kernel_rfl!, by kernel_rfl!⟩, ?_⟩
  refine List.forall_mem_cons.mpr ⟨⟨by kernel_rfl!, by kernel_rfl!⟩, ?_⟩
  refine List.forall_mem_cons.mpr ⟨⟨by kernel_rfl!, by kernel_rfl!⟩, ?_⟩
  refine List.forall_mem_cons.mpr ⟨⟨by kernel_rfl!, by kernel_rfl!⟩, ?_⟩
  refine List.forall_mem_cons.mpr ⟨⟨by kernel_rfl!, by kernel_rfl!⟩, ?_⟩
  refine List.forall_mem_cons.mpr ⟨⟨by kernel_rfl!, by kernel_rfl!⟩, ?_⟩
  exact fun _ h => nomatch h
noncomputable def digitsB : Array UInt8 := #[97, 98, 99, 100, 101, 102, 103, 104, 105, 106, 107, 108, 109, 110, 111, 112, 113, 114, 115, 116, 117, 118, 119, 120, 121, 122, 48, 49, 50, 51, 52, 53, 54, 55, 56, 57]
noncomputable def globL : List (Str × Value) := [("T", .ref 21), ("digits", .bytes digitsB 198), ("generate_generalized_integer", .ref 28), ("decode_generalized_number", .ref 35), ("insort_right", .ref 44), ("bisect_right", .ref 53), ("insort_left", .ref 62), ("bisect_left", .ref 71), ("b1_set", .ref 79), ("in_table_b1", .ref 89),
  ("b3_exceptions", .ref 90), ("map_table_b3", .ref 135)]
theorem globL_ok (P : Params) : ∀ p ∈ globL, nsFind (globE P) p.1 = some p.2 := by
  unfold globL
  refine List.forall_mem_cons.mpr ⟨by kernel_rfl!, ?_⟩
  refine List.forall_mem_cons.mpr ⟨by kernel_rfl!, ?_⟩
  refine List.forall_mem_cons.mpr ⟨by kernel_rfl!, ?_⟩
  refine List.forall_mem_cons.mpr ⟨by kernel_rfl!, ?_⟩
  refine List.forall_mem_cons.mpr ⟨by kernel_rfl!, ?_⟩
  refine List.forall_mem_cons.mpr ⟨by kernel_rfl!, ?_⟩
  refine List.forall_mem_cons.mpr ⟨by kernel_rfl!, ?_⟩
  refine List.forall_mem_cons.mpr ⟨by kernel_rfl!, ?_⟩
  refine List.forall_mem_cons.mpr ⟨by kernel_rfl!, ?_⟩
  refine List.forall_mem_cons.mpr ⟨by kernel_rfl!, ?_⟩
  refine List.forall_mem_cons.mpr ⟨by kernel_rfl!, ?_⟩
  refine List.forall_mem_cons.mpr ⟨by kernel_rfl!, ?_⟩
  exact fun _ h => nomatch h
section
variable {w : World} {env : Env} {h₀ h h' : Heap} {vs vs' : List (Str × Value)} {ns : List (Addr × Obj)} {rs : List (Value × D)} {A : Around} {E : Value → Shared → Prop} {c : Shared} {tk : Nat} {x : Str} {v : Value}
theorem r_bname {Q : Value → Shared → Prop} {p : Pos} (st : St w env h₀ vs ns rs h) (hl : env.kindOf x = some .globalImplicit) (hm : (x, v) ∈ builtL) (hd : (x == ("__debug__" : Str)) = false) (hq : Q v (Sh c h tk)) : wpAny (MM w) A (eval (.Name x p) env) Q E (Sh c h tk) :=
  r_builtin st hl hh_glob hh_blt (builtL_ok _ _ hm).1 (builtL_ok _ _ hm).2 hd hq
theorem r_gname {Q : Value → Shared → Prop} {p : Pos} (st : St w env h₀ vs ns rs h) (hl : env.kindOf x = some .globalImplicit) (hm : (x, v) ∈ globL) (hd : (x == ("__debug__" : Str)) = false) (hq : Q v (Sh c h tk)) : wpAny (MM w) A (eval (.Name x p) env) Q E (Sh c h tk) :=
  r_glob st hl hh_glob (globL_ok _ _ hm) hd hq
end
section
variable {w : World} {env : Env} {A : Around} {E : Value → Shared → Prop} {s : Shared}
theorem is_name {x : Str} {p : Pos} {Q : Value → Shared → Prop} (q : wpAny (MM w) A (eval (.Name x p) env) Q E s) : wpAny (MM w) A (eval (.Name x p) env) Q E s := q
theorem is_store {x : Str} {v : Value} {Q : Unit → Shared → Prop} (q : wpAny (MM w) A (storeName env x v) Q E s) : wpAny (MM w) A (storeName env x v) Q E s := q
theorem is_load {x : Str} {Q : Value → Shared → Prop} (q : wpAny (MM w) A (loadName env x) Q E s) : wpAny (MM w) A (loadName env x) Q E s := q
end
end
local macro_rules | `(tactic| walk_at "M.mem") => `(tactic| with_reducible first | exact List.mem_cons_self | exact mem_1 | exact mem_2 | exact mem_3 | (apply mem_s4; walk_at "M.mem"))
local macro_rules | `(tactic| walk_at "M.put") => `(tactic| with_reducible first | exact Put.here | (apply Put.there; walk_at "M.put"))
local macro_rules | `(tactic| walk_at "M.putn") => `(tactic| first | (apply PutN.new; kernel_rfl!) | (apply PutN.put; walk_at "M.put"))
local macro_rules | `(tactic| walk_at "M.sub") => `(tactic| first | exact Sb.nil | (refine' Sb.cons ?_ ?_; (walk_at "M.mem"); (walk_at "M.sub")))
local macro_rules | `(tactic| walk_at "M.nz") => `(tactic| first | assumption | decide | exact mulOk_left (by decide))
local macro_rules | `(tactic| walk_at "M.e") => `(tactic| with_reducible first
  | (refine' is_name ?_; first
    | (apply r_local; assumption; kernel_rfl!; walk_at "M.mem"; kernel_rfl!)
    | (apply r_bname; assumption; kernel_rfl!; unfold builtL; walk_at "M.mem"; kernel_rfl!)
    | (apply r_gname; assumption; kernel_rfl!; unfold globL; walk_at "M.mem"; kernel_rfl!))
  | refine' x_cint ?_ | refine' x_cstr ?_ | refine' r_cnone ?_ | refine' r_cbool ?_ | refine' r_binop ?_ | refine' x_add ?_ | refine' x_sub ?_
  | (refine' x_mul ?_ ?_; walk_at "M.nz")
  | refine' r_cons ?_ | refine' r_nil ?_ | refine' r_if ?_
  | ((first | refine' r_isTrue1 ?_ ?_ | refine' r_assign ?_ ?_); kernel_rfl!)
  | refine' r_lt ?_ | refine' r_le ?_ | refine' r_gt ?_ | refine' r_ge ?_ | refine' r_tbool ?_ | refine' r_ret ?_ | refine' r_retN ?_ | refine' can_b ?_ | refine' can_t ?_
  | refine' r_args_cons ?_ | refine' r_args_nil ?_ | refine' r_kws_cons ?_ | refine' r_kws_nil ?_ | refine' r_subscr ?_ | refine' r_isNN ?_ | refine' r_isRN ?_ | refine' r_isIN ?_
  | (refine' x_fdiv ?_ ?_ ?_; walk_at "M.nz"; walk_at "M.nz")
  | (refine' x_mod ?_ ?_; walk_at "M.nz")
  | (refine' r_call ?_ ?_ ?_; kernel_rfl!; kernel_rfl!)
  | (refine' is_store ?_; apply x_store; assumption; kernel_rfl!; walk_at "M.putn"; intro _ _)
  | fail)
section
noncomputable def fdBR : FuncData := { name := "bisect_right", qualname := "bisect_right", params := prmAt 7, body := .stmts (bdyAt 7), scope := scpAt 7, globals := 3, closure := [], defaults := .ref 45, kwdefaults := .ref 46, doc := .none, pyModule := .str "cpy313.bisect" 227, annotations := none, code := .ref 52, closureTuple := .none, builtins := 0 }
theorem okBR : FnOk 53 fdBR := ⟨fun P => ⟨oC_53 P, by kernel_rfl!, rfl⟩, fun P => ⟨52, oC_52 P, _, _, rfl, by kernel_rfl!, rfl, rfl⟩, by kernel_rfl!, by kernel_rfl!, by kernel_rfl!, rfl, rfl, rfl⟩
noncomputable def fdBL : FuncData := { name := "bisect_left", qualname := "bisect_left", params := prmAt 9, body := .stmts (bdyAt 9), scope := scpAt 9, globals := 3, closure := [], defaults := .ref 63, kwdefaults := .ref 64, doc := .none, pyModule := .str "cpy313.bisect" 227, annotations := none, code := .ref 70, closureTuple := .none, builtins := 0 }
theorem okBL : FnOk 71 fdBL := ⟨fun P => ⟨oC_71 P, by kernel_rfl!, rfl⟩, fun P => ⟨70, oC_70 P, _, _, rfl, by kernel_rfl!, rfl, rfl⟩, by kernel_rfl!, by kernel_rfl!, by kernel_rfl!, rfl, rfl, rfl⟩
structure Cut (q : Nat → Bool) (lo hi r : Nat) : Prop where
  lo1 : lo ≤ r
  hi1 : r ≤ hi
  no : ∀ i, lo ≤ i → i < r → q i = false
  yes : ∀ i, r ≤ i → i < hi → q i = true
noncomputable def Mono (q : Nat → Bool) (lo hi : Nat) : Prop := ∀ i j, lo ≤ i → i ≤ j → j < hi → q i = true → q j = true
theorem mid_eq (a b : Nat) : ((a : Int) + (b : Int)).fdiv 2 = (((a + b) / 2 : Nat) : Int) := by
  rw [Int.fdiv_eq_ediv_of_nonneg _ (by decide)]; (first | lia | omega)
section
variable {w : World} {A : Around} {E : Value → Shared → Prop} {c : Shared} {h : Heap} {tk : Nat}
theorem br_loop0 {L : Addr} {a : Addr} {x : Value} {items : List Value} {q : Nat → Bool} {lo hi : Nat} {Q : Value → Shared → Prop} {h₁ : Heap} {t1 t2 : Tok}
    (st : St w (callEnv fdBR L 53) h [("a", .ref a), ("x", x), ("lo", .int (lo : Int) t1), ("hi", .int (hi : Int) t2), ("key", .none)] [] [] h₁) (hl : h.IsList a items.toArray) (hle : lo ≤ hi) (hhi : hi ≤ items.length) (hsz : items.length < 2 ^ 62)
    (hm : Mono q lo hi)
    (hcmp : ∀ i v, items[i]? = some v → lo ≤ i → i < hi → ∀ h' tk' (Q : Value → Shared → Prop), Ext h h' → (∀ h'' tk'', Ext h' h'' → Q (.bool (q i)) (Sh c h'' tk'')) → wpAny (MM w) A (compareOp .Lt x v) Q NoE (Sh c h' tk'))
    (hQ : ∀ r t h' tk', Cut q lo hi r → Ext h h' → Q (.int (r : Int) t) (Sh c h' tk')) :
    wpAny (MM w) A (execs ((bdyAt 7).drop 2) (callEnv fdBR L 53)) (fun f s' => Q (retV f) s') NoE (Sh c h₁ tk) := by
  refine r_cons ?_
  repeat' (walk_at "M.e")
  refine ⟨fun _ => ?_, fun e => absurd e (by decide)⟩
  repeat' (walk_at "M.e")
  refine r_while (fun n h' => ∃ (lo' hi' : Nat) (t1 t2 : Tok), St w (callEnv fdBR L 53) h [("a", .ref a), ("x", x), ("lo", .int (lo' : Int) t1), ("hi", .int (hi' : Int) t2), ("key", .none)] [] [] h' ∧ lo ≤ lo' ∧ lo' ≤ hi' ∧ hi' ≤ hi ∧ n = hi' - lo' ∧
    (∀ i, lo ≤ i → i < lo' → q i = false) ∧ (∀ i, hi' ≤ i → i < hi → q i = true)) (hi - lo) ⟨lo, hi, t1, t2, st, Nat.le_refl _, hle, Nat.le_refl _, rfl, fun i h1 h2 => absurd h2 (by (first | lia | omega)), fun i h1 h2 => absurd h2 (by (first | lia | omega))⟩ ?_
  rintro n h2 tk2 ⟨lo', hi', t1, t2, st2, h1, h12, h3, rfl, hno, hyes⟩
  repeat' (walk_at "M.e")
  refine ⟨fun hb => ?_, fun hb => ?_⟩
  · rw [decide_eq_true_eq] at hb
    repeat' (walk_at "M.e")
    simp only [mid_eq] at *
    have hlt : (lo' + hi') / 2 < items.length := by (first | lia | omega)
    refine r_itemL (isList_ext hl (St.keep ‹_›)) rfl (List.getElem?_eq_getElem hlt) hsz (by kernel_rfl!) (fun _ => by kernel_rfl!) ?_
    refine hcmp ((lo' + hi') / 2) _ (List.getElem?_eq_getElem hlt) (by (first | lia | omega)) (by (first | lia | omega)) _ _ _ (St.keep ‹_›) ?_
    intro h3 tk3 k3
    have st3 := (‹St w (callEnv fdBR L 53) h ((Str.ofString "mid", _) :: _) [] [] _›).ext k3
    repeat' (walk_at "M.e")
    refine ⟨fun hq => ?_, fun hq => ?_⟩
    · repeat' (walk_at "M.e")
      refine ⟨_, _, _, rfl, ?_, lo', (lo' + hi') / 2, _, _, St.sub ‹St w (callEnv fdBR L 53) h ((Str.ofString "mid", _) :: _) [] [] _› (by walk_at "M.sub") (by kernel_rfl!), h1, by (first | lia | omega), by (first | lia | omega), rfl, hno, fun i a b => ?_⟩
      · (first | lia | omega)
      · exact hm ((lo' + hi') / 2) i (by (first | lia | omega)) a b hq
    · repeat' (walk_at "M.e")
      simp only [show (((lo' + hi') / 2 : Nat) : Int) + 1 = (((lo' + hi') / 2 + 1 : Nat) : Int) from rfl] at *
      refine ⟨_, _, _, rfl, ?_, (lo' + hi') / 2 + 1, hi', _, _, St.sub ‹St w (callEnv fdBR L 53) h ((Str.ofString "mid", _) :: _) [] [] _› (by walk_at "M.sub") (by kernel_rfl!), by (first | lia | omega), by (first | lia | omega), by (first | lia | omega), rfl, fun i a b => ?_, hyes⟩
      · (first | lia | omega)
      · cases e : q i with
        | false => rfl
        | true => rw [hm i ((lo' + hi') / 2) a (by (first | lia | omega)) (by (first | lia | omega)) e] at hq; cases hq
  · rw [decide_eq_false_iff_not] at hb
    repeat' (walk_at "M.e")
    exact hQ _ _ _ _ ⟨h1, by (first | lia | omega), hno, fun i a b => hyes i (by (first | lia | omega)) b⟩ (St.keep ‹_›)
theorem br_loopK {L : Addr} {a : Addr} {kf : Addr} {KV : Nat → Value → Heap → Prop} {x : Value} {items : List Value} {q : Nat → Bool} {lo hi : Nat} {Q : Value → Shared → Prop} {h₁ : Heap} {t1 t2 : Tok}
    (st : St w (callEnv fdBR L 53) h [("a", .ref a), ("x", x), ("lo", .int (lo : Int) t1), ("hi", .int (hi : Int) t2), ("key", .ref kf)] [] [] h₁) (hl : h.IsList a items.toArray) (hle : lo ≤ hi) (hhi : hi ≤ items.length) (hsz : items.length < 2 ^ 62)
    (hm : Mono q lo hi)
    (hcan : ∃ o fd, h.get? kf = some o ∧ o.data = .func fd)
    (hkey : ∀ i v, items[i]? = some v → lo ≤ i → i < hi → ∀ h' tk' (Q : Value → Shared → Prop), Ext h h' → (∀ kv h'' tk'', Ext h' h'' → KV i kv h'' → Q kv (Sh c h'' tk'')) → wpAny (MM w) A (call (.ref kf) [v] []) Q NoE (Sh c h' tk'))
    (hcmp : ∀ i kv, lo ≤ i → i < hi → ∀ h' tk' (Q : Value → Shared → Prop), Ext h h' → KV i kv h' → (∀ h'' tk'', Ext h' h'' → Q (.bool (q i)) (Sh c h'' tk'')) → wpAny (MM w) A (compareOp .Lt x kv) Q NoE (Sh c h' tk'))
    (hQ : ∀ r t h' tk', Cut q lo hi r → Ext h h' → Q (.int (r : Int) t) (Sh c h' tk')) :
    wpAny (MM w) A (execs ((bdyAt 7).drop 2) (callEnv fdBR L 53)) (fun f s' => Q (retV f) s') NoE (Sh c h₁ tk) := by
  refine r_cons ?_
  repeat' (walk_at "M.e")
  refine ⟨fun e => absurd e (by decide), fun _ => ?_⟩
  repeat' (walk_at "M.e")
  refine r_while (fun n h' => ∃ (lo' hi' : Nat) (t1 t2 : Tok), St w (callEnv fdBR L 53) h [("a", .ref a), ("x", x), ("lo", .int (lo' : Int) t1), ("hi", .int (hi' : Int) t2), ("key", .ref kf)] [] [] h' ∧ lo ≤ lo' ∧ lo' ≤ hi' ∧ hi' ≤ hi ∧ n = hi' - lo' ∧
    (∀ i, lo ≤ i → i < lo' → q i = false) ∧ (∀ i, hi' ≤ i → i < hi → q i = true)) (hi - lo) ⟨lo, hi, t1, t2, st, Nat.le_refl _, hle, Nat.le_refl _, rfl, fun i h1 h2 => absurd h2 (by (first | lia | omega)), fun i h1 h2 => absurd h2 (by (first | lia | omega))⟩ ?_
  rintro n h2 tk2 ⟨lo', hi', t1, t2, st2, h1, h12, h3, rfl, hno, hyes⟩
  repeat' (walk_at "M.e")
  refine ⟨fun hb => ?_, fun hb => ?_⟩
  · rw [decide_eq_true_eq] at hb
    repeat' (walk_at "M.e")
    simp only [mid_eq] at *
    have hlt : (lo' + hi') / 2 < items.length := by (first | lia | omega)
    refine r_itemL (isList_ext hl (St.keep ‹_›)) rfl (List.getElem?_eq_getElem hlt) hsz (by kernel_rfl!) (fun _ => by kernel_rfl!) ?_
    repeat' (walk_at "M.e")
    refine ⟨let ⟨o, fd, ho, hd⟩ := hcan; ⟨o, fd, St.keep ‹_› _ _ ho, hd⟩, ?_⟩
    refine hkey ((lo' + hi') / 2) _ (List.getElem?_eq_getElem hlt) (by (first | lia | omega)) (by (first | lia | omega)) _ _ _ (St.keep ‹_›) ?_
    intro kv h4 tk4 k4 hKV
    have st4 := (‹St w (callEnv fdBR L 53) h ((Str.ofString "mid", _) :: _) [] [] _›).ext k4
    repeat' (walk_at "M.e")
    refine hcmp ((lo' + hi') / 2) _ (by (first | lia | omega)) (by (first | lia | omega)) _ _ _ (St.keep ‹_›) hKV ?_
    intro h3 tk3 k3
    have st3 := (‹St w (callEnv fdBR L 53) h ((Str.ofString "mid", _) :: _) [] [] _›).ext k3
    repeat' (walk_at "M.e")
    refine ⟨fun hq => ?_, fun hq => ?_⟩
    · repeat' (walk_at "M.e")
      refine ⟨_, _, _, rfl, ?_, lo', (lo' + hi') / 2, _, _, St.sub ‹St w (callEnv fdBR L 53) h ((Str.ofString "mid", _) :: _) [] [] _› (by walk_at "M.sub") (by kernel_rfl!), h1, by (first | lia | omega), by (first | lia | omega), rfl, hno, fun i a b => ?_⟩
      · (first | lia | omega)
      · exact hm ((lo' + hi') / 2) i (by (first | lia | omega)) a b hq
    · repeat' (walk_at "M.e")
      simp only [show (((lo' + hi') / 2 : Nat) : Int) + 1 = (((lo' + hi') / 2 + 1 : Nat) : Int) from rfl] at *
      refine ⟨_, _, _, rfl, ?_, (lo' + hi') / 2 + 1, hi', _, _, St.sub ‹St w (callEnv fdBR L 53) h ((Str.ofString "mid", _) :: _) [] [] _› (by walk_at "M.sub") (by kernel_rfl!), by (first | lia | omega), by (first | lia | omega), by (first | lia | omega), rfl, fun i a b => ?_, hyes⟩
      · (first | lia | omega)
      · cases e : q i with
        | false => rfl
        | true => rw [hm i ((lo' + hi') / 2) a (by (first | lia | omega)) (by (first | lia | omega)) e] at hq; cases hq
  · rw [decide_eq_false_iff_not] at hb
    repeat' (walk_at "M.e")
    exact hQ _ _ _ _ ⟨h1, by (first | lia | omega), hno, fun i a b => hyes i (by (first | lia | omega)) b⟩ (St.keep ‹_›)
theorem bl_loop0 {L : Addr} {a : Addr} {x : Value} {items : List Value} {q : Nat → Bool} {lo hi : Nat} {Q : Value → Shared → Prop} {h₁ : Heap} {t1 t2 : Tok}
    (st : St w (callEnv fdBL L 71) h [("a", .ref a), ("x", x), ("lo", .int (lo : Int) t1), ("hi", .int (hi : Int) t2), ("key", .none)] [] [] h₁) (hl : h.IsList a items.toArray) (hle : lo ≤ hi) (hhi : hi ≤ items.length) (hsz : items.length < 2 ^ 62)
    (hm : Mono q lo hi)
    (hcmp : ∀ i v, items[i]? = some v → lo ≤ i → i < hi → ∀ h' tk' (Q : Value → Shared → Prop), Ext h h' → (∀ h'' tk'', Ext h' h'' → Q (.bool (!q i)) (Sh c h'' tk'')) → wpAny (MM w) A (compareOp .Lt v x) Q NoE (Sh c h' tk'))
    (hQ : ∀ r t h' tk', Cut q lo hi r → Ext h h' → Q (.int (r : Int) t) (Sh c h' tk')) :
    wpAny (MM w) A (execs ((bdyAt 9).drop 2) (callEnv fdBL L 71)) (fun f s' => Q (retV f) s') NoE (Sh c h₁ tk) := by
  refine r_cons ?_
  repeat' (walk_at "M.e")
  refine ⟨fun _ => ?_, fun e => absurd e (by decide)⟩
  repeat' (walk_at "M.e")
  refine r_while (fun n h' => ∃ (lo' hi' : Nat) (t1 t2 : Tok), St w (callEnv fdBL L 71) h [("a", .ref a), ("x", x), ("lo", .int (lo' : Int) t1), ("hi", .int (hi' : Int) t2), ("key", .none)] [] [] h' ∧ lo ≤ lo' ∧ lo' ≤ hi' ∧ hi' ≤ hi ∧ n = hi' - lo' ∧
    (∀ i, lo ≤ i → i < lo' → q i = false) ∧ (∀ i, hi' ≤ i → i < hi → q i = true)) (hi - lo) ⟨lo, hi, t1, t2, st, Nat.le_refl _, hle, Nat.le_refl _, rfl, fun i h1 h2 => absurd h2 (by (first | lia | omega)), fun i h1 h2 => absurd h2 (by (first | lia | omega))⟩ ?_
  rintro n h2 tk2 ⟨lo', hi', t1, t2, st2, h1, h12, h3, rfl, hno, hyes⟩
  repeat' (walk_at "M.e")
  refine ⟨fun hb => ?_, fun hb => ?_⟩
  · rw [decide_eq_true_eq] at hb
    repeat' (walk_at "M.e")
    simp only [mid_eq] at *
    have hlt : (lo' + hi') / 2 < items.length := by (first | lia | omega)
    refine r_itemL (isList_ext hl (St.keep ‹_›)) rfl (List.getElem?_eq_getElem hlt) hsz (by kernel_rfl!) (fun _ => by kernel_rfl!) ?_
    repeat' (walk_at "M.e")
    refine hcmp ((lo' + hi') / 2) _ (List.getElem?_eq_getElem hlt) (by (first | lia | omega)) (by (first | lia | omega)) _ _ _ (St.keep ‹_›) ?_
    intro h3 tk3 k3
    have st3 := (‹St w (callEnv fdBL L 71) h ((Str.ofString "mid", _) :: _) [] [] _›).ext k3
    repeat' (walk_at "M.e")
    refine ⟨fun hq => ?_, fun hq => ?_⟩
    · rw [Bool.not_eq_true'] at hq
      repeat' (walk_at "M.e")
      simp only [show (((lo' + hi') / 2 : Nat) : Int) + 1 = (((lo' + hi') / 2 + 1 : Nat) : Int) from rfl] at *
      refine ⟨_, _, _, rfl, ?_, (lo' + hi') / 2 + 1, hi', _, _, St.sub ‹St w (callEnv fdBL L 71) h ((Str.ofString "mid", _) :: _) [] [] _› (by walk_at "M.sub") (by kernel_rfl!), by (first | lia | omega), by (first | lia | omega), by (first | lia | omega), rfl, fun i a b => ?_, hyes⟩
      · (first | lia | omega)
      · cases e : q i with
        | false => rfl
        | true => rw [hm i ((lo' + hi') / 2) a (by (first | lia | omega)) (by (first | lia | omega)) e] at hq; cases hq
    · rw [Bool.not_eq_false'] at hq
      repeat' (walk_at "M.e")
      refine ⟨_, _, _, rfl, ?_, lo', (lo' + hi') / 2, _, _, St.sub ‹St w (callEnv fdBL L 71) h ((Str.ofString "mid", _) :: _) [] [] _› (by walk_at "M.sub") (by kernel_rfl!), h1, by (first | lia | omega), by (first | lia | omega), rfl, hno, fun i a b => ?_⟩
      · (first | lia | omega)
      · exact hm ((lo' + hi') / 2) i (by (first | lia | omega)) a b hq
  · rw [decide_eq_false_iff_not] at hb
    repeat' (walk_at "M.e")
    exact hQ _ _ _ _ ⟨h1, by (first | lia | omega), hno, fun i a b => hyes i (by (first | lia | omega)) b⟩ (St.keep ‹_›)
theorem bl_loopK {L : Addr} {a : Addr} {kf : Addr} {KV : Nat → Value → Heap → Prop} {x : Value} {items : List Value} {q : Nat → Bool} {lo hi : Nat} {Q : Value → Shared → Prop} {h₁ : Heap} {t1 t2 : Tok}
    (st : St w (callEnv fdBL L 71) h [("a", .ref a), ("x", x), ("lo", .int (lo : Int) t1), ("hi", .int (hi : Int) t2), ("key", .ref kf)] [] [] h₁) (hl : h.IsList a items.toArray) (hle : lo ≤ hi) (hhi : hi ≤ items.length) (hsz : items.length < 2 ^ 62)
    (hm : Mono q lo hi)
    (hcan : ∃ o fd, h.get? kf = some o ∧ o.data = .func fd)
    (hkey : ∀ i v, items[i]? = some v → lo ≤ i → i < hi → ∀ h' tk' (Q : Value → Shared → Prop), Ext h h' → (∀ kv h'' tk'', Ext h' h'' → KV i kv h'' → Q kv (Sh c h'' tk'')) → wpAny (MM w) A (call (.ref kf) [v] []) Q NoE (Sh c h' tk'))
    (hcmp : ∀ i kv, lo ≤ i → i < hi → ∀ h' tk' (Q : Value → Shared → Prop), Ext h h' → KV i kv h' → (∀ h'' tk'', Ext h' h'' → Q (.bool (!q i)) (Sh c h'' tk'')) → wpAny (MM w) A (compareOp .Lt kv x) Q NoE (Sh c h' tk'))
    (hQ : ∀ r t h' tk', Cut q lo hi r → Ext h h' → Q (.int (r : Int) t) (Sh c h' tk')) :
    wpAny (MM w) A (execs ((bdyAt 9).drop 2) (callEnv fdBL L 71)) (fun f s' => Q (retV f) s') NoE (Sh c h₁ tk) := by
  refine r_cons ?_
  repeat' (walk_at "M.e")
  refine ⟨fun e => absurd e (by decide), fun _ => ?_⟩
  repeat' (walk_at "M.e")
  refine r_while (fun n h' => ∃ (lo' hi' : Nat) (t1 t2 : Tok), St w (callEnv fdBL L 71) h [("a", .ref a), ("x", x), ("lo", .int (lo' : Int) t1), ("hi", .int (hi' : Int) t2), ("key", .ref kf)] [] [] h' ∧ lo ≤ lo' ∧ lo' ≤ hi' ∧ hi' ≤ hi ∧ n = hi' - lo' ∧
    (∀ i, lo ≤ i → i < lo' → q i = false) ∧ (∀ i, hi' ≤ i → i < hi → q i = true)) (hi - lo) ⟨lo, hi, t1, t2, st, Nat.le_refl _, hle, Nat.le_refl _, rfl, fun i h1 h2 => absurd h2 (by (first | lia | omega)), fun i h1 h2 => absurd h2 (by (first | lia | omega))⟩ ?_
  rintro n h2 tk2 ⟨lo', hi', t1, t2, st2, h1, h12, h3, rfl, hno, hyes⟩
  repeat' (walk_at "M.e")
  refine ⟨fun hb => ?_, fun hb => ?_⟩
  · rw [decide_eq_true_eq] at hb
    repeat' (walk_at "M.e")
    simp only [mid_eq] at *
    have hlt : (lo' + hi') / 2 < items.length := by (first | lia | omega)
    refine r_itemL (isList_ext hl (St.keep ‹_›)) rfl (List.getElem?_eq_getElem hlt) hsz (by kernel_rfl!) (fun _ => by kernel_rfl!) ?_
    repeat' (walk_at "M.e")
    refine ⟨let ⟨o, fd, ho, hd⟩ := hcan; ⟨o, fd, St.keep ‹_› _ _ ho, hd⟩, ?_⟩
    refine hkey ((lo' + hi') / 2) _ (List.getElem?_eq_getElem hlt) (by (first | lia | omega)) (by (first | lia | omega)) _ _ _ (St.keep ‹_›) ?_
    intro kv h4 tk4 k4 hKV
    have st4 := (‹St w (callEnv fdBL L 71) h ((Str.ofString "mid", _) :: _) [] [] _›).ext k4
    repeat' (walk_at "M.e")
    refine hcmp ((lo' + hi') / 2) _ (by (first | lia | omega)) (by (first | lia | omega)) _ _ _ (St.keep ‹_›) hKV ?_
    intro h3 tk3 k3
    have st3 := (‹St w (callEnv fdBL L 71) h ((Str.ofString "mid", _) :: _) [] [] _›).ext k3
    repeat' (walk_at "M.e")
    refine ⟨fun hq => ?_, fun hq => ?_⟩
    · rw [Bool.not_eq_true'] at hq
      repeat' (walk_at "M.e")
      simp only [show (((lo' + hi') / 2 : Nat) : Int) + 1 = (((lo' + hi') / 2 + 1 : Nat) : Int) from rfl] at *
      refine ⟨_, _, _, rfl, ?_, (lo' + hi') / 2 + 1, hi', _, _, St.sub ‹St w (callEnv fdBL L 71) h ((Str.ofString "mid", _) :: _) [] [] _› (by walk_at "M.sub") (by kernel_rfl!), by (first | lia | omega), by (first | lia | omega), by (first | lia | omega), rfl, fun i a b => ?_, hyes⟩
      · (first | lia | omega)
      · cases e : q i with
        | false => rfl
        | true => rw [hm i ((lo' + hi') / 2) a (by (first | lia | omega)) (by (first | lia | omega)) e] at hq; cases hq
    · rw [Bool.not_eq_false'] at hq
      repeat' (walk_at "M.e")
      refine ⟨_, _, _, rfl, ?_, lo', (lo' + hi') / 2, _, _, St.sub ‹St w (callEnv fdBL L 71) h ((Str.ofString "mid", _) :: _) [] [] _› (by walk_at "M.sub") (by kernel_rfl!), h1, by (first | lia | omega), by (first | lia | omega), rfl, hno, fun i a b => ?_⟩
      · (first | lia | omega)
      · exact hm ((lo' + hi') / 2) i (by (first | lia | omega)) a b hq
  · rw [decide_eq_false_iff_not] at hb
    repeat' (walk_at "M.e")
    exact hQ _ _ _ _ ⟨h1, by (first | lia | omega), hno, fun i a b => hyes i (by (first | lia | omega)) b⟩ (St.keep ‹_›)
end
end
section
section
variable {w : World} {A : Around} {E : Value → Shared → Prop} {c : Shared} {h : Heap} {tk : Nat}
theorem br_body0I {L : Addr} {a : Addr} {x : Value} {items : List Value} {q : Nat → Bool} {lo hi : Nat} {Q : Value → Shared → Prop} {h₁ : Heap} {t1 t2 : Tok}
    (st : St w (callEnv fdBR L 53) h [("a", .ref a), ("x", x), ("lo", .int (lo : Int) t1), ("hi", .int (hi : Int) t2), ("key", .none)] [] [] h₁) (hl : h.IsList a items.toArray) (hle : lo ≤ hi) (hhi : hi ≤ items.length) (hsz : items.length < 2 ^ 62)
    (hm : Mono q lo hi)
    (hcmp : ∀ i v, items[i]? = some v → lo ≤ i → i < hi → ∀ h' tk' (Q : Value → Shared → Prop), Ext h h' → (∀ h'' tk'', Ext h' h'' → Q (.bool (q i)) (Sh c h'' tk'')) → wpAny (MM w) A (compareOp .Lt x v) Q NoE (Sh c h' tk'))
    (hQ : ∀ r t h' tk', Cut q lo hi r → Ext h h' → Q (.int (r : Int) t) (Sh c h' tk')) :
    wpAny (MM w) A (execs (bdyAt 7) (callEnv fdBR L 53)) (fun f s' => Q (retV f) s') NoE (Sh c h₁ tk) := by
  refine r_cons ?_
  repeat' (walk_at "M.e")
  refine ⟨fun e => ?_, fun _ => ?_⟩
  · rw [decide_eq_true_eq] at e; (first | lia | omega)
  repeat' (walk_at "M.e")
  refine ⟨fun e => absurd e (by decide), fun _ => ?_⟩
  refine r_nil ?_
  exact br_loop0 (by assumption) hl hle hhi hsz hm hcmp hQ
theorem br_body0N {L : Addr} {a : Addr} {x : Value} {items : List Value} {q : Nat → Bool} {lo hi : Nat} {Q : Value → Shared → Prop} {h₁ : Heap} {t1 : Tok}
    (st : St w (callEnv fdBR L 53) h [("a", .ref a), ("x", x), ("lo", .int (lo : Int) t1), ("hi", .none), ("key", .none)] [] [] h₁) (hl : h.IsList a items.toArray) (hle : lo ≤ hi) (hhi : hi = items.length) (hsz : items.length < 2 ^ 62)
    (hm : Mono q lo hi)
    (hcmp : ∀ i v, items[i]? = some v → lo ≤ i → i < hi → ∀ h' tk' (Q : Value → Shared → Prop), Ext h h' → (∀ h'' tk'', Ext h' h'' → Q (.bool (q i)) (Sh c h'' tk'')) → wpAny (MM w) A (compareOp .Lt x v) Q NoE (Sh c h' tk'))
    (hQ : ∀ r t h' tk', Cut q lo hi r → Ext h h' → Q (.int (r : Int) t) (Sh c h' tk')) :
    wpAny (MM w) A (execs (bdyAt 7) (callEnv fdBR L 53)) (fun f s' => Q (retV f) s') NoE (Sh c h₁ tk) := by
  refine r_cons ?_
  repeat' (walk_at "M.e")
  refine ⟨fun e => ?_, fun _ => ?_⟩
  · rw [decide_eq_true_eq] at e; (first | lia | omega)
  repeat' (walk_at "M.e")
  refine ⟨fun _ => ?_, fun e => absurd e (by decide)⟩
  repeat' (walk_at "M.e")
  refine r_lenL (isList_ext hl (St.keep ‹_›)) hsz ?_
  intro t2 tk2
  simp only [← hhi]
  walk_at "M.e"
  refine r_nil ?_
  exact br_loop0 (by assumption) hl hle (by (first | lia | omega)) hsz hm hcmp hQ
theorem br_bodyKN {L : Addr} {a : Addr} {kf : Addr} {KV : Nat → Value → Heap → Prop} {x : Value} {items : List Value} {q : Nat → Bool} {lo hi : Nat} {Q : Value → Shared → Prop} {h₁ : Heap} {t1 : Tok}
    (st : St w (callEnv fdBR L 53) h [("a", .ref a), ("x", x), ("lo", .int (lo : Int) t1), ("hi", .none), ("key", .ref kf)] [] [] h₁) (hl : h.IsList a items.toArray) (hle : lo ≤ hi) (hhi : hi = items.length) (hsz : items.length < 2 ^ 62)
    (hm : Mono q lo hi)
    (hcan : ∃ o fd, h.get? kf = some o ∧ o.data = .func fd)
    (hkey : ∀ i v, items[i]? = some v → lo ≤ i → i < hi → ∀ h' tk' (Q : Value → Shared → Prop), Ext h h' → (∀ kv h'' tk'', Ext h' h'' → KV i kv h'' → Q kv (Sh c h'' tk'')) → wpAny (MM w) A (call (.ref kf) [v] []) Q NoE (Sh c h' tk'))
    (hcmp : ∀ i kv, lo ≤ i → i < hi → ∀ h' tk' (Q : Value → Shared → Prop), Ext h h' → KV i kv h' → (∀ h'' tk'', Ext h' h'' → Q (.bool (q i)) (Sh c h'' tk'')) → wpAny (MM w) A (compareOp .Lt x kv) Q NoE (Sh c h' tk'))
    (hQ : ∀ r t h' tk', Cut q lo hi r → Ext h h' → Q (.int (r : Int) t) (Sh c h' tk')) :
    wpAny (MM w) A (execs (bdyAt 7) (callEnv fdBR L 53)) (fun f s' => Q (retV f) s') NoE (Sh c h₁ tk) := by
  refine r_cons ?_
  repeat' (walk_at "M.e")
  refine ⟨fun e => ?_, fun _ => ?_⟩
  · rw [decide_eq_true_eq] at e; (first | lia | omega)
  repeat' (walk_at "M.e")
  refine ⟨fun _ => ?_, fun e => absurd e (by decide)⟩
  repeat' (walk_at "M.e")
  refine r_lenL (isList_ext hl (St.keep ‹_›)) hsz ?_
  intro t2 tk2
  simp only [← hhi]
  walk_at "M.e"
  refine r_nil ?_
  exact br_loopK (by assumption) hl hle (by (first | lia | omega)) hsz hm hcan hkey hcmp hQ
theorem bl_body0I {L : Addr} {a : Addr} {x : Value} {items : List Value} {q : Nat → Bool} {lo hi : Nat} {Q : Value → Shared → Prop} {h₁ : Heap} {t1 t2 : Tok}
    (st : St w (callEnv fdBL L 71) h [("a", .ref a), ("x", x), ("lo", .int (lo : Int) t1), ("hi", .int (hi : Int) t2), ("key", .none)] [] [] h₁) (hl : h.IsList a items.toArray) (hle : lo ≤ hi) (hhi : hi ≤ items.length) (hsz : items.length < 2 ^ 62)
    (hm : Mono q lo hi)
    (hcmp : ∀ i v, items[i]? = some v → lo ≤ i → i < hi → ∀ h' tk' (Q : Value → Shared → Prop), Ext h h' → (∀ h'' tk'', Ext h' h'' → Q (.bool (!q i)) (Sh c h'' tk'')) → wpAny (MM w) A (compareOp .Lt v x) Q NoE (Sh c h' tk'))
    (hQ : ∀ r t h' tk', Cut q lo hi r → Ext h h' → Q (.int (r : Int) t) (Sh c h' tk')) :
    wpAny (MM w) A (execs (bdyAt 9) (callEnv fdBL L 71)) (fun f s' => Q (retV f) s') NoE (Sh c h₁ tk) := by
  refine r_cons ?_
  repeat' (walk_at "M.e")
  refine ⟨fun e => ?_, fun _ => ?_⟩
  · rw [decide_eq_true_eq] at e; (first | lia | omega)
  repeat' (walk_at "M.e")
  refine ⟨fun e => absurd e (by decide), fun _ => ?_⟩
  refine r_nil ?_
  exact bl_loop0 (by assumption) hl hle hhi hsz hm hcmp hQ
theorem bl_body0N {L : Addr} {a : Addr} {x : Value} {items : List Value} {q : Nat → Bool} {lo hi : Nat} {Q : Value → Shared → Prop} {h₁ : Heap} {t1 : Tok}
    (st : St w (callEnv fdBL L 71) h [("a", .ref a), ("x", x), ("lo", .int (lo : Int) t1), ("hi", .none), ("key", .none)] [] [] h₁) (hl : h.IsList a items.toArray) (hle : lo ≤ hi) (hhi : hi = items.length) (hsz : items.length < 2 ^ 62)
    (hm : Mono q lo hi)
    (hcmp : ∀ i v, items[i]? = some v → lo ≤ i → i < hi → ∀ h' tk' (Q : Value → Shared → Prop), Ext h h' → (∀ h'' tk'', Ext h' h'' → Q (.bool (!q i)) (Sh c h'' tk'')) → wpAny (MM w) A (compareOp .Lt v x) Q NoE (Sh c h' tk'))
    (hQ : ∀ r t h' tk', Cut q lo hi r → Ext h h' → Q (.int (r : Int) t) (Sh c h' tk')) :
    wpAny (MM w) A (execs (bdyAt 9) (callEnv fdBL L 71)) (fun f s' => Q (retV f) s') NoE (Sh c h₁ tk) := by
  refine r_cons ?_
  repeat' (walk_at "M.e")
  refine ⟨fun e => ?_, fun _ => ?_⟩
  · rw [decide_eq_true_eq] at e; (first | lia | omega)
  repeat' (walk_at "M.e")
  refine ⟨fun _ => ?_, fun e => absurd e (by decide)⟩
  repeat' (walk_at "M.e")
  refine r_lenL (isList_ext hl (St.keep ‹_›)) hsz ?_
  intro t2 tk2
  simp only [← hhi]
  walk_at "M.e"
  refine r_nil ?_
  exact bl_loop0 (by assumption) hl hle (by (first | lia | omega)) hsz hm hcmp hQ
theorem bl_bodyKN {L : Addr} {a : Addr} {kf : Addr} {KV : Nat → Value → Heap → Prop} {x : Value} {items : List Value} {q : Nat → Bool} {lo hi : Nat} {Q : Value → Shared → Prop} {h₁ : Heap} {t1 : Tok}
    (st : St w (callEnv fdBL L 71) h [("a", .ref a), ("x", x), ("lo", .int (lo : Int) t1), ("hi", .none), ("key", .ref kf)] [] [] h₁) (hl : h.IsList a items.toArray) (hle : lo ≤ hi) (hhi : hi = items.length) (hsz : items.length < 2 ^ 62)
    (hm : Mono q lo hi)
    (hcan : ∃ o fd, h.get? kf = some o ∧ o.data = .func fd)
    (hkey : ∀ i v, items[i]? = some v → lo ≤ i → i < hi → ∀ h' tk' (Q : Value → Shared → Prop), Ext h h' → (∀ kv h'' tk'', Ext h' h'' → KV i kv h'' → Q kv (Sh c h'' tk'')) → wpAny (MM w) A (call (.ref kf) [v] []) Q NoE (Sh c h' tk'))
    (hcmp : ∀ i kv, lo ≤ i → i < hi → ∀ h' tk' (Q : Value → Shared → Prop), Ext h h' → KV i kv h' → (∀ h'' tk'', Ext h' h'' → Q (.bool (!q i)) (Sh c h'' tk'')) → wpAny (MM w) A (compareOp .Lt kv x) Q NoE (Sh c h' tk'))
    (hQ : ∀ r t h' tk', Cut q lo hi r → Ext h h' → Q (.int (r : Int) t) (Sh c h' tk')) :
    wpAny (MM w) A (execs (bdyAt 9) (callEnv fdBL L 71)) (fun f s' => Q (retV f) s') NoE (Sh c h₁ tk) := by
  refine r_cons ?_
  repeat' (walk_at "M.e")
  refine ⟨fun e => ?_, fun _ => ?_⟩
  · rw [decide_eq_true_eq] at e; (first | lia | omega)
  repeat' (walk_at "M.e")
  refine ⟨fun _ => ?_, fun e => absurd e (by decide)⟩
  repeat' (walk_at "M.e")
  refine r_lenL (isList_ext hl (St.keep ‹_›)) hsz ?_
  intro t2 tk2
  simp only [← hhi]
  walk_at "M.e"
  refine r_nil ?_
  exact bl_loopK (by assumption) hl hle (by (first | lia | omega)) hsz hm hcan hkey hcmp hQ
end
end
section
noncomputable def rd1 {α : Type} (g : Addr → Option Obj) (f : Sem α → Option α) (x : Sem α) : Option α :=
  match x with
  | .pure a => some a
  | .load a _ k => match g a with | some o => f (k o) | none => none
  | .rule _ k => f (k ())
  | _ => none
noncomputable def readsTo {α : Type} (g : Addr → Option Obj) (n : Nat) : Sem α → Option α := Nat.rec (rd1 g fun _ => none) (fun _ f => rd1 g f) n
theorem rd1_ok {α : Type} {M : Model} {A : Around} {E : Value → Shared → Prop} {Q : α → Shared → Prop} {g : Addr → Option Obj} {c : Shared} {h : Heap} {tk : Nat} {r : α} {f : Sem α → Option α} (hg : ∀ a o, g a = some o → h.get? a = some o)
    (hf : ∀ x, f x = some r → wpAny M A x Q E (Sh c h tk)) (x : Sem α) (e : rd1 g f x = some r) (q : Q r (Sh c h tk)) : wpAny M A x Q E (Sh c h tk) := by
  cases x with
  | pure a => cases (show some a = some r from e); exact wpAny_pure q
  | rule t k => exact wpAny_bind (m := PySem.rule t) (f := fun _ => k ()) (wpAny_rule (hf (k ()) e))
  | load a p k =>
    have e : (match g a with | some o => f (k o) | none => none) = some r := e
    cases ho : g a with
    | none => rw [ho] at e; cases e
    | some o =>
      rw [ho] at e
      exact wpAny_bind (m := loadPart a p) (f := k) (wpAny_loadPart (hg _ _ ho) (hf (k o) e))
  | _ => cases (show none = some r from e)
theorem readsTo_ok {α : Type} {M : Model} {A : Around} {E : Value → Shared → Prop} {Q : α → Shared → Prop} {g : Addr → Option Obj} {c : Shared} {h : Heap} {tk : Nat} (hg : ∀ a o, g a = some o → h.get? a = some o) (n : Nat) (x : Sem α) (r : α) (e : readsTo g n x = some r) (q : Q r (Sh c h tk)) : wpAny M A x Q E (Sh c h tk) := by
  induction n generalizing x with
  | zero => exact rd1_ok (f := fun _ => none) hg (fun _ e => by cases e) x e q
  | succ n ih => exact rd1_ok (f := readsTo g n) hg (fun y e => ih y e) x e q
section
variable {w : World} {c : Shared} {h : Heap} {tk : Nat}
theorem bindsR {fd : FuncData} {args : Args} {binds : List (Str × Value)} (kp : KeepR w h) (n : Nat) (e : readsTo (fun a => (HL w.params).get? a) n (bindArgs fd args) = some binds) : BindsTo (Sh c h tk) fd args binds := fun M A E Q hq => by
  exact readsTo_ok kp n _ _ e hq
end
noncomputable def Rm (n : Nat) (A : Around) : Prop := A.depth + n < 900 ∧ A.units + 8 * n < 9000
theorem Rm.lt {n : Nat} {A : Around} (h : Rm n A) : A.depth < 900 := by have := h.1; (first | lia | omega)
theorem Rm.deeper {n : Nat} {A : Around} {env : Env} (h : Rm (n + 1) A) : Rm n (A.deeper env) := ⟨by have := h.1; show A.depth + 1 + n < 900; (first | lia | omega), by have := h.2; show A.units + 3 + 8 * n < 9000; (first | lia | omega)⟩
theorem Rm.less {n m : Nat} {A : Around} (h : Rm n A) (l : m ≤ n) : Rm m A := ⟨by have := h.1; (first | lia | omega), by have := h.2; (first | lia | omega)⟩
section
variable {w : World} {A : Around} {E : Value → Shared → Prop} {c : Shared} {h : Heap} {tk : Nat}
theorem br_call2 {n : Nat} {a : Addr} {x : Value} {items : List Value} {q : Nat → Bool} {Q : Value → Shared → Prop}
    (kp : KeepR w h) (hrm : Rm (n + 1) A) (hl : h.IsList a items.toArray) (hsz : items.length < 2 ^ 62)
    (hm : Mono q 0 items.length)
    (hcmp : ∀ A', Rm n A' → ∀ i v, items[i]? = some v → 0 ≤ i → i < items.length → ∀ h' tk' (Q : Value → Shared → Prop), Ext h h' → (∀ h'' tk'', Ext h' h'' → Q (.bool (q i)) (Sh c h'' tk'')) → wpAny (MM w) A' (compareOp .Lt x v) Q NoE (Sh c h' tk'))
    (hQ : ∀ r t h' tk', Cut q 0 items.length r → Ext h h' → Q (.int (r : Int) t) (Sh c h' tk')) :
    wpAny (MM w) A (call (.ref 53) [.ref a, x] []) Q E (Sh c h tk) := by
  refine enterN (body := bdyAt 7) (binds := [("a", .ref a), ("x", x), ("lo", .int 0 242), ("hi", .none), ("key", .none)]) okBR rfl kp (bindsR kp 3 (by kernel_rfl!)) (by kernel_rfl!) (by kernel_rfl!) (by kernel_rfl!) hrm.lt ?_
  intro L h₁ tk₁ st
  exact br_body0N (lo := 0) (hi := items.length) st hl (Nat.zero_le _) rfl hsz hm (hcmp _ hrm.deeper) hQ
theorem br_call3 {n : Nat} {a : Addr} {x : Value} {items : List Value} {q : Nat → Bool} {lo : Nat} {Q : Value → Shared → Prop} {t1 : Tok}
    (kp : KeepR w h) (hrm : Rm (n + 1) A) (hl : h.IsList a items.toArray) (hle : lo ≤ items.length) (hsz : items.length < 2 ^ 62)
    (hm : Mono q lo items.length)
    (hcmp : ∀ A', Rm n A' → ∀ i v, items[i]? = some v → lo ≤ i → i < items.length → ∀ h' tk' (Q : Value → Shared → Prop), Ext h h' → (∀ h'' tk'', Ext h' h'' → Q (.bool (q i)) (Sh c h'' tk'')) → wpAny (MM w) A' (compareOp .Lt x v) Q NoE (Sh c h' tk'))
    (hQ : ∀ r t h' tk', Cut q lo items.length r → Ext h h' → Q (.int (r : Int) t) (Sh c h' tk')) :
    wpAny (MM w) A (call (.ref 53) [.ref a, x, .int (lo : Int) t1] []) Q E (Sh c h tk) := by
  refine enterN (body := bdyAt 7) (binds := [("a", .ref a), ("x", x), ("lo", .int (lo : Int) t1), ("hi", .none), ("key", .none)]) okBR rfl kp (bindsR kp 3 (by kernel_rfl!)) (by kernel_rfl!) (by kernel_rfl!) (by kernel_rfl!) hrm.lt ?_
  intro L h₁ tk₁ st
  exact br_body0N (lo := lo) (hi := items.length) st hl hle rfl hsz hm (hcmp _ hrm.deeper) hQ
theorem br_call4 {n : Nat} {a : Addr} {x : Value} {items : List Value} {q : Nat → Bool} {lo hi : Nat} {Q : Value → Shared → Prop} {t1 t2 : Tok}
    (kp : KeepR w h) (hrm : Rm (n + 1) A) (hl : h.IsList a items.toArray) (hle : lo ≤ hi) (hhi : hi ≤ items.length) (hsz : items.length < 2 ^ 62)
    (hm : Mono q lo hi)
    (hcmp : ∀ A', Rm n A' → ∀ i v, items[i]? = some v → lo ≤ i → i < hi → ∀ h' tk' (Q : Value → Shared → Prop), Ext h h' → (∀ h'' tk'', Ext h' h'' → Q (.bool (q i)) (Sh c h'' tk'')) → wpAny (MM w) A' (compareOp .Lt x v) Q NoE (Sh c h' tk'))
    (hQ : ∀ r t h' tk', Cut q lo hi r → Ext h h' → Q (.int (r : Int) t) (Sh c h' tk')) :
    wpAny (MM w) A (call (.ref 53) [.ref a, x, .int (lo : Int) t1, .int (hi : Int) t2] []) Q E (Sh c h tk) := by
  refine enterN (body := bdyAt 7) (binds := [("a", .ref a), ("x", x), ("lo", .int (lo : Int) t1), ("hi", .int (hi : Int) t2), ("key", .none)]) okBR rfl kp (bindsR kp 3 (by kernel_rfl!)) (by kernel_rfl!) (by kernel_rfl!) (by kernel_rfl!) hrm.lt ?_
  intro L h₁ tk₁ st
  exact br_body0I (lo := lo) (hi := hi) st hl hle hhi hsz hm (hcmp _ hrm.deeper) hQ
theorem br_callN4 {n : Nat} {a : Addr} {x : Value} {items : List Value} {q : Nat → Bool} {Q : Value → Shared → Prop} {t1 : Tok}
    (kp : KeepR w h) (hrm : Rm (n + 1) A) (hl : h.IsList a items.toArray) (hsz : items.length < 2 ^ 62)
    (hm : Mono q 0 items.length)
    (hcmp : ∀ A', Rm n A' → ∀ i v, items[i]? = some v → 0 ≤ i → i < items.length → ∀ h' tk' (Q : Value → Shared → Prop), Ext h h' → (∀ h'' tk'', Ext h' h'' → Q (.bool (q i)) (Sh c h'' tk'')) → wpAny (MM w) A' (compareOp .Lt x v) Q NoE (Sh c h' tk'))
    (hQ : ∀ r t h' tk', Cut q 0 items.length r → Ext h h' → Q (.int (r : Int) t) (Sh c h' tk')) :
    wpAny (MM w) A (call (.ref 53) [.ref a, x, .int 0 t1, .none] []) Q E (Sh c h tk) := by
  refine enterN (body := bdyAt 7) (binds := [("a", .ref a), ("x", x), ("lo", .int 0 t1), ("hi", .none), ("key", .none)]) okBR rfl kp (bindsR kp 3 (by kernel_rfl!)) (by kernel_rfl!) (by kernel_rfl!) (by kernel_rfl!) hrm.lt ?_
  intro L h₁ tk₁ st
  exact br_body0N (lo := 0) (hi := items.length) st hl (Nat.zero_le _) rfl hsz hm (hcmp _ hrm.deeper) hQ
theorem br_callK2 {n : Nat} {a : Addr} {kf : Addr} {KV : Nat → Value → Heap → Prop} {x : Value} {items : List Value} {q : Nat → Bool} {Q : Value → Shared → Prop}
    (kp : KeepR w h) (hrm : Rm (n + 1) A) (hl : h.IsList a items.toArray) (hsz : items.length < 2 ^ 62)
    (hm : Mono q 0 items.length)
    (hcan : ∃ o fd, h.get? kf = some o ∧ o.data = .func fd)
    (hkey : ∀ A', Rm n A' → ∀ i v, items[i]? = some v → 0 ≤ i → i < items.length → ∀ h' tk' (Q : Value → Shared → Prop), Ext h h' → (∀ kv h'' tk'', Ext h' h'' → KV i kv h'' → Q kv (Sh c h'' tk'')) → wpAny (MM w) A' (call (.ref kf) [v] []) Q NoE (Sh c h' tk'))
    (hcmp : ∀ A', Rm n A' → ∀ i kv, 0 ≤ i → i < items.length → ∀ h' tk' (Q : Value → Shared → Prop), Ext h h' → KV i kv h' → (∀ h'' tk'', Ext h' h'' → Q (.bool (q i)) (Sh c h'' tk'')) → wpAny (MM w) A' (compareOp .Lt x kv) Q NoE (Sh c h' tk'))
    (hQ : ∀ r t h' tk', Cut q 0 items.length r → Ext h h' → Q (.int (r : Int) t) (Sh c h' tk')) :
    wpAny (MM w) A (call (.ref 53) [.ref a, x] [("key", .ref kf)]) Q E (Sh c h tk) := by
  refine enterN (body := bdyAt 7) (binds := [("a", .ref a), ("x", x), ("lo", .int 0 242), ("hi", .none), ("key", .ref kf)]) okBR rfl kp (bindsR kp 3 (by kernel_rfl!)) (by kernel_rfl!) (by kernel_rfl!) (by kernel_rfl!) hrm.lt ?_
  intro L h₁ tk₁ st
  exact br_bodyKN (lo := 0) (hi := items.length) st hl (Nat.zero_le _) rfl hsz hm hcan (hkey _ hrm.deeper) (hcmp _ hrm.deeper) hQ
theorem br_callK4 {n : Nat} {a : Addr} {kf : Addr} {KV : Nat → Value → Heap → Prop} {x : Value} {items : List Value} {q : Nat → Bool} {Q : Value → Shared → Prop} {t1 : Tok}
    (kp : KeepR w h) (hrm : Rm (n + 1) A) (hl : h.IsList a items.toArray) (hsz : items.length < 2 ^ 62)
    (hm : Mono q 0 items.length)
    (hcan : ∃ o fd, h.get? kf = some o ∧ o.data = .func fd)
    (hkey : ∀ A', Rm n A' → ∀ i v, items[i]? = some v → 0 ≤ i → i < items.length → ∀ h' tk' (Q : Value → Shared → Prop), Ext h h' → (∀ kv h'' tk'', Ext h' h'' → KV i kv h'' → Q kv (Sh c h'' tk'')) → wpAny (MM w) A' (call (.ref kf) [v] []) Q NoE (Sh c h' tk'))
    (hcmp : ∀ A', Rm n A' → ∀ i kv, 0 ≤ i → i < items.length → ∀ h' tk' (Q : Value → Shared → Prop), Ext h h' → KV i kv h' → (∀ h'' tk'', Ext h' h'' → Q (.bool (q i)) (Sh c h'' tk'')) → wpAny (MM w) A' (compareOp .Lt x kv) Q NoE (Sh c h' tk'))
    (hQ : ∀ r t h' tk', Cut q 0 items.length r → Ext h h' → Q (.int (r : Int) t) (Sh c h' tk')) :
    wpAny (MM w) A (call (.ref 53) [.ref a, x, .int 0 t1, .none] [("key", .ref kf)]) Q E (Sh c h tk) := by
  refine enterN (body := bdyAt 7) (binds := [("a", .ref a), ("x", x), ("lo", .int 0 t1), ("hi", .none), ("key", .ref kf)]) okBR rfl kp (bindsR kp 3 (by kernel_rfl!)) (by kernel_rfl!) (by kernel_rfl!) (by kernel_rfl!) hrm.lt ?_
  intro L h₁ tk₁ st
  exact br_bodyKN (lo := 0) (hi := items.length) st hl (Nat.zero_le _) rfl hsz hm hcan (hkey _ hrm.deeper) (hcmp _ hrm.deeper) hQ
theorem bl_call2 {n : Nat} {a : Addr} {x : Value} {items : List Value} {q : Nat → Bool} {Q : Value → Shared → Prop}
    (kp : KeepR w h) (hrm : Rm (n + 1) A) (hl : h.IsList a items.toArray) (hsz : items.length < 2 ^ 62)
    (hm : Mono q 0 items.length)
    (hcmp : ∀ A', Rm n A' → ∀ i v, items[i]? = some v → 0 ≤ i → i < items.length → ∀ h' tk' (Q : Value → Shared → Prop), Ext h h' → (∀ h'' tk'', Ext h' h'' → Q (.bool (!q i)) (Sh c h'' tk'')) → wpAny (MM w) A' (compareOp .Lt v x) Q NoE (Sh c h' tk'))
    (hQ : ∀ r t h' tk', Cut q 0 items.length r → Ext h h' → Q (.int (r : Int) t) (Sh c h' tk')) :
    wpAny (MM w) A (call (.ref 71) [.ref a, x] []) Q E (Sh c h tk) := by
  refine enterN (body := bdyAt 9) (binds := [("a", .ref a), ("x", x), ("lo", .int 0 269), ("hi", .none), ("key", .none)]) okBL rfl kp (bindsR kp 3 (by kernel_rfl!)) (by kernel_rfl!) (by kernel_rfl!) (by kernel_rfl!) hrm.lt ?_
  intro L h₁ tk₁ st
  exact bl_body0N (lo := 0) (hi := items.length) st hl (Nat.zero_le _) rfl hsz hm (hcmp _ hrm.deeper) hQ
theorem bl_call3 {n : Nat} {a : Addr} {x : Value} {items : List Value} {q : Nat → Bool} {lo : Nat} {Q : Value → Shared → Prop} {t1 : Tok}
    (kp : KeepR w h) (hrm : Rm (n + 1) A) (hl : h.IsList a items.toArray) (hle : lo ≤ items.length) (hsz : items.length < 2 ^ 62)
    (hm : Mono q lo items.length)
    (hcmp : ∀ A', Rm n A' → ∀ i v, items[i]? = some v → lo ≤ i → i < items.length → ∀ h' tk' (Q : Value → Shared → Prop), Ext h h' → (∀ h'' tk'', Ext h' h'' → Q (.bool (!q i)) (Sh c h'' tk'')) → wpAny (MM w) A' (compareOp .Lt v x) Q NoE (Sh c h' tk'))
    (hQ : ∀ r t h' tk', Cut q lo items.length r → Ext h h' → Q (.int (r : Int) t) (Sh c h' tk')) :
    wpAny (MM w) A (call (.ref 71) [.ref a, x, .int (lo : Int) t1] []) Q E (Sh c h tk) := by
  refine enterN (body := bdyAt 9) (binds := [("a", .ref a), ("x", x), ("lo", .int (lo : Int) t1), ("hi", .none), ("key", .none)]) okBL rfl kp (bindsR kp 3 (by kernel_rfl!)) (by kernel_rfl!) (by kernel_rfl!) (by kernel_rfl!) hrm.lt ?_
  intro L h₁ tk₁ st
  exact bl_body0N (lo := lo) (hi := items.length) st hl hle rfl hsz hm (hcmp _ hrm.deeper) hQ
theorem bl_call4 {n : Nat} {a : Addr} {x : Value} {items : List Value} {q : Nat → Bool} {lo hi : Nat} {Q : Value → Shared → Prop} {t1 t2 : Tok}
    (kp : KeepR w h) (hrm : Rm (n + 1) A) (hl : h.IsList a items.toArray) (hle : lo ≤ hi) (hhi : hi ≤ items.length) (hsz : items.length < 2 ^ 62)
    (hm : Mono q lo hi)
    (hcmp : ∀ A', Rm n A' → ∀ i v, items[i]? = some v → lo ≤ i → i < hi → ∀ h' tk' (Q : Value → Shared → Prop), Ext h h' → (∀ h'' tk'', Ext h' h'' → Q (.bool (!q i)) (Sh c h'' tk'')) → wpAny (MM w) A' (compareOp .Lt v x) Q NoE (Sh c h' tk'))
    (hQ : ∀ r t h' tk', Cut q lo hi r → Ext h h' → Q (.int (r : Int) t) (Sh c h' tk')) :
    wpAny (MM w) A (call (.ref 71) [.ref a, x, .int (lo : Int) t1, .int (hi : Int) t2] []) Q E (Sh c h tk) := by
  refine enterN (body := bdyAt 9) (binds := [("a", .ref a), ("x", x), ("lo", .int (lo : Int) t1), ("hi", .int (hi : Int) t2), ("key", .none)]) okBL rfl kp (bindsR kp 3 (by kernel_rfl!)) (by kernel_rfl!) (by kernel_rfl!) (by kernel_rfl!) hrm.lt ?_
  intro L h₁ tk₁ st
  exact bl_body0I (lo := lo) (hi := hi) st hl hle hhi hsz hm (hcmp _ hrm.deeper) hQ
theorem bl_callK2 {n : Nat} {a : Addr} {kf : Addr} {KV : Nat → Value → Heap → Prop} {x : Value} {items : List Value} {q : Nat → Bool} {Q : Value → Shared → Prop}
    (kp : KeepR w h) (hrm : Rm (n + 1) A) (hl : h.IsList a items.toArray) (hsz : items.length < 2 ^ 62)
    (hm : Mono q 0 items.length)
    (hcan : ∃ o fd, h.get? kf = some o ∧ o.data = .func fd)
    (hkey : ∀ A', Rm n A' → ∀ i v, items[i]? = some v → 0 ≤ i → i < items.length → ∀ h' tk' (Q : Value → Shared → Prop), Ext h h' → (∀ kv h'' tk'', Ext h' h'' → KV i kv h'' → Q kv (Sh c h'' tk'')) → wpAny (MM w) A' (call (.ref kf) [v] []) Q NoE (Sh c h' tk'))
    (hcmp : ∀ A', Rm n A' → ∀ i kv, 0 ≤ i → i < items.length → ∀ h' tk' (Q : Value → Shared → Prop), Ext h h' → KV i kv h' → (∀ h'' tk'', Ext h' h'' → Q (.bool (!q i)) (Sh c h'' tk'')) → wpAny (MM w) A' (compareOp .Lt kv x) Q NoE (Sh c h' tk'))
    (hQ : ∀ r t h' tk', Cut q 0 items.length r → Ext h h' → Q (.int (r : Int) t) (Sh c h' tk')) :
    wpAny (MM w) A (call (.ref 71) [.ref a, x] [("key", .ref kf)]) Q E (Sh c h tk) := by
  refine enterN (body := bdyAt 9) (binds := [("a", .ref a), ("x", x), ("lo", .int 0 269), ("hi", .none), ("key", .ref kf)]) okBL rfl kp (bindsR kp 3 (by kernel_rfl!)) (by kernel_rfl!) (by kernel_rfl!) (by kernel_rfl!) hrm.lt ?_
  intro L h₁ tk₁ st
  exact bl_bodyKN (lo := 0) (hi := items.length) st hl (Nat.zero_le _) rfl hsz hm hcan (hkey _ hrm.deeper) (hcmp _ hrm.deeper) hQ
theorem bl_callK4 {n : Nat} {a : Addr} {kf : Addr} {KV : Nat → Value → Heap → Prop} {x : Value} {items : List Value} {q : Nat → Bool} {Q : Value → Shared → Prop} {t1 : Tok}
    (kp : KeepR w h) (hrm : Rm (n + 1) A) (hl : h.IsList a items.toArray) (hsz : items.length < 2 ^ 62)
    (hm : Mono q 0 items.length)
    (hcan : ∃ o fd, h.get? kf = some o ∧ o.data = .func fd)
    (hkey : ∀ A', Rm n A' → ∀ i v, items[i]? = some v → 0 ≤ i → i < items.length → ∀ h' tk' (Q : Value → Shared → Prop), Ext h h' → (∀ kv h'' tk'', Ext h' h'' → KV i kv h'' → Q kv (Sh c h'' tk'')) → wpAny (MM w) A' (call (.ref kf) [v] []) Q NoE (Sh c h' tk'))
    (hcmp : ∀ A', Rm n A' → ∀ i kv, 0 ≤ i → i < items.length → ∀ h' tk' (Q : Value → Shared → Prop), Ext h h' → KV i kv h' → (∀ h'' tk'', Ext h' h'' → Q (.bool (!q i)) (Sh c h'' tk'')) → wpAny (MM w) A' (compareOp .Lt kv x) Q NoE (Sh c h' tk'))
    (hQ : ∀ r t h' tk', Cut q 0 items.length r → Ext h h' → Q (.int (r : Int) t) (Sh c h' tk')) :
    wpAny (MM w) A (call (.ref 71) [.ref a, x, .int 0 t1, .none] [("key", .ref kf)]) Q E (Sh c h tk) := by
  refine enterN (body := bdyAt 9) (binds := [("a", .ref a), ("x", x), ("lo", .int 0 t1), ("hi", .none), ("key", .ref kf)]) okBL rfl kp (bindsR kp 3 (by kernel_rfl!)) (by kernel_rfl!) (by kernel_rfl!) (by kernel_rfl!) hrm.lt ?_
  intro L h₁ tk₁ st
  exact bl_bodyKN (lo := 0) (hi := items.length) st hl (Nat.zero_le _) rfl hsz hm hcan (hkey _ hrm.deeper) (hcmp _ hrm.deeper) hQ
end
end
section
noncomputable abbrev LO (items : List Value) (n : Nat) : Obj := { cls := .type "list", data := .seq items.toArray n }
noncomputable abbrev XM3 (w : World) (A : Around) (E : Value → Shared → Prop) (Q : Value → Shared → Prop) (fx : Value × List Value) (vs : List Value) (s : Shared) : Prop := CanCall fx.1 s ∧ wpAny (MM w) A (call fx.1 (fx.2 ++ vs) []) Q E s
noncomputable abbrev XM2 (w : World) (A : Around) (E : Value → Shared → Prop) (env : Env) (args : List Expr) (Q : Value → Shared → Prop) (fx : Value × List Value) (s : Shared) : Prop := wArgs w A env E args (XM3 w A E Q fx) s
noncomputable abbrev XM1 (w : World) (A : Around) (E : Value → Shared → Prop) (env : Env) (o : Expr) (name : Str) (args : List Expr) (Q : Value → Shared → Prop) (ov : Value) (s : Shared) : Prop := wpAny (MM w) A (getMethod ov name (importBound o env >>= fun r => Pure.pure (r.getD true))) (XM2 w A E env args Q) E s
section
variable {w : World} {env : Env} {A : Around} {E : Value → Shared → Prop} {c : Shared} {h : Heap} {tk : Nat}
theorem r_method {o : Expr} {name : Str} {apos pos : Pos} {args : List Expr} {Q : Value → Shared → Prop} (hp : args.all notStar = true)
    (he : eval (.Call (.Attribute o name apos) args [] pos) env = (eval o env >>= fun ov => standAt apos.atName >>= fun _ => holding [ov] (getMethod ov name (importBound o env >>= fun r => Pure.pure (r.getD true))) >>= fun fx => callWith pos fx.1 fx.2 (backTo pos (starEach args env)) []))
    (q : wpAny (MM w) A (eval o env) (XM1 w A E env o name args Q) E (Sh c h tk)) :
    wpAny (MM w) A (eval (.Call (.Attribute o name apos) args [] pos) env) Q E (Sh c h tk) := by
  rw [he]
  refine wpAny_bind (wpAny_mono q (fun ov s₁ h₁ => wpAny_bind (wpAny_standAt (wpAny_bind (wpAny_holding (wpAny_mono h₁ (fun fx s₂ h₂ => ?_) fun _ _ x => x))))) fun _ _ x => x)
  exact callWith_of (kws := []) hp rfl h₂
theorem r_expr {e : Expr} {p : Pos} {Q : Flow → Shared → Prop} (hi : interactive env = false) (hs : swapsWith e none p.line env = Pure.pure false) (q : wpAny (MM w) A (eval e env) (XK (Q .next)) E (Sh c h tk)) :
    wpAny (MM w) A (exec (.Expr e p) env) Q E (Sh c h tk) := wpAny_Expr_any q hi hs
theorem lo_isList {l : Addr} {items : List Value} {n : Nat} (hl : h.get? l = some (LO items n)) : h.IsList l items.toArray := ⟨_, hl, rfl, n, rfl⟩
theorem r_gmL {name : Str} {id : String} {pl : Sem Bool} {l : Addr} {items : List Value} {n : Nat} {Q : Value × List Value → Shared → Prop} (slot : Slot "list" name id) (hty : typeOf (.builtin id) = Pure.pure (.type "method_descriptor")) (hl : h.get? l = some (LO items n)) (q : Q (.builtin id, [.ref l]) (Sh c h tk)) :
    wpAny (MM w) A (getMethod (.ref l) name pl) Q E (Sh c h tk) :=
  getMethod_list_of slot hty (lo_isList hl) ⟨_, hl, rfl⟩ q
theorem sizeLine_eq : sizeLine = 16777216 := by decide +kernel
theorem fits_int {x : Int} (h0 : 0 ≤ x) (h : x < 2 ^ 62) : ¬ (!Builtin.List.listFitsIndex x) = true := by
  unfold Builtin.List.listFitsIndex
  rw [Bool.not_eq_true, Bool.not_eq_false', Bool.and_eq_true, decide_eq_true_eq, decide_eq_true_eq]
  (first | lia | omega)
theorem r_insert {l : Addr} {items : List Value} {n : Nat} {x : Int} {i : Nat} {t : Tok} {v : Value} {Q : Value → Shared → Prop} (hl : h.get? l = some (LO items n)) (hx : x = (i : Int)) (hi : i ≤ items.length) (hsz : items.length < 100000)
    (q : ∀ h' tk', Heap.SameBut l h h' → h'.get? l = some (LO (items.take i ++ v :: items.drop i) (n + 1)) → Q .none (Sh c h' tk')) : wpAny (MM w) A (call (.builtin "list.insert") [.ref l, .int x t, v] []) Q E (Sh c h tk) := by
  have h1 : ¬ (!Builtin.List.listFitsIndex x) = true := fits_int (by (first | lia | omega)) (by (first | lia | omega))
  have h2 : items.toArray.size ≤ sizeLine := by rw [sizeLine_eq, List.size_toArray]; (first | lia | omega)
  refine call_meets PySem.F.slot_list_insert ⟨_, hl, rfl⟩ PySem.F.entry_list_insert (PySem.F.args_list_insert_3 _ _ _) (AutoListH.list_insert_list_int_val_1 l items.toArray n x t v h1 h2) ⟨hl, ?_⟩
  refine q _ _ (Heap.SameBut.update ..) ?_
  rw [Heap.get?_update_self _ hl (by rfl)]
  have e1 : ¬ (x < 0) := by (first | lia | omega)
  have e2 : min x.toNat items.toArray.size = i := by rw [List.size_toArray]; (first | lia | omega)
  simp only [Obj.mapSeq, LO, if_neg e1, e2]
  have e3 : (items.toArray.extract 0 i).push v ++ items.toArray.extract i = (items.take i ++ v :: items.drop i).toArray := by
    rw [← Array.toList_inj]
    simp
    exact List.take_of_length_le (by simp)
  rw [e3]
  have e4 : ((items.take i ++ v :: items.drop i).toArray.size == items.toArray.size) = false := by
    rw [beq_eq_false_iff_ne, List.size_toArray, List.size_toArray, List.length_append, List.length_cons, List.length_take, List.length_drop]
    (first | lia | omega)
  rw [e4]
  rfl
end
end
section
noncomputable def fdIR : FuncData := { name := "insort_right", qualname := "insort_right", params := prmAt 6, body := .stmts (bdyAt 6), scope := scpAt 6, globals := 3, closure := [], defaults := .ref 36, kwdefaults := .ref 37, doc := .none, pyModule := .str "cpy313.bisect" 227, annotations := none, code := .ref 43, closureTuple := .none, builtins := 0 }
theorem okIR : FnOk 44 fdIR := ⟨fun P => ⟨oC_44 P, by kernel_rfl!, rfl⟩, fun P => ⟨43, oC_43 P, _, _, rfl, by kernel_rfl!, rfl, rfl⟩, by kernel_rfl!, by kernel_rfl!, by kernel_rfl!, rfl, rfl, rfl⟩
noncomputable def fdIL : FuncData := { name := "insort_left", qualname := "insort_left", params := prmAt 8, body := .stmts (bdyAt 8), scope := scpAt 8, globals := 3, closure := [], defaults := .ref 54, kwdefaults := .ref 55, doc := .none, pyModule := .str "cpy313.bisect" 227, annotations := none, code := .ref 61, closureTuple := .none, builtins := 0 }
theorem okIL : FnOk 62 fdIL := ⟨fun P => ⟨oC_62 P, by kernel_rfl!, rfl⟩, fun P => ⟨61, oC_61 P, _, _, rfl, by kernel_rfl!, rfl, rfl⟩, by kernel_rfl!, by kernel_rfl!, by kernel_rfl!, rfl, rfl, rfl⟩
section
variable {w : World} {A : Around} {E : Value → Shared → Prop} {c : Shared} {h : Heap} {tk : Nat}
theorem ir_call0 {n m : Nat} {a : Addr} {x : Value} {items : List Value} {q : Nat → Bool} {Q : Value → Shared → Prop}
    (kp : KeepR w h) (hrm : Rm (n + 2) A) (hl : h.get? a = some (LO items m)) (hsz : items.length < 100000)
    (hm : Mono q 0 items.length)
    (hcmp : ∀ A', Rm n A' → ∀ i v, items[i]? = some v → 0 ≤ i → i < items.length → ∀ h' tk' (Q : Value → Shared → Prop), Ext h h' → (∀ h'' tk'', Ext h' h'' → Q (.bool (q i)) (Sh c h'' tk'')) → wpAny (MM w) A' (compareOp .Lt x v) Q NoE (Sh c h' tk'))
    (hQ : ∀ r h2 h' tk', Cut q 0 items.length r → Ext h h2 → Heap.SameBut a h2 h' → h'.get? a = some (LO (items.take r ++ x :: items.drop r) (m + 1)) → Q .none (Sh c h' tk')) :
    wpAny (MM w) A (call (.ref 44) [.ref a, x] []) Q E (Sh c h tk) := by
  refine enterN (body := bdyAt 6) (binds := [("a", .ref a), ("x", x), ("lo", .int 0 229), ("hi", .none), ("key", .none)]) okIR rfl kp (bindsR kp 3 (by kernel_rfl!)) (by kernel_rfl!) (by kernel_rfl!) (by kernel_rfl!) hrm.lt ?_
  intro L h₁ tk₁ st
  refine r_cons ?_
  repeat' (walk_at "M.e")
  refine ⟨fun _ => ?_, fun e => absurd e (by decide)⟩
  repeat' (walk_at "M.e")
  refine can_f okBR (St.kph ‹_›) ?_
  refine br_callN4 (n := n) (q := q) (St.kph ‹_›) hrm.deeper (isList_ext (lo_isList hl) (St.keep ‹_›)) (by (first | lia | omega)) hm (fun A' r i v e a b h' tk' Q k qq => hcmp A' r i v e a b h' tk' Q (Ext.trans (St.keep ‹_›) k) qq) ?_
  intro r t h4 tk4 hcut k4
  have st4 := St.ext ‹St w (callEnv fdIR L 44) h _ [] [] _› k4
  repeat' (walk_at "M.e")
  refine r_expr (by kernel_rfl!) (by kernel_rfl!) ?_
  refine r_method (by kernel_rfl!) (by kernel_rfl!) ?_
  repeat' (walk_at "M.e")
  refine r_gmL PySem.F.slot_list_insert PySem.F.type_list_insert (St.keep ‹_› _ _ hl) ?_
  repeat' (walk_at "M.e")
  refine r_insert (St.keep ‹_› _ _ hl) rfl hcut.hi1 hsz ?_
  intro h5 tk5 hs5 hg5
  repeat' (walk_at "M.e")
  exact hQ r _ _ _ hcut (St.keep ‹_›) hs5 hg5
theorem ir_callK {n m : Nat} {a : Addr} {kf : Addr} {KV : Nat → Value → Heap → Prop} {KX : Value → Heap → Prop} {x : Value} {items : List Value} {q : Nat → Bool} {Q : Value → Shared → Prop}
    (kp : KeepR w h) (hrm : Rm (n + 2) A) (hl : h.get? a = some (LO items m)) (hsz : items.length < 100000)
    (hm : Mono q 0 items.length)
    (hcan : ∃ o fd, h.get? kf = some o ∧ o.data = .func fd)
    (hkx : ∀ A', Rm (n + 1) A' → ∀ h' tk' (Q : Value → Shared → Prop), Ext h h' → (∀ kv h'' tk'', Ext h' h'' → KX kv h'' → Q kv (Sh c h'' tk'')) → wpAny (MM w) A' (call (.ref kf) [x] []) Q NoE (Sh c h' tk'))
    (hkey : ∀ A', Rm n A' → ∀ i v, items[i]? = some v → 0 ≤ i → i < items.length → ∀ h' tk' (Q : Value → Shared → Prop), Ext h h' → (∀ kv h'' tk'', Ext h' h'' → KV i kv h'' → Q kv (Sh c h'' tk'')) → wpAny (MM w) A' (call (.ref kf) [v] []) Q NoE (Sh c h' tk'))
    (hcmp : ∀ A', Rm n A' → ∀ i kx kv, 0 ≤ i → i < items.length → ∀ h₀ h' tk' (Q : Value → Shared → Prop), Ext h h₀ → KX kx h₀ → Ext h₀ h' → KV i kv h' → (∀ h'' tk'', Ext h' h'' → Q (.bool (q i)) (Sh c h'' tk'')) → wpAny (MM w) A' (compareOp .Lt kx kv) Q NoE (Sh c h' tk'))
    (hQ : ∀ r h2 h' tk', Cut q 0 items.length r → Ext h h2 → Heap.SameBut a h2 h' → h'.get? a = some (LO (items.take r ++ x :: items.drop r) (m + 1)) → Q .none (Sh c h' tk')) :
    wpAny (MM w) A (call (.ref 44) [.ref a, x] [("key", .ref kf)]) Q E (Sh c h tk) := by
  refine enterN (body := bdyAt 6) (binds := [("a", .ref a), ("x", x), ("lo", .int 0 229), ("hi", .none), ("key", .ref kf)]) okIR rfl kp (bindsR kp 3 (by kernel_rfl!)) (by kernel_rfl!) (by kernel_rfl!) (by kernel_rfl!) hrm.lt ?_
  intro L h₁ tk₁ st
  refine r_cons ?_
  repeat' (walk_at "M.e")
  refine ⟨fun e => absurd e (by decide), fun _ => ?_⟩
  repeat' (walk_at "M.e")
  refine ⟨let ⟨o, fd, ho, hd⟩ := hcan; ⟨o, fd, St.keep ‹_› _ _ ho, hd⟩, ?_⟩
  refine hkx _ (hrm.deeper) _ _ _ (St.keep ‹_›) ?_
  intro kx h3 tk3 k3 hKX
  have st3 := St.ext ‹St w (callEnv fdIR L 44) h _ [] [] _› k3
  repeat' (walk_at "M.e")
  refine can_f okBR (St.kph ‹_›) ?_
  refine br_callK4 (n := n) (q := q) (KV := KV) (St.kph ‹_›) hrm.deeper (isList_ext (lo_isList hl) (St.keep ‹_›)) (by (first | lia | omega)) hm (let ⟨o, fd, ho, hd⟩ := hcan; ⟨o, fd, St.keep ‹_› _ _ ho, hd⟩)
    (fun A' r i v e a b h' tk' Q k qq => hkey A' r i v e a b h' tk' Q (Ext.trans (St.keep ‹_›) k) qq)
    (fun A' r i kv a b h' tk' Q k hv qq => hcmp A' r i _ kv a b _ h' tk' Q (St.keep ‹_›) hKX k hv qq) ?_
  intro r t h4 tk4 hcut k4
  have st4 := St.ext ‹St w (callEnv fdIR L 44) h _ [] [] _› k4
  repeat' (walk_at "M.e")
  refine r_expr (by kernel_rfl!) (by kernel_rfl!) ?_
  refine r_method (by kernel_rfl!) (by kernel_rfl!) ?_
  repeat' (walk_at "M.e")
  refine r_gmL PySem.F.slot_list_insert PySem.F.type_list_insert (St.keep ‹_› _ _ hl) ?_
  repeat' (walk_at "M.e")
  refine r_insert (St.keep ‹_› _ _ hl) rfl hcut.hi1 hsz ?_
  intro h5 tk5 hs5 hg5
  repeat' (walk_at "M.e")
  exact hQ r _ _ _ hcut (St.keep ‹_›) hs5 hg5
theorem il_callK {n m : Nat} {a : Addr} {kf : Addr} {KV : Nat → Value → Heap → Prop} {KX : Value → Heap → Prop} {x : Value} {items : List Value} {q : Nat → Bool} {Q : Value → Shared → Prop}
    (kp : KeepR w h) (hrm : Rm (n + 2) A) (hl : h.get? a = some (LO items m)) (hsz : items.length < 100000)
    (hm : Mono q 0 items.length)
    (hcan : ∃ o fd, h.get? kf = some o ∧ o.data = .func fd)
    (hkx : ∀ A', Rm (n + 1) A' → ∀ h' tk' (Q : Value → Shared → Prop), Ext h h' → (∀ kv h'' tk'', Ext h' h'' → KX kv h'' → Q kv (Sh c h'' tk'')) → wpAny (MM w) A' (call (.ref kf) [x] []) Q NoE (Sh c h' tk'))
    (hkey : ∀ A', Rm n A' → ∀ i v, items[i]? = some v → 0 ≤ i → i < items.length → ∀ h' tk' (Q : Value → Shared → Prop), Ext h h' → (∀ kv h'' tk'', Ext h' h'' → KV i kv h'' → Q kv (Sh c h'' tk'')) → wpAny (MM w) A' (call (.ref kf) [v] []) Q NoE (Sh c h' tk'))
    (hcmp : ∀ A', Rm n A' → ∀ i kx kv, 0 ≤ i → i < items.length → ∀ h₀ h' tk' (Q : Value → Shared → Prop), Ext h h₀ → KX kx h₀ → Ext h₀ h' → KV i kv h' → (∀ h'' tk'', Ext h' h'' → Q (.bool (!q i)) (Sh c h'' tk'')) → wpAny (MM w) A' (compareOp .Lt kv kx) Q NoE (Sh c h' tk'))
    (hQ : ∀ r h2 h' tk', Cut q 0 items.length r → Ext h h2 → Heap.SameBut a h2 h' → h'.get? a = some (LO (items.take r ++ x :: items.drop r) (m + 1)) → Q .none (Sh c h' tk')) :
    wpAny (MM w) A (call (.ref 62) [.ref a, x] [("key", .ref kf)]) Q E (Sh c h tk) := by
  refine enterN (body := bdyAt 8) (binds := [("a", .ref a), ("x", x), ("lo", .int 0 256), ("hi", .none), ("key", .ref kf)]) okIL rfl kp (bindsR kp 3 (by kernel_rfl!)) (by kernel_rfl!) (by kernel_rfl!) (by kernel_rfl!) hrm.lt ?_
  intro L h₁ tk₁ st
  refine r_cons ?_
  repeat' (walk_at "M.e")
  refine ⟨fun e => absurd e (by decide), fun _ => ?_⟩
  repeat' (walk_at "M.e")
  refine ⟨let ⟨o, fd, ho, hd⟩ := hcan; ⟨o, fd, St.keep ‹_› _ _ ho, hd⟩, ?_⟩
  refine hkx _ (hrm.deeper) _ _ _ (St.keep ‹_›) ?_
  intro kx h3 tk3 k3 hKX
  have st3 := St.ext ‹St w (callEnv fdIL L 62) h _ [] [] _› k3
  repeat' (walk_at "M.e")
  refine can_f okBL (St.kph ‹_›) ?_
  refine bl_callK4 (n := n) (q := q) (KV := KV) (St.kph ‹_›) hrm.deeper (isList_ext (lo_isList hl) (St.keep ‹_›)) (by (first | lia | omega)) hm (let ⟨o, fd, ho, hd⟩ := hcan; ⟨o, fd, St.keep ‹_› _ _ ho, hd⟩)
    (fun A' r i v e a b h' tk' Q k qq => hkey A' r i v e a b h' tk' Q (Ext.trans (St.keep ‹_›) k) qq)
    (fun A' r i kv a b h' tk' Q k hv qq => hcmp A' r i _ kv a b _ h' tk' Q (St.keep ‹_›) hKX k hv qq) ?_
  intro r t h4 tk4 hcut k4
  have st4 := St.ext ‹St w (callEnv fdIL L 62) h _ [] [] _› k4
  repeat' (walk_at "M.e")
  refine r_expr (by kernel_rfl!) (by kernel_rfl!) ?_
  refine r_method (by kernel_rfl!) (by kernel_rfl!) ?_
  repeat' (walk_at "M.e")
  refine r_gmL PySem.F.slot_list_insert PySem.F.type_list_insert (St.keep ‹_› _ _ hl) ?_
  repeat' (walk_at "M.e")
  refine r_insert (St.keep ‹_› _ _ hl) rfl hcut.hi1 hsz ?_
  intro h5 tk5 hs5 hg5
  repeat' (walk_at "M.e")
  exact hQ r _ _ _ hcut (St.keep ‹_›) hs5 hg5
end
end
section
theorem udeNew : ExcNewFacts "UnicodeDecodeError" "UnicodeDecodeError.__new__" where
  ends := by decide +kernel
  owner := by decide +kernel
  entry := entryFor_alias (id' := "BaseException.__new__") (by rw [fastTable_eq_tree]; kernel_rfl) (by first | rfl | decide +kernel) (by decide +kernel) (by rw [fastTable_eq_tree]; kernel_rfl)
  sub := by rw [isSubtype_type]; kernel_rfl
  notAttr := by rw [isSubtype_type]; kernel_rfl
  notName := by rw [isSubtype_type]; kernel_rfl
  made := by kernel_rfl
theorem udeNotType : (Value.type "UnicodeDecodeError" == Value.type "type") = false := by decide +kernel
theorem udeCanMake : ((Manifest.find? "UnicodeDecodeError").bind fun x => List.findSome? (fun t => (Manifest.find? t).bind fun b =>
    if b.noNew = true then some true else if (b.attrs.any fun x => x.fst == "__new__") = true then some false else none) x.mro).getD false = false := by kernel_rfl
theorem udeVector (args : Args) : checkTypeCall "UnicodeDecodeError" args = Pure.pure () := by kernel_rfl
theorem udeMro : mroOf (.type "UnicodeDecodeError") = Pure.pure [.type "UnicodeDecodeError", .type "UnicodeError", .type "ValueError", .type "Exception", .type "BaseException", .type "object"] := by rw [mroOf_type]; kernel_rfl
theorem udeMadeBy : Bind.madeBy (.type "UnicodeDecodeError") = Pure.pure (some "UnicodeDecodeError.__new__") := by kernel_rfl
theorem udeNewOk (rest : List Value) : checkBuiltinCall "UnicodeDecodeError.__new__" ⟨.type "UnicodeDecodeError" :: rest, []⟩ = Pure.pure () := by kernel_rfl
theorem udeInit : Slot "UnicodeDecodeError" "__init__" "UnicodeDecodeError.__init__" := .of (owner := "UnicodeDecodeError") (n := "__init__") (by rw [typeLookup_type, builtinLookup_eq_fast]; kernel_rfl) (by decide +kernel) (by decide +kernel) (by decide +kernel)
    (by first | exact .inl (by decide +kernel) | exact .inr (by decide +kernel)) (by rw [isSubtype_type]; kernel_rfl)
theorem udeEntry : entryFor table "UnicodeDecodeError.__init__" = some Builtin.«UnicodeDecodeError.__init__» := by first | exact entryFor_of_fast (by kernel_rfl) | exact entryFor_of_tree (by kernel_rfl)
theorem udeSplit : splitId "UnicodeDecodeError.__init__" = some ("UnicodeDecodeError", "__init__") := by kernel_rfl
theorem udeKind : builtinKind "UnicodeDecodeError.__init__" = some .slot := by kernel_rfl
theorem udeRow : Manifest.signature? "UnicodeDecodeError.__init__" = some ⟨.hand, "wrapper __init__", "", .self, []⟩ := by kernel_rfl
theorem udeIsExc : isSubtype (.type "UnicodeDecodeError") (.type "BaseException") = Pure.pure true := by rw [isSubtype_type]; kernel_rfl
theorem udeMeta : (Value.type ((Manifest.find? "UnicodeDecodeError").elim "type" fun x => x.metatype) == Value.type "type") = true := by kernel_rfl
theorem udeNotTuple : isSubtype (.type ((Manifest.find? "UnicodeDecodeError").elim "type" fun x => x.metatype)) (.type "tuple") = Pure.pure false := by
  rw [show ((Manifest.find? "UnicodeDecodeError").elim "type" fun x => x.metatype) = "type" from by kernel_rfl, isSubtype_type]; kernel_rfl
theorem udeSelf : isSubtype (.type "UnicodeDecodeError") (.type "UnicodeDecodeError") = Pure.pure true := by rw [isSubtype_type]; kernel_rfl
end
section
open Sem (wp)
noncomputable def badIds : List String := ["bytearray.__contains__", "bytearray.__mod__", "bytearray.__rmod__", "_struct.pack_into.held", "bytearray.find.held"] ++ Builtin.Bytes.decodersThatHold
noncomputable def badCode (c : Code) : Bool := match c with | .builtin id _ => badIds.contains id | _ => false
noncomputable def Clean (Γ : Ctx) : Prop := badCode Γ.code = false ∧ ∀ x ∈ Γ.below, badCode x.1 = false
theorem Clean.enter {Γ : Ctx} {c : Code} {hd : Option Value} {p : Pos} (h : Clean Γ) (hc : badCode c = false) : Clean (Γ.enter c hd p) :=
  ⟨hc, fun x hx => by rcases List.mem_cons.mp hx with rfl | hx; exact h.1; exact h.2 x hx⟩
theorem Clean.goto {Γ : Ctx} {c : Code} (h : Clean Γ) (hc : badCode c = false) : Clean (Γ.goto c) := ⟨hc, h.2⟩
noncomputable def wpC {α : Type} (M : Model) (A : Around) (t : Sem α) (Q : α → Shared → Prop) (E : Value → Shared → Prop) (s : Shared) : Prop :=
  ∀ Γ p, Γ.In A → Clean Γ → wp M Γ t (fun a _ s' => Q a s') (fun e _ s' => E e s') p s
noncomputable def codeC (M : Model) (A : Around) (c : Code) (R : Result → Shared → Prop) (s : Shared) : Prop :=
  ∀ Γ p, Γ.code = c → Γ.Below A → Clean Γ → wpCode M Γ R p s
section
variable {α β : Type} {M : Model} {A : Around} {E E' : Value → Shared → Prop} {s : Shared}
theorem wpC_of {t : Sem α} {Q : α → Shared → Prop} (h : wpAny M A t Q E s) : wpC M A t Q E s := fun Γ p hΓ _ => h Γ p hΓ
theorem wpC_mono {t : Sem α} {Q Q' : α → Shared → Prop} (h : wpC M A t Q E s) (hQ : ∀ a s, Q a s → Q' a s) (hE : ∀ e s, E e s → E' e s) : wpC M A t Q' E' s :=
  fun Γ p hΓ hc => Sem.wp_mono M Γ t (fun a _ s => hQ a s) (fun e _ s => hE e s) p s (h Γ p hΓ hc)
theorem wpC_bind {m : Sem α} {f : α → Sem β} {Q : β → Shared → Prop} (h : wpC M A m (fun a s' => wpC M A (f a) Q E s') E s) : wpC M A (m >>= f) Q E s := fun Γ p hΓ hc => by
  rw [Sem.wp_bind']
  exact Sem.wp_mono M Γ m (fun a p' s' h' => h' Γ p' hΓ hc) (fun _ _ _ h' => h') p s (h Γ p hΓ hc)
theorem wpC_pure {a : α} {Q : α → Shared → Prop} (h : Q a s) : wpC M A (Pure.pure a : Sem α) Q E s := wpC_of (wpAny_pure h)
theorem wpC_holding {vs : List Value} {m : Sem α} {Q : α → Shared → Prop} (h : wpC M A m Q E s) : wpC M A (holding vs m) Q E s := fun Γ p hΓ hc => by
  rw [Sem.wp_holding]; exact h Γ p hΓ hc
theorem wpC_keep {vs : List Value} {m : Sem α} {Q : α → Shared → Prop} (h : wpC M A m Q E s) : wpC M A (m.keep vs) Q E s := fun Γ p hΓ hc => by
  rw [Sem.wp_keep]; exact h Γ p hΓ hc
theorem wpC_onRaise {m : Sem α} {k : Value → Sem Unit} {Q : α → Shared → Prop} (h : wpC M A m Q (fun e s' => wpC M A (k e) (fun _ s'' => E e s'') E s') s) : wpC M A (m.onRaise k) Q E s := fun Γ p hΓ hc => by
  rw [Sem.wp_onRaise]
  exact Sem.wp_mono M Γ m (fun _ _ _ h' => h') (fun e p' s' h' => h' Γ p' hΓ hc) p s (h Γ p hΓ hc)
theorem codeC_of_tree {c : Code} {R : Result → Shared → Prop}
    (h : wpC M (A.under c) (M.den c) (fun fin s' => match fin with | .done f => R (.ok f) s' | .again c' => c'.quiet = true ∧ badCode c' = false ∧ codeC M A c' R s') (fun e s' => R (.error e) s') s) : codeC M A c R s := fun Γ p hc hΓ hcl => by
  rw [wpCode_iff_wp, hc]
  refine Sem.wp_mono M Γ _ (fun fin p' s' h' => ?_) (fun _ _ _ h' => h') p s (h Γ p (hc ▸ hΓ.in) hcl)
  cases fin with
  | done f => exact h'
  | again c' => exact ⟨h'.1, h'.2.2 (Γ.goto c') p' rfl (hΓ.goto c') (hcl.goto h'.2.1)⟩
theorem wpC_run {c : Code} {Q : Flow → Shared → Prop} (hb : badCode c = false) (hc : codeC M A c (fun r s' => match r with | .ok f => Q f s' | .error e => E e s') s) : wpC M A (run c none) Q E s :=
  fun Γ p hΓ hcl => by rw [Sem.wp_run]; exact hc _ p rfl (hΓ.enter c none p (by intro x; cases x)) (hcl.enter hb)
theorem wpC_runValue {c : Code} {Q : Value → Shared → Prop} (hb : badCode c = false) (hc : codeC M A c (fun r s' => match r with | .ok (.ret v) => Q v s' | .ok _ => False | .error e => E e s') s) :
    wpC M A (runValue c) Q E s := fun Γ p hΓ hcl => by rw [Sem.wp_runValue]; exact hc _ p rfl (hΓ.enter c none p (by intro x; cases x)) (hcl.enter hb)
theorem wpC_callFn {f : Addr} {pos : List Value} {kw : List (Str × Value)} {Q : Value → Shared → Prop}
    (hc : codeC M A (.call (.ref f) ⟨pos, kw⟩) (fun r s' => match r with | .ok (.ret v) => Q v s' | .ok _ => False | .error e => E e s') s) : wpC M A (call (.ref f) pos kw) Q E s := wpC_runValue rfl hc
theorem codeC_loop {c : Code} {R : Result → Shared → Prop} (hq : c.quiet = true) (hb : badCode c = false) (I : Nat → Shared → Prop)
    (turn : ∀ n s, I n s → wpC M (A.under c) (M.den c) (fun fin s' => match fin with | .done f => R (.ok f) s' | .again c' => (c' = c ∧ ∃ m, m < n ∧ I m s') ∨ (c'.quiet = true ∧ badCode c' = false ∧ codeC M A c' R s')) (fun e s' => R (.error e) s') s)
    (n : Nat) (h : I n s) : codeC M A c R s := by
  induction n using Nat.strongRecOn generalizing s with
  | ind n ih =>
    refine codeC_of_tree (wpC_mono (turn n s h) (fun fin s' hf => ?_) fun _ _ h' => h')
    cases fin with
    | done f => exact hf
    | again c' =>
      rcases hf with ⟨rfl, m, hm, hI⟩ | hf
      · exact ⟨hq, hb, ih m hm hI⟩
      · exact hf
end
section
variable {w : World} {env : Env} {A : Around} {E : Value → Shared → Prop} {c : Shared} {h : Heap} {tk : Nat}
theorem codeC_func {body : List Stmt} {R : Result → Shared → Prop} {s : Shared}
    (q : wpC (MM w) (A.deeper env) (execs body env) (fun f s' => R (.ok (.ret (retV f))) s') NoE s) : codeC (MM w) A (.func body env) R s := by
  refine codeC_of_tree ?_
  show wpC _ (A.deeper env) (do point; match ← (execs body env).onRaise (leaving env) with | .ret v => ret v | _ => ret .none) _ _ s
  refine wpC_bind (wpC_of (wpAny_point (wpC_bind (wpC_onRaise (wpC_mono q (fun f s' h' => ?_) fun _ _ h' => h'.elim)))))
  cases f <;> exact wpC_pure h'
theorem wpC_callDef {fd : FuncData} {a : Addr} {body : List Stmt} {pos : List Value} {kw : List (Str × Value)} {binds : List (Str × Value)} {Q : Value → Shared → Prop} (ok : FnOk a fd) (hb : fd.body = .stmts body) (kp : KeepR w h) (hbind : BindsTo (Sh c h tk) fd ⟨pos, kw⟩ binds) (hd : A.depth < 900)
    (q : wpAny (MM w) A.in1 (newFunctionEnv fd.scope fd.globals fd.closure binds (fd.qualname ++ ".<locals>.") (some a) fd.code none fd.builtins) (fun env s₂ => s₂.heap.NoLimit ∧ wpC (MM w) (A.deeper env) (execs body env) (fun f s' => Q (retV f) s') NoE s₂) E (Sh c h tk)) :
    wpC (MM w) A (call (.ref a) pos kw) Q E (Sh c h tk) := by
  obtain ⟨⟨c1, c2, c3, c4⟩, ho, hdat⟩ := ok.get w.params
  cases hdat
  refine wpC_callFn (codeC_of_tree (wpC_bind (m := load a) (wpC_of (wpAny_load (kp _ _ ho) ?_))))
  obtain ⟨cc, oc, vs, tq, hc, hoc, hdc, hq⟩ := (ok.code w.params).keeps kp
  show wpC (MM w) A.in1 (callFunction a fd ⟨pos, kw⟩) _ _ _
  delta callFunction
  rw [ok.co, ok.gen, hb]
  rw [hc] at q ⊢
  refine wpC_bind (m := field (.ref cc) 1) (wpC_of (wpAny_field hoc hdc hq (wpC_bind (wpC_pure ?_))))
  refine wpC_bind (wpC_of (hbind _ _ _ _ (wpC_bind (wpC_of ?_))))
  refine wpAny_mono q (fun env s₂ h₂ => ?_) fun _ _ x => x
  exact wpC_bind (wpC_of (wpAny_enterFrame h₂.1 (by show A.depth < recursionLimit; have : recursionLimit = 1000 := rfl; (first | lia | omega)) (wpC_pure ⟨rfl, rfl, codeC_func h₂.2⟩)))
theorem fresh_none : h.get? h.objs.size = none := by
  cases e : h.get? h.objs.size with
  | none => rfl
  | some o => exact absurd (Heap.lt_size e) (Nat.lt_irrefl _)
theorem enterC {fd : FuncData} {a : Addr} {body : List Stmt} {pos : List Value} {kw : List (Str × Value)} {binds : List (Str × Value)} {Q : Value → Shared → Prop} (ok : FnOk a fd) (hb : fd.body = .stmts body) (kp : KeepR w h) (hbind : BindsTo (Sh c h tk) fd ⟨pos, kw⟩ binds)
    (hcell : (fd.scope.names.all fun x => x.2 != .cell) = true) (hloc : (binds.all fun x => fd.scope.names.lookup x.1 == some .local) = true) (hnd : keyB binds = true) (hd : A.depth < 900)
    (k : ∀ L h₁ tk₁, St w (callEnv fd L a) h binds [] [] h₁ → wpC (MM w) (A.deeper (callEnv fd L a)) (execs body (callEnv fd L a)) (fun f s' => Q (retV f) s') NoE (Sh c h₁ tk₁)) :
    wpC (MM w) A (call (.ref a) pos kw) Q E (Sh c h tk) := by
  refine wpC_callDef ok hb kp hbind hd (wpAny_newFunctionEnv (fun x hx => bne_iff_ne.mp (List.all_eq_true.mp hcell x hx)) (fun x hx => eq_of_beq (List.all_eq_true.mp hloc x hx)) (fun h₁ hns hsb => ?_) ok.kind)
  have hk : Ext h h₁ := fun b o e => hsb.extBut b o (Nat.ne_of_lt (Heap.lt_size e)) (Heap.get?_push_of_some _ e)
  refine ⟨((hh_nolimit w.params).keeps kp).fresh _ hsb, k h.objs.size h₁ _ ⟨kp, hk, ok.kind, ok.glob, ok.blt, ⟨_, hns, fun p hp => lookup_of_mem (List.mem_reverse.mpr hp) ?_⟩, keyB_nd hnd, fresh_none, fun _ hp => (nomatch hp), List.nodup_cons.mpr ⟨List.not_mem_nil, .nil⟩, fun _ hr => (nomatch hr)⟩⟩
  rw [List.map_reverse]
  exact List.pairwise_reverse.mpr (List.Pairwise.imp (fun h e => h e.symm) (keyB_nd hnd))
end
end
section
theorem slot_ba_append : Slot "bytearray" "append" "bytearray.append" :=
  .of (owner := "bytearray") (n := "append") (by rw [typeLookup_type, builtinLookup_eq_fast]; kernel_rfl) (by decide +kernel) (by decide +kernel) (by decide +kernel)
    (by first | exact .inl (by decide +kernel) | exact .inr (by decide +kernel)) (by rw [isSubtype_type]; kernel_rfl)
theorem type_ba_append : typeOf (.builtin "bytearray.append") = Pure.pure (.type "method_descriptor") := by show builtinType _ = _; rw [builtinType_eq_fast]; kernel_rfl
theorem entry_ba_append : entryFor table "bytearray.append" = some Builtin.«bytearray.append» := entryFor_of_tree (by kernel_rfl)
theorem plainAttrs_ba : PlainAttrs "bytearray" :=
  ⟨⟨"bytearray.__getattribute__", by rw [typeLookup_type, builtinLookup_eq_fast]; kernel_rfl, by decide +kernel⟩, by rw [typeLookup_type, builtinLookup_eq_fast]; kernel_rfl⟩
theorem owner_ba : Manifest.owners.lookup (String.ofList ['y', 'a', 'r', 'r', 'a', 'e', 't', 'y', 'b'].reverse) = some Manifest.sig_bytearray := by kernel_rfl
theorem args_ba_append (a b : Value) : argsOk "bytearray.append" ⟨[a, b], []⟩ := by
  unfold argsOk; rw [signature?_of (id := "bytearray.append") (n := ['d', 'n', 'e', 'p', 'p', 'a']) (o := ['y', 'a', 'r', 'r', 'a', 'e', 't', 'y', 'b']) (by kernel_rfl) owner_ba]; kernel_rfl
noncomputable abbrev BA (b : Array UInt8) : Obj := { cls := .type "bytearray", data := .bytearray b 0 }
section
variable {w : World} {env : Env} {A : Around} {E : Value → Shared → Prop} {c : Shared} {h : Heap} {tk : Nat}
theorem codeC_call_builtin {id : String} {args : Args} {b : Builtin} {R : Result → Shared → Prop} {s : Shared} (hq : plainId id = true) (hbad : badIds.contains id = false) (hb : entryFor table id = some b)
    (h : wpAny (MM w) A.in1 (checkBuiltinCall id args) (fun _ s₁ => wpC (MM w) A.in1 (b args)
      (fun fin s' => match fin with | .done f => R (.ok f) s' | .again c' => c'.quiet = true ∧ badCode c' = false ∧ codeC (MM w) A c' R s') (fun e s' => R (.error e) s') s₁)
      (fun e s' => R (.error e) s') s) : codeC (MM w) A (.call (.builtin id) args) R s := by
  refine codeC_of_tree ?_
  show wpC _ A.in1 (do checkBuiltinCall id args; again (.builtin id args)) _ _ s
  refine wpC_bind (wpC_mono (wpC_of h) (fun _ s₁ h₁ => wpC_pure (And.intro (plainId_quiet hq args) (And.intro hbad (codeC_of_tree ?_)))) fun _ _ h' => h')
  rw [Around.under_plainId hq args]
  show wpC _ _ (match entryFor table id with | some b => b args | none => unsupported ((withoutEnding? id "#data").getD id)) _ _ s₁
  rw [hb]; exact h₁
noncomputable def exF (v : Value) : Code × Pos → Bool
    | (.builtin "bytearray.__contains__" ⟨v' :: _, _⟩, _) | (.builtin "bytearray.__mod__" ⟨v' :: _, _⟩, _)
    | (.builtin "bytearray.__rmod__" ⟨_ :: v' :: _, _⟩, _) | (.builtin "_struct.pack_into.held" ⟨v' :: _, _⟩, _) => Builtin.Bytes.sameRef v' v
    | (.builtin "bytearray.find.held" ⟨_ :: _ :: held, _⟩, _) => held.any (Builtin.Bytes.sameRef v)
    | (.builtin id ⟨v' :: _, _⟩, _) => Builtin.Bytes.sameRef v' v && Builtin.Bytes.decodersThatHold.contains id
    | _ => false
theorem exported_eq (v : Value) : Builtin.Bytes.exported v = (stack >>= fun st => Pure.pure (st.any (exF v))) := rfl
theorem exF_clean {x : Code × Pos} (v : Value) (h : badCode x.1 = false) : exF v x = false := by
  obtain ⟨cd, p⟩ := x
  cases cd with
  | builtin id args =>
    have hb : badIds.contains id = false := h
    clear h
    have hd : Builtin.Bytes.decodersThatHold.contains id = false := by
      cases hx : Builtin.Bytes.decodersThatHold.contains id with
      | false => rfl
      | true =>
        have : badIds.contains id = true := by
          unfold badIds
          rw [List.contains_iff_mem] at hx ⊢
          exact List.mem_append_right _ hx
        rw [this] at hb; exact hb
    have n : ∀ l, badIds.contains l = true → ¬ id = l := fun l hl e => by rw [e, hl] at hb; cases hb
    obtain ⟨l, kw⟩ := args
    delta exF exF.match_1
    refine (dif_neg (n _ (by decide +kernel))).trans ((dif_neg (n _ (by decide +kernel))).trans ((dif_neg (n _ (by decide +kernel))).trans ((dif_neg (n _ (by decide +kernel))).trans ((dif_neg (n _ (by decide +kernel))).trans ?_))))
    cases l with
    | nil => rfl
    | cons a r => show (Builtin.Bytes.sameRef a v && Builtin.Bytes.decodersThatHold.contains id) = false; rw [hd, Bool.and_false]
  | _ => rfl
theorem c_exported {v : Value} {Q : Bool → Shared → Prop} {s : Shared} (q : Q false s) : wpC (MM w) A (Builtin.Bytes.exported v) Q E s := fun Γ p hΓ hc => by
  rw [exported_eq]
  show Q (((Γ.code, p) :: Γ.below).any (exF v)) s
  have : ((Γ.code, p) :: Γ.below).any (exF v) = false := by
    rw [List.any_eq_false]
    intro x hx
    rw [Bool.not_eq_true]
    rcases List.mem_cons.mp hx with rfl | hx
    · exact exF_clean v hc.1
    · exact exF_clean v (hc.2 x hx)
  rw [this]; exact q
theorem c_checkResize {l : Addr} {b : Array UInt8} {Q : Unit → Shared → Prop} (hl : h.get? l = some (BA b)) (q : Q () (Sh c h tk)) : wpC (MM w) A (Builtin.Bytes.checkResize (.ref l)) Q E (Sh c h tk) := by
  unfold Builtin.Bytes.checkResize
  show wpC (MM w) A ((Builtin.Bytes.exported (.ref l) <||> (do return (← Builtin.Bytes.exportsOf (.ref l)) > 0)) >>= _) Q E _
  refine wpC_bind ?_
  show wpC (MM w) A (Builtin.Bytes.exported (.ref l) >>= _) _ E _
  refine wpC_bind (c_exported (wpC_of ?_))
  refine wpAny_bind (m := Builtin.Bytes.exportsOf (.ref l)) (wpAny_bind (wpAny_load hl (wpAny_pure (wpAny_pure (wpC_pure q)))))
theorem wpAny_updateBytearray {l : Addr} {b : Array UInt8} {f : Array UInt8 → Array UInt8} {Q : Unit → Shared → Prop} (hl : h.get? l = some (BA b)) (hsz : (f b).size ≤ sizeLine)
    (q : ∀ h', Heap.SameBut l h h' → h'.get? l = some (BA (f b)) → Q () (Sh c h' tk)) : wpAny (MM w) A (updateBytearray l f) Q E (Sh c h tk) := by
  unfold updateBytearray
  refine wpAny_bind (wpAny_load hl ?_)
  dsimp only
  refine wpAny_bind (wpAny_update hl ?_)
  have hg : (h.update l (Obj.mapBytearray f)).get? l = some (BA (f b)) := by rw [Heap.get?_update_self _ hl rfl]; rfl
  refine wpAny_lookBehind (o := BA (f b)) hg ?_ (q _ (Heap.SameBut.update ..) hg)
  show (if (f b).size > sizeLine then some "bytearray:memory" else none) = none
  rw [if_neg (by (first | lia | omega))]
theorem byteValue_int {x : Int} {t : Tok} (h0 : 0 ≤ x) (h1 : x < 256) : Builtin.Bytes.byteValue (.int x t) = Pure.pure x.toNat.toUInt8 := by
  show (if (decide (x < 0) || decide (x ≥ 256)) = true then _ else _) = _
  rw [if_neg (by simp; (first | lia | omega))]
theorem c_baAppend {l : Addr} {b : Array UInt8} {x : Int} {t : Tok} {Q : Value → Shared → Prop} (hl : h.get? l = some (BA b)) (h0 : 0 ≤ x) (h1 : x < 256) (hsz : b.size < sizeLine)
    (q : ∀ h', Heap.SameBut l h h' → h'.get? l = some (BA (b.push x.toNat.toUInt8)) → Q .none (Sh c h' tk)) : wpC (MM w) A (call (.builtin "bytearray.append") [.ref l, .int x t] []) Q E (Sh c h tk) := by
  refine wpC_runValue rfl (codeC_call_builtin (by decide +kernel) (by decide +kernel) entry_ba_append (slot_ba_append.check _ _ _ _ _ _ _ _ ⟨_, hl, rfl⟩ (args_ba_append _ _) ?_))
  show wpC _ _ (Builtin.Bytes.byteValue (.int x t) >>= fun c => Builtin.Bytes.checkResize (.ref l) >>= fun _ => updateBytearray l (·.push c) >>= fun _ => ret .none) _ _ _
  rw [byteValue_int h0 h1]
  refine wpC_bind (wpC_pure (wpC_bind (c_checkResize hl (wpC_bind (wpC_of (wpAny_updateBytearray hl (by rw [Array.size_push]; (first | lia | omega)) fun h' hs hg => ?_))))))
  exact wpC_pure (q _ hs hg)
theorem getMethod_ba {l : Addr} {b : Array UInt8} {pl : Sem Bool} {Q : Value × List Value → Shared → Prop} (hl : h.get? l = some (BA b))
    (q : Q (.builtin "bytearray.append", [.ref l]) (Sh c h tk)) : wpAny (MM w) A (getMethod (.ref l) "append" pl) Q E (Sh c h tk) := by
  exact getMethod_builtin ⟨_, hl, rfl⟩ plainAttrs_ba slot_ba_append type_ba_append (fun a e => by cases e; exact ⟨_, hl, rfl⟩) q
end
theorem slot_ba_init : Slot "bytearray" "__init__" "bytearray.__init__" :=
  .of (owner := "bytearray") (n := "__init__") (by rw [typeLookup_type, builtinLookup_eq_fast]; kernel_rfl) (by decide +kernel) (by decide +kernel) (by decide +kernel)
    (by first | exact .inl (by decide +kernel) | exact .inr (by decide +kernel)) (by rw [isSubtype_type]; kernel_rfl)
theorem entry_ba_init : entryFor table "bytearray.__init__" = some Builtin.«bytearray.__init__» := entryFor_of_tree (by kernel_rfl)
theorem args_ba_init (a : Value) : argsOk "bytearray.__init__" ⟨[a], []⟩ := by
  unfold argsOk; rw [signature?_of (id := "bytearray.__init__") (n := "__init__".toList.reverse) (o := ['y', 'a', 'r', 'r', 'a', 'e', 't', 'y', 'b']) (by kernel_rfl) owner_ba]; kernel_rfl
theorem entry_ba_new : entryFor table "bytearray.__new__" = some Builtin.«list.__new__» := entryFor_alias (id' := "list.__new__") (by kernel_rfl) rfl (by decide +kernel) (by kernel_rfl)
theorem mro_ba : mroOf (.type "bytearray") = Pure.pure [.type "bytearray", .type "object"] := by rw [mroOf_type]; kernel_rfl
theorem lookup_ba_new : typeLookup (.type "bytearray") "__new__" = Pure.pure (some (.builtin "bytearray.__new__")) := by rw [typeLookup_type, builtinLookup_eq_fast]; kernel_rfl
theorem called_ba : TypeCalled "bytearray" "bytearray.__new__" "bytearray.__init__" :=
  ⟨by decide +kernel, by decide +kernel, ⟨_, _, mro_ba⟩, madeBy_type mro_ba lookup_ba_new (by decide +kernel), by decide +kernel, by rw [isSubtype_type]; kernel_rfl, slot_ba_init⟩
theorem typeCall_ba : checkTypeCall "bytearray" ⟨[], []⟩ = Pure.pure () := by kernel_rfl
theorem newCall_ba : checkBuiltinCall "bytearray.__new__" ⟨[.type "bytearray"], []⟩ = Pure.pure () := by kernel_rfl
theorem owner_ba_new : ("bytearray.__new__".splitOn ".__new__").headD "" = "bytearray" := by simp +decide [String.splitOn, String.splitOnAux]
theorem sub_ba_self : isSubtype (.type "bytearray") (.type "bytearray") = Pure.pure true := by rw [isSubtype_type]; kernel_rfl
section
variable {w : World} {env : Env} {A : Around} {E : Value → Shared → Prop} {c : Shared} {h : Heap} {tk : Nat}
theorem code_ba_new {Q₁ : Value → Shared → Prop} {s : Shared}
    (h : Q₁ (.ref s.heap.objs.size) { s with heap := s.heap.push { cls := .type "bytearray", data := .bytearray #[] } }) :
    codeAny (MM w) A (.call (.builtin "bytearray.__new__") ⟨[.type "bytearray"], []⟩) (wants Q₁ E) s := by
  refine codeAny_of_tree ?_
  show wpAny _ A.in1 (do checkBuiltinCall "bytearray.__new__" ⟨[.type "bytearray"], []⟩; again (.builtin "bytearray.__new__" ⟨[.type "bytearray"], []⟩)) _ _ s
  refine wpAny_bind (wpAny_of_eq newCall_ba (wpAny_pure ⟨plainId_quiet (by decide +kernel) _, codeAny_builtin_stack entry_ba_new rfl fun p st => ?_⟩))
  rw [Around.under_plainId (by decide +kernel) _]
  have hsub := sub_ba_self
  have hown := owner_ba_new
  obtain ⟨hp, g, d, tk, os⟩ := s
  simp only [hown]
  wp_walk
  exact h
end
end
section
theorem bo_ba : Builtin.Bytes.bindOptional "bytearray.__init__" "bytearray" ["source", "encoding", "errors"] [] [] = Pure.pure [none, none, none] := by kernel_rfl
theorem lookup_ba_rb : typeLookup (.type "bytearray") "__release_buffer__" = Pure.pure (some (.builtin "bytearray.__release_buffer__")) := by rw [typeLookup_type, builtinLookup_eq_fast]; kernel_rfl
section
variable {w : World} {env : Env} {A : Around} {E : Value → Shared → Prop} {c : Shared} {h : Heap} {tk : Nat}
theorem codeC_builtin {id : String} {args : Args} {b : Builtin} {R : Result → Shared → Prop} {s : Shared} (hb : entryFor table id = some b)
    (h : wpC (MM w) (A.under (.builtin id args)) (b args)
      (fun fin s' => match fin with | .done f => R (.ok f) s' | .again c' => c'.quiet = true ∧ badCode c' = false ∧ codeC (MM w) A c' R s') (fun e s' => R (.error e) s') s) :
    codeC (MM w) A (.builtin id args) R s := by
  refine codeC_of_tree ?_
  show wpC _ _ (match entryFor table id with | some b => b args | none => unsupported ((withoutEnding? id "#data").getD id)) _ _ s
  rw [hb]; exact h
theorem wpC_run2 {c : Code} {Q : Value → Shared → Prop} {s : Shared} (hb : badCode c = false) (hc : codeC (MM w) A c (wants Q E) s) : wpC (MM w) A (runValue c) Q E s :=
  wpC_mono (wpC_runValue (Q := Q) (E := E) hb (fun Γ p a b d => by
    refine wpCode_mono (fun r s' h' => ?_) (hc Γ p a b d)
    cases r with
    | error e => exact h'
    | ok f => cases f <;> exact h')) (fun _ _ x => x) fun _ _ x => x
theorem ba_init_eq (a : Value) : ∃ K1 K2 K3 K4, Builtin.«bytearray.__init__» ⟨[a], []⟩ = (Builtin.Bytes.ownRelease a >>= K1) ∧
    K1 false = (Builtin.Bytes.bindOptional "bytearray.__init__" "bytearray" ["source", "encoding", "errors"] [] [] >>= K2) ∧
    K2 [none, none, none] = ((Builtin.Bytes.exported a <||> (do return (← Builtin.Bytes.exportsOf a) > 0)) >>= K3) ∧ K3 false = (Builtin.Bytes.write a (fun _ => #[]) >>= K4) ∧ K4 () = PySem.ret .none := ⟨_, _, _, _, rfl, rfl, rfl, rfl, rfl⟩
theorem ownRel_ba {a : Addr} {s : Shared} (hT : s.TypeIs (.ref a) "bytearray") : wpAny (MM w) A (Builtin.Bytes.ownRelease (.ref a)) (fun b s' => b = false ∧ s' = s) E s := by
  refine wpAny_bind (m := Builtin.Bytes.slotIsOwn (.ref a) "__release_buffer__") (wpAny_bind (wpAny_specialOf hT lookup_ba_rb ?_))
  show wpAny _ _ (if (!"bytearray.__release_buffer__".endsWith ("." ++ "__release_buffer__")) = true then _ else isInstance (.ref a) (.type ("bytearray.__release_buffer__".dropRight ("__release_buffer__".length + 1)))) _ _ _
  rw [if_neg (by decide +kernel), show "bytearray.__release_buffer__".dropRight ("__release_buffer__".length + 1) = "bytearray" by decide +kernel]
  have hsub := called_ba.sub
  repeat (any_goals (first | assumption | wp_step))
  exact ⟨rfl, rfl⟩
theorem c_baNew {Q : Value → Shared → Prop} {s : Shared}
    (h : ∀ h' a, Ext s.heap h' → s.heap.get? a = none → h'.get? a = some (BA #[]) → Q (.ref a) { s with heap := h' }) : wpC (MM w) A (call (.type "bytearray") [] []) Q E s := by
  obtain ⟨c, tl, hmro⟩ := called_ba.mro
  have hmade := called_ba.made
  have hsub := called_ba.sub
  refine wpC_run2 rfl (codeC_of_tree ?_)
  show wpC _ _ (callAny (.type "bytearray") _) _ _ _
  refine wpC_pure ⟨Code.quiet_builtin _ (by decide +kernel), rfl, codeC_builtin F.entry_type_call ?_⟩
  rw [Around.under_plain (weight_type_call_type "bytearray" [] []) (units_type_call_type "bytearray" [] [])]
  have h1 := called_ba.notType
  have h2 := called_ba.canCreate
  unfold Builtin.«type.__call__»
  simp only [h1, h2, typeCall_ba, hmro, hmade, pure_bind, List.isEmpty_cons, Bool.false_eq_true, if_false]
  refine wpC_bind (wpC_holding (wpC_of (wpAny_call (codeAny_mono (code_ba_new (Q₁ := fun obj s₁ => obj = .ref s.heap.objs.size ∧ s₁ = { s with heap := s.heap.push { cls := .type "bytearray", data := .bytearray #[] } }) (E := fun _ _ => False) ⟨rfl, rfl⟩) fun r s₁ hr => ?_))))
  cases r with
  | error e => exact hr.elim
  | ok fl =>
    cases fl with
    | ret obj =>
      obtain ⟨rfl, rfl⟩ := hr
      have hl : (s.heap.push { cls := .type "bytearray", data := .bytearray #[] }).get? s.heap.objs.size = some (BA #[]) := Heap.get?_push_size _ rfl
      have hx : Ext s.heap (s.heap.push { cls := .type "bytearray", data := .bytearray #[] }) := fun b o e => Heap.get?_push_of_some _ e
      have hn : s.heap.get? s.heap.objs.size = none := by
        cases e : s.heap.get? s.heap.objs.size with
        | none => rfl
        | some o' => exact absurd (Heap.lt_size e) (Nat.lt_irrefl _)
      generalize hh : s.heap.push { cls := .type "bytearray", data := .bytearray #[] } = h' at hl hx
      clear hh
      generalize s.heap.objs.size = a at *
      have hT : ({ s with heap := h' } : Shared).TypeIs (.ref a) "bytearray" := ⟨_, hl, rfl⟩
      dsimp only
      refine wpC_bind (wpC_of ?_)
      repeat (any_goals (first | assumption | wp_step))
      simp only [Bool.not_true, Bool.false_eq_true, if_false]
      refine wpC_bind (wpC_holding ?_)
      simp only [callSpecial?]
      refine wpC_bind (wpC_of (wpAny_specialOf hT slot_ba_init.lookup ?_))
      simp only [slot_ba_init.bind, pure_bind]
      refine wpC_holding (wpC_bind (wpC_run2 rfl (codeC_call_builtin (by decide +kernel) (by decide +kernel) entry_ba_init (slot_ba_init.check _ _ _ _ _ _ _ _ hT (args_ba_init _) ?_))))
      obtain ⟨K1, K2, K3, K4, e1, e2, e3, e4, e5⟩ := ba_init_eq (.ref a)
      show wpC _ _ (Builtin.«bytearray.__init__» ⟨[.ref a], []⟩) _ _ _
      rw [e1]
      refine wpC_bind (wpC_of (wpAny_mono (ownRel_ba (A := A.in1.in1) (E := fun _ _ => False) hT) ?_ fun _ _ x => x.elim))
      rintro _ _ ⟨rfl, rfl⟩
      rw [e2]
      refine wpC_bind (wpC_of (wpAny_of_eq bo_ba ?_))
      rw [e3]
      refine wpC_bind ?_
      show wpC (MM w) _ (Builtin.Bytes.exported (.ref a) >>= _) _ _ _
      refine wpC_bind (c_exported (wpC_of ?_))
      refine wpAny_bind (m := Builtin.Bytes.exportsOf (.ref a)) (wpAny_bind (wpAny_load hl (wpAny_pure (wpAny_pure ?_))))
      show wpC _ _ (K3 false) _ _ _
      rw [e4]
      refine wpC_bind (wpC_of (wpAny_updateBytearray hl (by decide +kernel) fun h₂ hs hg => ?_))
      rw [e5]
      refine wpC_pure ?_
      show wpC (MM w) A.in1 (Pure.pure (some Value.none)) _ _ _
      refine wpC_pure ?_
      dsimp only
      have e1 : (Value.none != Value.none) = false := by decide +kernel
      rw [e1, if_neg Bool.false_ne_true]
      refine wpC_pure ?_
      exact h h₂ a (fun b o e => by
        have : b ≠ a := fun e' => by rw [e', hn] at e; cases e
        exact (hs.2 b this).trans (hx b o e)) hn hg
    | _ => exact hr.elim
end
end
section
theorem ba_no_bytes : typeLookup (.type "bytearray") "__bytes__" = Pure.pure none := by rw [typeLookup_type, builtinLookup_eq_fast]; kernel_rfl
theorem ba_no_index : typeLookup (.type "bytearray") "__index__" = Pure.pure none := by rw [typeLookup_type, builtinLookup_eq_fast]; kernel_rfl
theorem ba_buffer : typeLookup (.type "bytearray") "__buffer__" = Pure.pure (some (.builtin "bytearray.__buffer__")) := by rw [typeLookup_type, builtinLookup_eq_fast]; kernel_rfl
section
variable {w : World} {env : Env} {A : Around} {E : Value → Shared → Prop} {c : Shared} {h : Heap} {tk : Nat}
theorem slotIsOwn_ba {name : String} {id : String} {l : Addr} {b : Array UInt8} {Q : Bool → Shared → Prop} (hl : h.get? l = some (BA b)) (hk : typeLookup (.type "bytearray") name = Pure.pure (some (.builtin id)))
    (h1 : (!id.endsWith ("." ++ name)) = false) (h2 : id.dropRight (name.length + 1) = "bytearray") (q : Q true (Sh c h tk)) : wpAny (MM w) A (Builtin.Bytes.slotIsOwn (.ref l) name) Q E (Sh c h tk) := by
  have hT : (Sh c h tk).TypeIs (.ref l) "bytearray" := ⟨_, hl, rfl⟩
  unfold Builtin.Bytes.slotIsOwn
  refine wpAny_bind (wpAny_specialOf hT hk ?_)
  dsimp only
  rw [h1, if_neg Bool.false_ne_true, h2]
  have hsub := sub_ba_self
  exact wpAny_isInstance hT hsub q
theorem ownRelease_ba {l : Addr} {b : Array UInt8} {Q : Bool → Shared → Prop} (hl : h.get? l = some (BA b)) (q : Q false (Sh c h tk)) : wpAny (MM w) A (Builtin.Bytes.ownRelease (.ref l)) Q E (Sh c h tk) := by
  unfold Builtin.Bytes.ownRelease
  refine wpAny_bind (slotIsOwn_ba hl lookup_ba_rb (by decide +kernel) (by decide +kernel) (wpAny_pure q))
theorem buffer_ba {l : Addr} {b : Array UInt8} {Q : Option (Array UInt8) → Shared → Prop} (hl : h.get? l = some (BA b)) (q : Q (some b) (Sh c h tk)) : wpAny (MM w) A (Builtin.Bytes.buffer? "bytes.__new__" (.ref l) true) Q E (Sh c h tk) := by
  have hT : (Sh c h tk).TypeIs (.ref l) "bytearray" := ⟨_, hl, rfl⟩
  unfold Builtin.Bytes.buffer?
  refine wpAny_bind (wpAny_specialOf hT ba_buffer ?_)
  dsimp only
  refine wpAny_bind (slotIsOwn_ba hl ba_buffer (by decide +kernel) (by decide +kernel) ?_)
  refine bm_if_false rfl ?_
  refine wpAny_bind (wpAny_specialOf hT ba_buffer ?_)
  refine wpAny_bind (ownRelease_ba hl ?_)
  refine bm_if_false rfl ?_
  refine wpAny_bind (m := Builtin.Bytes.payload (.ref l)) ?_
  unfold Builtin.Bytes.payload Builtin.Bytes.payload?
  refine wpAny_bind (wpAny_bind (wpAny_load hl (wpAny_pure (wpAny_pure (wpAny_pure q)))))
theorem ba_new_code {l : Addr} {b : Array UInt8} {Q : Value → Shared → Prop} (hl : h.get? l = some (BA b)) (hz : b.size ≤ sizeLine) (q : ∀ t tk', Q (.bytes b t) (Sh c h tk')) :
    codeAny (MM w) A (.call (.builtin "bytes.__new__") ⟨[.type "bytes", .ref l], []⟩) (wants Q E) (Sh c h tk) := by
  refine codeAny_of_tree ?_
  show wpAny _ A.in1 (do checkBuiltinCall "bytes.__new__" ⟨[.type "bytes", .ref l], []⟩; again (.builtin "bytes.__new__" ⟨[.type "bytes", .ref l], []⟩)) _ _ _
  refine wpAny_bind (wpAny_of_eq (F.bm_newCall _) (wpAny_pure ⟨plainId_quiet F.bm_plain _, codeAny_builtin F.bm_entry ?_⟩))
  rw [Around.under_plainId F.bm_plain _]
  have hT : (Sh c h tk).TypeIs (.ref l) "bytearray" := ⟨_, hl, rfl⟩
  unfold Builtin.«bytes.__new__»
  refine wpAny_bind (wpAny_of_eq (a := true) rfl ?_)
  refine bm_if_false rfl ?_
  refine wpAny_bind (wpAny_of_eq F.bm_sub ?_)
  refine bm_if_false rfl ?_
  refine wpAny_bind (wpAny_of_eq (F.bm_bind _) ?_)
  refine wpAny_bind (wpAny_of_eq (a := ()) rfl ?_)
  refine wpAny_bind (wpAny_of_eq (a := ()) rfl ?_)
  refine bm_if_false rfl ?_
  refine wpAny_bind (wpAny_specialOf hT ba_no_bytes ?_)
  refine wpAny_bind (wpAny_bind ?_)
  show wpAny _ _ (load l >>= _) _ _ _
  refine wpAny_bind (wpAny_load hl ?_)
  refine wpAny_pure (wpAny_pure ?_)
  refine bm_if_false rfl ?_
  refine wpAny_bind (wpAny_specialOf hT ba_no_index ?_)
  refine bm_if_true rfl ?_
  first
    | show wpAny _ _ (Builtin.Bytes.buffer? "bytes.__new__" (.ref l) true >>= _) _ _ _
    | (refine wpAny_bind ?_; show wpAny _ _ (Builtin.Bytes.buffer? "bytes.__new__" (.ref l) true >>= _) _ _ _)
  refine wpAny_bind (buffer_ba hl ?_)
  dsimp only
  refine wpAny_bind (wpAny_rule ?_)
  have hmk : mkBytes b = (do return .bytes b (← fresh)) := by unfold mkBytes; rw [if_neg (by (first | lia | omega))]
  rw [hmk]
  refine wpAny_bind (wpAny_bind (wpAny_fresh ?_))
  refine wpAny_pure ?_
  exact wpAny_of_eq (a := Fin.done (.ret (.bytes b tk))) rfl (q _ _)
theorem r_bytesBA {l : Addr} {b : Array UInt8} {Q : Value → Shared → Prop} (hl : h.get? l = some (BA b)) (hz : b.size ≤ sizeLine) (q : ∀ t tk', Q (.bytes b t) (Sh c h tk')) : wpAny (MM w) A (call (.type "bytes") [.ref l] []) Q E (Sh c h tk) := by
  refine callType_codes (Q₁ := fun obj s₁ => s₁.TypeIs obj "bytes" ∧ Q obj s₁) F.bm_called (F.bm_typeCall _) F.entry_object_init
    (ba_new_code hl hz fun t k => ⟨PySem.W.typeIs_bytes _ _ _, q t k⟩) fun obj s₁ h₁ => ?_
  exact ⟨h₁.1, F.args_object_init_2 obj _, object_init_meets F.bm_called.init.lookup F.bm_called.made (by decide) _ w A.in1 _ s₁ ⟨h₁.1, rfl, h₁.2⟩⟩
end
end
section
section
variable {w : World} {env : Env} {A : Around} {E : Value → Shared → Prop} {c : Shared} {h : Heap} {tk : Nat}
theorem wpC_at {p : Pos} {α : Type} {t : Sem α} {Q : α → Shared → Prop} {s : Shared} (q : wpC (MM w) A t Q E s) : wpC (MM w) A (standAt p >>= fun _ => t) Q E s :=
  wpC_bind (wpC_of (wpAny_standAt q))
theorem c_cons {st : Stmt} {rest : List Stmt} {Q : Flow → Shared → Prop} {s : Shared} (q : wpC (MM w) A (exec st env) (Flo (wpC (MM w) A (execs rest env) Q E) Q) E s) :
    wpC (MM w) A (execs (st :: rest) env) Q E s := fun Γ p hΓ hc => by
  rw [execs_cons, Sem.wp_bind']
  refine Sem.wp_mono _ Γ _ (fun f p' s' h' => ?_) (fun _ _ _ h' => h') _ _ (q Γ p hΓ hc)
  cases f <;> first | exact h' Γ p' hΓ hc | exact h'
theorem c_nil {Q : Flow → Shared → Prop} {s : Shared} (q : Q .next s) : wpC (MM w) A (execs [] env) Q E s := wpC_of (wpAny_execs_nil q)
structure IfC (w : World) (A : Around) (env : Env) (body orelse : List Stmt) (Q : Flow → Shared → Prop) (E : Value → Shared → Prop) (b : Bool) (s : Shared) : Prop where
  yes : b = true → wpC (MM w) A (execs body env) Q E s
  no : b = false → wpC (MM w) A (execs orelse env) Q E s
theorem c_if {test : Expr} {body orelse : List Stmt} {p : Pos} {Q : Flow → Shared → Prop} {s : Shared}
    (q : wpAny (MM w) A (PySem.isTrue test env (eval test env)) (IfC w A env body orelse Q E) E s) :
    wpC (MM w) A (exec (.If test body orelse p) env) Q E s := fun Γ p hΓ hc => by
  simp only [exec_If, Sem.wp_bind', Sem.wp_cmd_standAt]
  refine Sem.wp_mono _ Γ _ (fun b p₂ s₂ h₂ => ?_) (fun _ _ _ h' => h') _ _ (q Γ _ hΓ)
  cases b
  · exact h₂.no rfl Γ p₂ hΓ hc
  · exact h₂.yes rfl Γ p₂ hΓ hc
theorem c_assign {x : Str} {p' p : Pos} {value : Expr} {Q : Flow → Shared → Prop} {s : Shared} (hs : swapsWith value (some (.Name x p')) p.line env = Pure.pure false)
    (q : wpC (MM w) A (eval value env) (fun v s₁ => wpAny (MM w) A (storeName env x v) (XK (Q .next)) E s₁) E s) : wpC (MM w) A (exec (.Assign [.Name x p'] value p) env) Q E s := fun Γ p hΓ hc => by
  simp only [exec_Assign_Name env x p' value _ hs, Sem.wp_bind', Sem.wp_cmd_standAt, Sem.wp_bindName, Sem.wp_pure']
  exact Sem.wp_mono _ Γ _ (fun v _ s₁ h₁ => h₁ Γ _ hΓ) (fun _ _ _ h' => h') _ _ (q Γ _ hΓ hc)
theorem c_ret {e : Expr} {p : Pos} {Q : Flow → Shared → Prop} {s : Shared} (q : wpC (MM w) A (eval e env) (fun v => Q (.ret v)) E s) : wpC (MM w) A (exec (.Return (some e) p) env) Q E s := fun Γ p hΓ hc => by
  simp only [exec_Return_some, Sem.wp_bind', Sem.wp_cmd_standAt, Sem.wp_pure']; exact q Γ _ hΓ hc
theorem c_expr {e : Expr} {p : Pos} {Q : Flow → Shared → Prop} {s : Shared} (hi : interactive env = false) (hs : swapsWith e none p.line env = Pure.pure false) (q : wpC (MM w) A (eval e env) (XK (Q .next)) E s) :
    wpC (MM w) A (exec (.Expr e p) env) Q E s := by
  rw [exec_Expr env e p hi hs]
  exact wpC_at (wpC_bind (wpC_mono q (fun v s' h' => wpC_of (wpAny_dropValue h')) fun _ _ x => x))
theorem wpC_run_own {cd : Code} {Q : Flow → Shared → Prop} {s : Shared} (hb : badCode cd = false) (hc : codeC (MM w) A cd (fun r s' => match r with | .ok f => Q f s' | .error e => cameBackBy (MM w) A env E e s') s) : wpC (MM w) A (runOwn cd env none) Q E s := by
  unfold runOwn
  exact wpC_onRaise (wpC_mono (wpC_run (E := fun e s' => cameBackBy (MM w) A env E e s') hb hc) (fun _ _ x => x) fun _ _ x => wpC_of x)
theorem c_while {test : Expr} {body orelse : List Stmt} {p : Pos} {Q : Flow → Shared → Prop} (I : Nat → Heap → Prop) (n : Nat) (h0 : I n h)
    (turn : ∀ n h tk, I n h → wpAny (MM w) A (PySem.isTrue test env (eval test env)) (fun b s₂ =>
        (b = true → wpC (MM w) A (execs body env) (fun f s₃ => match f with
            | .next | .cont => ∃ m h' tk', s₃ = Sh c h' tk' ∧ m < n ∧ I m h'
            | .brk => Q .next s₃
            | .ret v => Q (.ret v) s₃) NoE s₂) ∧
        (b = false → wpC (MM w) A (execs orelse env) Q NoE s₂)) NoE (Sh c h tk)) :
    wpC (MM w) A (exec (.While test body orelse p) env) Q E (Sh c h tk) := by
  rw [exec_While]
  refine wpC_at (wpC_run_own rfl (codeC_loop rfl rfl (fun n s => ∃ h' tk', s = Sh c h' tk' ∧ I n h') ?_ n ⟨h, tk, rfl, h0⟩))
  rintro n s ⟨h', tk', rfl, hI⟩
  show wpC _ A ((whileTurn test body orelse env).onRaise (fun x => do noteFrame x env; theTreesLotGoes x)) _ _ _
  refine wpC_onRaise (wpC_mono (E := NoE) ?_ (fun _ _ x => x) fun _ _ x => x.elim)
  simp only [whileTurn]
  refine wpC_bind (wpC_of (wpAny_mono (turn n h' tk' hI) (fun b s₂ q => ?_) fun _ _ x => x))
  cases b with
  | false =>
    simp only [Bool.false_eq_true, if_false]
    exact wpC_bind (wpC_mono (q.2 rfl) (fun f s₃ h₃ => wpC_pure h₃) fun _ _ x => x)
  | true =>
    simp only [if_true]
    refine wpC_bind (wpC_mono (q.1 rfl) (fun f s₃ h₃ => ?_) fun _ _ x => x)
    cases f with
    | next => obtain ⟨m, h'', tk'', e, lt, hm⟩ := h₃; exact wpC_pure (.inl ⟨rfl, m, lt, h'', tk'', e, hm⟩)
    | cont => obtain ⟨m, h'', tk'', e, lt, hm⟩ := h₃; exact wpC_pure (.inl ⟨rfl, m, lt, h'', tk'', e, hm⟩)
    | brk => exact wpC_pure h₃
    | ret v => exact wpC_pure h₃
theorem callWithC {f : Value} {first : List Value} {args : List Expr} {kws : List Keyword} {pos : Pos} {Q : Value → Shared → Prop} {s : Shared} (hp : args.all notStar = true) (hk : kwNamed kws = true)
    (q : wArgs w A env E args (fun vs s₁ => wKws w A env E kws (fun ks s₂ => CanCall f s₂ ∧ wpC (MM w) A (call f (first ++ vs) ks) Q E s₂) s₁) s) :
    wpC (MM w) A (callWith pos f first (backTo pos (starEach args env)) (backToKw pos (keywordEach kws env))) Q E s := by
  unfold callWith
  refine wpC_bind (wpC_of (wpAny_holding (wpAny_mono (evalArgs_of (f := f) (pos := pos) (Q := fun a s₂ => CanCall f s₂ ∧ wpC (MM w) A (call f (first ++ a.pos) a.kw) Q E s₂) hp hk q) (fun a s₁ h₁ => wpC_at ?_) fun _ _ x => x)))
  have tail : ∀ {t : Sem Value}, wpC (MM w) A t Q E s₁ → wpC (MM w) A (t >>= fun r => holding [r] point >>= fun _ => Pure.pure r) Q E s₁ :=
    fun ht => wpC_bind (wpC_mono ht (fun r s₂ hr => wpC_of (wpAny_bind (wpAny_holding (wpAny_point (wpAny_pure hr))))) fun _ _ x => x)
  have hs : ((backTo pos (starEach args env)).any (·.1) || (backToKw pos (keywordEach kws env)).any (·.1.isNone)) = false := by
    rw [args_any hp, (kw_named hk).2]; rfl
  rw [hs]
  obtain ⟨hc, hq⟩ := h₁
  cases f <;> first | exact hc.elim | skip
  case type => exact wpC_bind (wpC_pure (tail hq))
  case builtin => exact wpC_bind (wpC_pure (tail hq))
  case ref a =>
    obtain ⟨o, fd, ho, hd⟩ := hc
    refine wpC_bind (m := keeperOf (.ref a)) (wpC_of ?_)
    unfold keeperOf
    refine wpAny_bind (wpAny_load ho ?_)
    rw [hd]
    refine wpAny_pure ?_
    dsimp only
    split
    · exact tail hq
    · exact tail (by unfold callMarked; exact wpC_keep hq)
noncomputable abbrev XF3C (w : World) (A : Around) (E : Value → Shared → Prop) (Q : Value → Shared → Prop) (f : Value) (vs : List Value) (ks : List (Str × Value)) (s : Shared) : Prop := CanCall f s ∧ wpC (MM w) A (call f vs ks) Q E s
noncomputable abbrev XF2C (w : World) (A : Around) (E : Value → Shared → Prop) (env : Env) (kws : List Keyword) (Q : Value → Shared → Prop) (f : Value) (vs : List Value) (s : Shared) : Prop := wKws w A env E kws (XF3C w A E Q f vs) s
noncomputable abbrev XF1C (w : World) (A : Around) (E : Value → Shared → Prop) (env : Env) (args : List Expr) (kws : List Keyword) (Q : Value → Shared → Prop) (f : Value) (s : Shared) : Prop := wArgs w A env E args (XF2C w A E env kws Q f) s
noncomputable abbrev XM3C (w : World) (A : Around) (E : Value → Shared → Prop) (Q : Value → Shared → Prop) (fx : Value × List Value) (vs : List Value) (s : Shared) : Prop := CanCall fx.1 s ∧ wpC (MM w) A (call fx.1 (fx.2 ++ vs) []) Q E s
noncomputable abbrev XM2C (w : World) (A : Around) (E : Value → Shared → Prop) (env : Env) (args : List Expr) (Q : Value → Shared → Prop) (fx : Value × List Value) (s : Shared) : Prop := wArgs w A env E args (XM3C w A E Q fx) s
noncomputable abbrev XM1C (w : World) (A : Around) (E : Value → Shared → Prop) (env : Env) (o : Expr) (name : Str) (args : List Expr) (Q : Value → Shared → Prop) (ov : Value) (s : Shared) : Prop := wpAny (MM w) A (getMethod ov name (importBound o env >>= fun r => Pure.pure (r.getD true))) (XM2C w A E env args Q) E s
theorem c_call {id : Str} {p pos : Pos} {args : List Expr} {kws : List Keyword} {Q : Value → Shared → Prop} {s : Shared} (hp : args.all notStar = true) (hk : kwNamed kws = true)
    (q : wpAny (MM w) A (eval (.Name id p) env) (XF1C w A E env args kws Q) E s) :
    wpC (MM w) A (eval (.Call (.Name id p) args kws pos) env) Q E s := by
  rw [arm_eval_Call_Name']
  exact wpC_bind (wpC_of (wpAny_mono q (fun f s₀ q => callWithC (first := []) hp hk q) fun _ _ x => x))
theorem c_method {o : Expr} {name : Str} {apos pos : Pos} {args : List Expr} {Q : Value → Shared → Prop} {s : Shared} (hp : args.all notStar = true)
    (he : eval (.Call (.Attribute o name apos) args [] pos) env = (eval o env >>= fun ov => standAt apos.atName >>= fun _ => holding [ov] (getMethod ov name (importBound o env >>= fun r => Pure.pure (r.getD true))) >>= fun fx => callWith pos fx.1 fx.2 (backTo pos (starEach args env)) []))
    (q : wpAny (MM w) A (eval o env) (XM1C w A E env o name args Q) E s) :
    wpC (MM w) A (eval (.Call (.Attribute o name apos) args [] pos) env) Q E s := by
  rw [he]
  refine wpC_bind (wpC_of (wpAny_mono q (fun ov s₁ h₁ => wpC_at (wpC_bind (wpC_of (wpAny_holding (wpAny_mono h₁ (fun fx s₂ h₂ => ?_) fun _ _ x => x))))) fun _ _ x => x))
  exact callWithC (kws := []) hp rfl h₂
end
section
variable {w : World} {env : Env} {h₀ h h' : Heap} {vs vs' : List (Str × Value)} {ns ns' : List (Addr × Obj)} {rs : List (Value × D)} {A : Around} {E : Value → Shared → Prop} {c : Shared} {tk : Nat} {x : Str} {v : Value}
theorem St.adopt {a : Addr} {o : Obj} (st : St w env h₀ vs ns rs h) (k : Ext h h') (hn : h.get? a = none) (hg : h'.get? a = some o) : St w env h₀ vs ((a, o) :: ns) rs h' := by
  obtain ⟨m, ml, mv⟩ := st.loc
  refine { st.ext k with led := fun p hp => ?_, dis := ?_ }
  · rcases List.mem_cons.mp hp with rfl | hp
    · refine ⟨hg, ?_⟩
      cases e : h₀.get? a with
      | none => rfl
      | some o' => rw [st.keep _ _ e] at hn; cases hn
    · exact (st.ext k).led p hp
  · have d := List.nodup_cons.mp st.dis
    refine List.nodup_cons.mpr ⟨fun hm => ?_, List.nodup_cons.mpr ⟨fun hm => ?_, d.2⟩⟩
    · rcases List.mem_cons.mp hm with e | hm
      · obtain ⟨o', _, _, ho', _⟩ := ml
        rw [e, hn] at ho'; cases ho'
      · exact d.1 hm
    · obtain ⟨p, hp, e⟩ := List.mem_map.mp hm
      have := (st.led p hp).1
      rw [e, hn] at this; cases this
inductive PutA (a : Addr) (o o' : Obj) : List (Addr × Obj) → List (Addr × Obj) → Prop
  | here {r : List (Addr × Obj)} : PutA a o o' ((a, o) :: r) ((a, o') :: r)
  | there {p : Addr × Obj} {r r' : List (Addr × Obj)} : PutA a o o' r r' → PutA a o o' (p :: r) (p :: r')
theorem PutA.mem {a : Addr} {o o' : Obj} {r r' : List (Addr × Obj)} (y : PutA a o o' r r') : (a, o) ∈ r := by
  induction y with
  | here => exact .head _
  | there _ ih => exact .tail _ ih
theorem PutA.keys {a : Addr} {o o' : Obj} {r r' : List (Addr × Obj)} (y : PutA a o o' r r') : r'.map (·.1) = r.map (·.1) := by
  induction y with
  | here => rfl
  | there _ ih => rw [List.map_cons, List.map_cons, ih]
theorem PutA.split {a : Addr} {o o' : Obj} {r r' : List (Addr × Obj)} (y : PutA a o o' r r') : (r.map (·.1)).Nodup → ∀ p ∈ r', p = (a, o') ∨ (p ∈ r ∧ p.1 ≠ a) := by
  induction y with
  | @here r =>
    intro n p hp
    rcases List.mem_cons.mp hp with rfl | hp
    · exact .inl rfl
    · exact .inr ⟨.tail _ hp, fun e => (List.nodup_cons.mp n).1 (e ▸ List.mem_map_of_mem (f := (·.1)) hp)⟩
  | @there q r r' y ih =>
    intro n p hp
    have n' := List.nodup_cons.mp n
    rcases List.mem_cons.mp hp with rfl | hp
    · exact .inr ⟨.head _, fun e => n'.1 (show p.1 ∈ r.map (·.1) from e ▸ List.mem_map_of_mem (f := (·.1)) y.mem)⟩
    · exact (ih n'.2 p hp).imp id fun e => ⟨.tail _ e.1, e.2⟩
theorem St.write {a : Addr} {o o' : Obj} (st : St w env h₀ vs ns rs h) (p : PutA a o o' ns ns') (hs : Heap.SameBut a h h') (hg : h'.get? a = some o') (hb : ∀ items, ¬ IsTup h a items) : St w env h₀ vs ns' rs h' := by
  have d := List.nodup_cons.mp st.dis
  have hm := p.mem
  have ha := st.led _ hm
  have hl : env.locals ≠ a := fun e => d.1 (e ▸ List.mem_map_of_mem (f := (·.1)) hm)
  obtain ⟨m, ml, mv⟩ := st.loc
  refine ⟨st.kp, fun b ob e => ?_, st.fk, st.eg, st.eb, ⟨m, ml.extBut hs.extBut hl, mv⟩, st.nd, st.old, fun q hq => ?_, ?_, fun r hr => (st.rep r hr).mono (tups_of hs hb)⟩
  · have : b ≠ a := fun e' => by rw [e', ha.2] at e; cases e
    exact (hs.2 b this).trans (st.keep b ob e)
  · rcases p.split d.2 q hq with rfl | ⟨e1, e2⟩
    · exact ⟨hg, ha.2⟩
    · exact ⟨(hs.2 _ e2).trans (st.led q e1).1, (st.led q e1).2⟩
  · rw [p.keys]; exact st.dis
theorem noTup_of {a : Addr} {o : Obj} (ho : h.get? a = some o) (hc : o.cls ≠ .type "tuple") : ∀ items, ¬ IsTup h a items := fun items ⟨o', ho', hc', _⟩ => by
  rw [ho] at ho'; cases ho'; exact hc hc'
end
end
section
section
variable {w : World} {env : Env} {A : Around} {E : Value → Shared → Prop} {c : Shared} {h : Heap} {tk : Nat}
theorem r_isTrueV {e : Expr} {whole : Sem Value} {Q : Bool → Shared → Prop} (he : PySem.isTrue e env whole = (whole >>= fun v => standAt e.pos >>= fun _ => holding [v] (truthy v)))
    (q : wpAny (MM w) A whole (XTh w A E truthy Q) E (Sh c h tk)) : wpAny (MM w) A (PySem.isTrue e env whole) Q E (Sh c h tk) := isTrue_plain q he
theorem r_tint {a : Int} {t : Tok} {Q : Bool → Shared → Prop} (q : Q (a != 0) (Sh c h tk)) : wpAny (MM w) A (truthy (.int a t)) Q E (Sh c h tk) := PySem.P.truthy_int q
theorem r_tnot {x : Expr} {pos : Pos} {whole : Sem Value} {Q : Bool → Shared → Prop} (q : wpAny (MM w) A (PySem.isTrue x env (eval x env)) (XNot Q) E (Sh c h tk)) :
    wpAny (MM w) A (PySem.isTrue (.UnaryOp .Not x pos) env whole) Q E (Sh c h tk) := isTrue_not q
structure AndQ (w : World) (A : Around) (env : Env) (rest : List Expr) (pos : Pos) (whole : Sem Value) (Q : Bool → Shared → Prop) (E : Value → Shared → Prop) (b : Bool) (s : Shared) : Prop where
  yes : b = true → wpAny (MM w) A (PySem.isTrue (.BoolOp .And rest pos) env whole) Q E s
  no : b = false → Q false s
structure OrQ (w : World) (A : Around) (env : Env) (rest : List Expr) (pos : Pos) (whole : Sem Value) (Q : Bool → Shared → Prop) (E : Value → Shared → Prop) (b : Bool) (s : Shared) : Prop where
  yes : b = true → Q true s
  no : b = false → wpAny (MM w) A (PySem.isTrue (.BoolOp .Or rest pos) env whole) Q E s
theorem r_tand {x : Expr} {rest : List Expr} {pos : Pos} {whole : Sem Value} {Q : Bool → Shared → Prop}
    (q : wpAny (MM w) A (PySem.isTrue x env (eval x env)) (AndQ w A env rest pos whole Q E) E (Sh c h tk)) :
    wpAny (MM w) A (PySem.isTrue (.BoolOp .And (x :: rest) pos) env whole) Q E (Sh c h tk) :=
  isTrue_and (wpAny_mono q (fun b s' q => by cases b; simpa using q.no rfl; simpa using q.yes rfl) fun _ _ x => x)
theorem r_tor {x : Expr} {rest : List Expr} {pos : Pos} {whole : Sem Value} {Q : Bool → Shared → Prop}
    (q : wpAny (MM w) A (PySem.isTrue x env (eval x env)) (OrQ w A env rest pos whole Q E) E (Sh c h tk)) :
    wpAny (MM w) A (PySem.isTrue (.BoolOp .Or (x :: rest) pos) env whole) Q E (Sh c h tk) :=
  isTrue_or (wpAny_mono q (fun b s' q => by cases b; simpa using q.no rfl; simpa using q.yes rfl) fun _ _ x => x)
theorem r_tandN {pos : Pos} {whole : Sem Value} {Q : Bool → Shared → Prop} (q : Q true (Sh c h tk)) : wpAny (MM w) A (PySem.isTrue (.BoolOp .And [] pos) env whole) Q E (Sh c h tk) := isTrue_and_nil q
theorem r_torN {pos : Pos} {whole : Sem Value} {Q : Bool → Shared → Prop} (q : Q false (Sh c h tk)) : wpAny (MM w) A (PySem.isTrue (.BoolOp .Or [] pos) env whole) Q E (Sh c h tk) := isTrue_or_nil q
theorem r_aug {x : Str} {op : Operator} {value : Expr} {p' p : Pos} {Q : Flow → Shared → Prop} (q : wpAny (MM w) A (loadName env x) (XA1 w A E env value op (XTh w A E (storeName env x) (XK (Q .next)))) E (Sh c h tk)) :
    wpAny (MM w) A (exec (.AugAssign (.Name x p') op value p) env) Q E (Sh c h tk) := wpAny_AugAssign_Name q
theorem x_iadd {a b : Int} {t u : Tok} {Q : Value → Shared → Prop} (q : Q (.int (a + b) tk) (Sh c h (tk + 1))) : wpAny (MM w) A (inplaceOp .Add (.int a t) (.int b u)) Q E (Sh c h tk) := PyProof.Rows.iadd_int q
end
end
local macro_rules | `(tactic| walk_at "M.e") => `(tactic| with_reducible first
  | refine' r_tint ?_ | refine' r_tnone ?_ | refine' r_tnot ?_ | refine' r_tandN ?_ | refine' r_torN ?_ | refine' r_tand ?_ | refine' r_tor ?_
  | (refine' r_isTrueV ?_ ?_; kernel_rfl!)
  | refine' r_aug ?_
  | (refine' is_load ?_; apply r_loadLocal; assumption; kernel_rfl!; walk_at "M.mem")
  | refine' x_iadd ?_
  | fail)
section
noncomputable def fdT : FuncData := { name := "T", qualname := "T", params := prmAt 1, body := .stmts (bdyAt 1), scope := scpAt 1, globals := 3, closure := [], defaults := .none, kwdefaults := .none, doc := .none, pyModule := .str "cpy313.encodings.punycode" 187, annotations := none, code := .ref 20, closureTuple := .none, builtins := 0 }
theorem okT : FnOk 21 fdT := ⟨fun P => ⟨oC_21 P, by kernel_rfl!, rfl⟩, fun P => ⟨20, oC_20 P, _, _, rfl, by kernel_rfl!, rfl, rfl⟩, by kernel_rfl!, by kernel_rfl!, by kernel_rfl!, rfl, rfl, rfl⟩
noncomputable def Tm (j b : Int) : Int := if 36 * (j + 1) - b < 1 then 1 else if 36 * (j + 1) - b > 26 then 26 else 36 * (j + 1) - b
theorem T_spec {w : World} {A : Around} {E : Value → Shared → Prop} {c : Shared} {h : Heap} {tk : Nat} {j b : Int} {t u : Tok} {Q : Value → Shared → Prop} (kp : KeepR w h) (hd : A.depth < 900)
    (q : ∀ h' tk' t, Ext h h' → Q (.int (Tm j b) t) (Sh c h' tk')) : wpAny (MM w) A (call (.ref 21) [.int j t, .int b u] []) Q E (Sh c h tk) := by
  refine enterN (body := bdyAt 1) (binds := [("j", .int j t), ("bias", .int b u)]) okT rfl kp (BindsTo.of_eq (by kernel_rfl!)) (by kernel_rfl!) (by kernel_rfl!) (by kernel_rfl!) hd ?_
  intro L h₁ tk₁ st
  refine r_cons ?_
  repeat' (walk_at "M.e")
  refine ⟨fun h1 => ?_, fun h1 => ?_⟩
  · rw [decide_eq_true_eq] at h1
    repeat' (walk_at "M.e")
    rw [show (1 : Int) = Tm j b by unfold Tm; rw [if_pos h1]]
    exact q _ _ _ (St.keep ‹_›)
  · rw [decide_eq_false_iff_not] at h1
    repeat' (walk_at "M.e")
    refine ⟨fun h2 => ?_, fun h2 => ?_⟩
    · rw [decide_eq_true_eq] at h2
      repeat' (walk_at "M.e")
      rw [show (26 : Int) = Tm j b by unfold Tm; rw [if_neg h1, if_pos h2]]
      exact q _ _ _ (St.keep ‹_›)
    · rw [decide_eq_false_iff_not] at h2
      repeat' (walk_at "M.e")
      rw [show 36 * (j + 1) - b = Tm j b by unfold Tm; rw [if_neg h1, if_neg h2]]
      exact q _ _ _ (St.keep ‹_›)
theorem slot_bytes_getitem' : typeLookup (.type "bytes") "__getitem__" = Pure.pure (some (.builtin "bytes.__getitem__")) := by rw [typeLookup_type, builtinLookup_eq_fast]; kernel_rfl
noncomputable def fdG : FuncData := { name := "generate_generalized_integer", qualname := "generate_generalized_integer", params := prmAt 3, body := .stmts (bdyAt 3), scope := scpAt 3, globals := 3, closure := [], defaults := .none, kwdefaults := .none, doc := .none, pyModule := .str "cpy313.encodings.punycode" 187, annotations := none, code := .ref 27, closureTuple := .none, builtins := 0 }
theorem okG : FnOk 28 fdG := ⟨fun P => ⟨oC_28 P, by kernel_rfl!, rfl⟩, fun P => ⟨27, oC_27 P, _, _, rfl, by kernel_rfl!, rfl, rfl⟩, by kernel_rfl!, by kernel_rfl!, by kernel_rfl!, rfl, rfl, rfl⟩
inductive GenR (b : Int) : Int → Nat → List Nat → Prop
  | last {N : Int} {j : Nat} : 0 ≤ N → N < Tm j b → GenR b N j [N.toNat]
  | more {N : Int} {j : Nat} {ds : List Nat} : Tm j b ≤ N → GenR b ((N - Tm j b).fdiv (36 - Tm j b)) (j + 1) ds → GenR b N j ((Tm j b + (N - Tm j b).fmod (36 - Tm j b)).toNat :: ds)
theorem Tm_lo (j b : Int) : 1 ≤ Tm j b := by unfold Tm; split <;> (try split) <;> (first | lia | omega)
theorem Tm_hi (j b : Int) : Tm j b ≤ 26 := by unfold Tm; split <;> (try split) <;> omega
theorem digit_lt {t m : Int} (h1 : 1 ≤ t) (h2 : t ≤ 26) : 0 ≤ t + m.fmod (36 - t) ∧ t + m.fmod (36 - t) < 36 := by
  have a := Int.fmod_nonneg_of_pos m (b := 36 - t) (by omega)
  have b := Int.fmod_lt_of_pos m (b := 36 - t) (by omega)
  omega
noncomputable def dByte (d : Nat) : UInt8 := digitsB.toList.getD d 0
noncomputable def gBytes (ds : List Nat) : Array UInt8 := (ds.map dByte).toArray
theorem dByte_round : ∀ d : Fin 36, ((dByte d).toNat : Int).toNat.toUInt8 = dByte d := by decide +kernel
theorem gBytes_push (ds : List Nat) (d : Nat) (x : Int) (hx : x = ((dByte d).toNat : Int)) (h : d < 36) : (gBytes ds).push x.toNat.toUInt8 = gBytes (ds ++ [d]) := by
  subst hx
  rw [dByte_round ⟨d, h⟩]
  simp [gBytes]
section
variable {w : World} {A : Around} {E : Value → Shared → Prop} {c : Shared} {h : Heap} {tk : Nat}
theorem r_itemD {value slice : Expr} {x : Int} {u t : Tok} {Q : Value → Shared → Prop} (h0 : 0 ≤ x) (h1 : x < 36)
    (hs : subscripted slice false (.bytes digitsB t) (.int x u) = operate [.bytes digitsB t, .int x u] (getItem (.bytes digitsB t) (.int x u))) (hg : ∀ r, letTemporaryGo value (.bytes digitsB t) r = Pure.pure ())
    (q : TkV c h Q ((dByte x.toNat).toNat : Int)) : wpAny (MM w) A (subscriptTail value slice (.bytes digitsB t) (.int x u)) Q E (Sh c h tk) :=
  subscriptTail_builtin (PySem.W.typeIs_bytes _ _ _) slot_bytes_getitem' (getItem_bytes (l := digitsB.toList) (by decide) h0 (by show x < 36; exact h1) (q _ _)) hs hg
theorem g_call {b : Int} {N : Int} {ds : List Nat} {t u : Tok} {n : Nat} {Q : Value → Shared → Prop} (hg : GenR b N 0 ds) (hsz : ds.length < 100000) (kp : KeepR w h) (hrm : Rm (n + 2) A)
    (q : ∀ h' tk' t, Ext h h' → Q (.bytes (gBytes ds) t) (Sh c h' tk')) : wpC (MM w) A (call (.ref 28) [.int N t, .int b u] []) Q E (Sh c h tk) := by
  refine enterC (body := bdyAt 3) (binds := [("N", .int N t), ("bias", .int b u)]) okG rfl kp (BindsTo.of_eq (by kernel_rfl!)) (by kernel_rfl!) (by kernel_rfl!) (by kernel_rfl!) hrm.lt ?_
  intro L h₁ tk₁ st
  have hrm' : Rm (n + 1) (A.deeper (callEnv fdG L 28)) := hrm.deeper
  refine c_cons (c_assign (by kernel_rfl!) (c_call (by kernel_rfl!) (by kernel_rfl!) ?_))
  repeat' (walk_at "M.e")
  refine c_baNew fun h₂ a k₂ hn hg₂ => ?_
  have st2 := st.adopt k₂ hn hg₂
  clear st hn hg₂ k₂
  refine r_store st2 (by kernel_rfl!) (by walk_at "M.putn") ?_
  intro h₃ tk₃ st3
  clear st2
  try dsimp only
  refine c_cons (wpC_of ?_)
  repeat' (walk_at "M.e")
  try dsimp only
  refine c_cons (c_while (fun n h' => ∃ (M : Int) (j : Nat) (ds1 ds2 : List Nat) (t1 t2 : Tok), St w (callEnv fdG L 28) h [("j", .int (j : Int) t1), ("result", .ref a), ("N", .int M t2), ("bias", .int b u)] [(a, BA (gBytes ds1))] [] h' ∧ GenR b M j ds2 ∧ ds = ds1 ++ ds2 ∧ n = ds2.length)
    ds.length ⟨N, 0, [], ds, _, _, ‹_›, hg, rfl, rfl⟩ ?_)
  rintro n' h4 tk4 ⟨M, j, ds1, ds2, t1, t2, st4, hg4, hd4, rfl⟩
  repeat' (walk_at "M.e")
  refine ⟨fun _ => ?_, fun e => absurd e (by decide)⟩
  refine c_cons (wpC_of ?_)
  repeat' (walk_at "M.e")
  refine can_f okT (St.kph ‹_›) (T_spec (St.kph ‹_›) hrm'.lt ?_)
  intro h5 tk5 t5 k5
  have st5 := st4.ext k5
  clear k5 st4
  repeat' (walk_at "M.e")
  refine c_cons (c_if ?_)
  repeat' (walk_at "M.e")
  refine ⟨fun h1 => ?_, fun h1 => ?_⟩
  · rw [decide_eq_true_eq] at h1
    have hb : ds2 = [M.toNat] ∧ 0 ≤ M := by
      cases hg4 with
      | last h0 _ => exact ⟨rfl, h0⟩
      | more h0 _ => omega
    obtain ⟨rfl, hM0⟩ := hb
    have hT := Tm_hi j b
    have hlen : ds1.length + 1 < 100000 := by rw [hd4, List.length_append] at hsz; exact hsz
    refine c_cons (c_expr (by kernel_rfl!) (by kernel_rfl!) (c_method (by kernel_rfl!) rfl ?_))
    repeat' (walk_at "M.e")
    refine getMethod_ba (St.led ‹_› _ (List.mem_singleton_self _)).1 ?_
    repeat' (walk_at "M.e")
    refine r_itemD hM0 (by omega) (by kernel_rfl!) (fun _ => by kernel_rfl!) ?_
    intro t6 tk6
    refine r_args_nil (can_b ?_)
    have hx := (dByte M.toNat).toNat_lt
    refine c_baAppend (St.led ‹_› _ (List.mem_singleton_self _)).1 (by omega) (by omega) (by rw [sizeLine_eq]; simp [gBytes]; omega) fun h7 hs7 hg7 => ?_
    rw [gBytes_push ds1 M.toNat _ rfl (by omega), ← hd4] at hg7
    rename St w (callEnv fdG L 28) h ((Str.ofString "t", _) :: _) _ _ _ => stx
    have st7 := stx.write .here hs7 hg7 (noTup_of (stx.led _ (List.mem_singleton_self _)).1 (show Value.type "bytearray" ≠ .type "tuple" by decide))
    clear stx
    try dsimp only
    refine c_cons (c_ret (wpC_of ?_))
    repeat' (walk_at "M.e")
    refine r_bytesBA hg7 (by rw [sizeLine_eq]; simp [gBytes]; omega) fun t8 tk8 => ?_
    exact q _ _ _ (St.keep ‹_›)
  · rw [decide_eq_false_iff_not] at h1
    have hb : ∃ ds', ds2 = (Tm j b + (M - Tm j b).fmod (36 - Tm j b)).toNat :: ds' ∧ GenR b ((M - Tm j b).fdiv (36 - Tm j b)) (j + 1) ds' := by
      cases hg4 with
      | last h0 h2 => exact absurd h2 h1
      | more h0 h2 => exact ⟨_, rfl, h2⟩
    obtain ⟨ds', rfl, hg'⟩ := hb
    have hT := Tm_hi j b
    have hT0 := Tm_lo j b
    have hdg := digit_lt (m := M - Tm j b) hT0 hT
    have hlen : ds1.length + (ds'.length + 1) < 100000 := by rw [hd4, List.length_append, List.length_cons] at hsz; exact hsz
    have hne : (36 : Int) - Tm j b ≠ 0 := by omega
    have hna : ((36 : Int) - Tm j b).natAbs < 1073741824 := by omega
    refine c_nil ?_
    try dsimp only
    refine c_cons (c_expr (by kernel_rfl!) (by kernel_rfl!) (c_method (by kernel_rfl!) rfl ?_))
    repeat' (walk_at "M.e")
    refine getMethod_ba (St.led ‹_› _ (List.mem_singleton_self _)).1 ?_
    repeat' (walk_at "M.e")
    refine r_itemD hdg.1 hdg.2 (by kernel_rfl!) (fun _ => by kernel_rfl!) ?_
    intro t6 tk6
    refine r_args_nil (can_b ?_)
    have hx := (dByte (Tm j b + (M - Tm j b).fmod (36 - Tm j b)).toNat).toNat_lt
    refine c_baAppend (St.led ‹_› _ (List.mem_singleton_self _)).1 (by omega) (by omega) (by rw [sizeLine_eq]; simp [gBytes]; omega) fun h7 hs7 hg7 => ?_
    rw [gBytes_push ds1 (Tm j b + (M - Tm j b).fmod (36 - Tm j b)).toNat _ rfl (by omega)] at hg7
    rename St w (callEnv fdG L 28) h ((Str.ofString "t", _) :: _) _ _ _ => stx
    have st7 := stx.write .here hs7 hg7 (noTup_of (stx.led _ (List.mem_singleton_self _)).1 (show Value.type "bytearray" ≠ .type "tuple" by decide))
    clear stx
    try dsimp only
    refine c_cons (wpC_of ?_)
    repeat' (walk_at "M.e")
    try dsimp only
    refine c_cons (wpC_of ?_)
    repeat' (walk_at "M.e")
    try dsimp only
    refine c_nil ?_
    simp only [show (j : Int) + 1 = ((j + 1 : Nat) : Int) from rfl] at *
    refine ⟨_, _, _, rfl, ?_, (M - Tm j b).fdiv (36 - Tm j b), j + 1, ds1 ++ [(Tm j b + (M - Tm j b).fmod (36 - Tm j b)).toNat], ds', _, _, St.sub ‹St w (callEnv fdG L 28) h ((Str.ofString "t", _) :: (Str.ofString "j", Value.int ((j + 1 : Nat) : Int) _) :: _) _ _ _› (by walk_at "M.sub") (by kernel_rfl!), hg', by rw [hd4, List.append_assoc]; rfl, rfl⟩
    rw [List.length_cons]; omega
end
end
section
noncomputable abbrev Γ₀ : Ctx := ⟨.builtin "claim.caller" {}, none, none, [], none⟩
theorem clean₀ : Clean Γ₀ := ⟨by decide +kernel, fun x hx => nomatch hx⟩
theorem ends_at {prog : Program} {w : World} {t : Sem Fin} {s : Shared} {R : Result → Shared → Prop} (hz : s.asleep)
    (h : Sem.wp (model prog w) Γ₀ t (fun fin _ s' => ∃ f, fin = .done f ∧ (R (.ok f) s' ∧ leftWithCleanup s'.gens = false)) (fun e _ s' => R (.error e) s' ∧ leftWithCleanup s'.gens = false) default s) :
    ∃ n r s' s'', runN (denote table) prog w n s ⟨t, .builtin "claim.caller" {}, default, []⟩ = .halted (outcomeOf r) s' ∧
      schedN (denote table) prog w n (.single s ⟨t, .builtin "claim.caller" {}, default, []⟩) = .halted (outcomeOf r) s' ∧ s'.forget = s''.forget ∧ R r s'' := by
  have h2 : Sem.wp (model prog w) Γ₀ t (Sem.finPost (model prog w) Γ₀ (fun r s' => R r s' ∧ leftWithCleanup s'.gens = false)) (fun e _ s' => R (.error e) s' ∧ leftWithCleanup s'.gens = false) default s := by
    refine Sem.wp_mono _ Γ₀ t (fun fin p' s' h' => ?_) (fun _ _ _ h' => h') default s h
    obtain ⟨f, rfl, hf⟩ := h'
    exact hf
  obtain ⟨n, r, s₁, s₂, hs, hn, hfo, hR⟩ := wp_halts_full (M := model prog w) (R := R) hz h2
  exact ⟨n, r, s₂, s₁, hn, hs, hfo, hR⟩
noncomputable def callTree (name : Str) (vs : List Value) : Sem Fin := do match ← nsGet mainNs name with
      | some f => do ret (← PySem.call f vs)
      | none => unsupported "claim.caller:no-such-global"
theorem callFromC {c : ClaimW} {tree : List Value → Sem Fin} {w : World} {s : Shared} {free : Addr → Prop} {gens : Prop} {kept : Heap → Prop} (hz : s.asleep) (hgens : s.gens = #[])
    (spec : ∀ args, c.pre args = true → WData.layableAll args = true → ∀ ord : List DictEntry → List DictEntry, (∀ l, (ord l).Perm l) →
      ∃ vs s₁, layAllW c.records (classAt s.heap) w.params ord args s = some (vs, s₁) ∧
        Sem.wp (model c.prog w) Γ₀ (tree vs) (fun fin _ s' => ∃ f, fin = .done f ∧ (c.Ends s args vs s₁ (.ok f) s' ∧ s'.os = s.os ∧ AllBare s'.gens ∧ kept s'.heap)) (fun _ _ _ => False) default s₁) :
    c.CallFrom (fun vs => ⟨tree vs, .builtin "claim.caller" {}, default, []⟩) w free gens kept s := by
  intro args hpre hlay ord hord
  obtain ⟨vs, s₁, hl, hw⟩ := spec args hpre hlay ord hord
  have hr := layAllW_rest _ _ _ hl
  obtain ⟨k, r, s', s'', hrun, hsch, hfo, hE, hos, hkp⟩ := ends_at (R := fun r s' => c.Ends s args vs s₁ r s' ∧ s'.os = s.os ∧ kept s'.heap) (Shared.asleep_of_life hr.2.2.2 hz)
    (Sem.wp_mono _ Γ₀ _ (fun fin p s' ⟨f, e, h1, h2, h3, h4⟩ => ⟨f, e, ⟨h1, h2, h4⟩, leftWithCleanup_false_of_bare h3⟩) (fun _ _ _ x => x.elim) default s₁ hw)
  obtain ⟨eh, _, _, eo, _⟩ := Shared.forget_eq hfo
  have hE := hE.congr eh
  have hkp : kept s'.heap := by rw [eh]; exact hkp
  rw [← eo] at hos
  have hlf : s'.heap.life = s.heap.life := (runN_life _ _ _ hrun).trans hr.2.2.2
  refine ⟨vs, s₁, hl, k, _, s', hsch, ?_, (fun _ i x hx => by rw [hgens] at hx; simp at hx), hkp, by rw [hlf], Shared.rest_eq hos⟩
  exact hE.imp (fun x => x.imp fun v x => ⟨(congrArg outcomeOf x.1), x.2.1, x.2.2.1, x.2.2.2.1, fun b o y _ => x.2.2.2.2.1 b o y, x.2.2.2.2.2⟩) fun x => x.imp fun e x => x.imp fun ob x => x.imp fun cls x => ⟨(congrArg outcomeOf x.1), x.2.1, x.2.2.1, x.2.2.2.1, x.2.2.2.2.1, fun b o y _ => x.2.2.2.2.2 b o y⟩
noncomputable abbrev CallC (r : RowW) (q : Program) (loose : List Str) : Prop :=
  ∀ (w : World) (s₀ s₁ : Shared) (mg mb : Str → Option Value), Ground q loose r.records (fun _ _ => True) w s₀ mg mb s₁.heap → KeepP w s₁.heap → ∀ (args : List WData) (vs : List Value) (as : List Addr),
    r.claim.pre args = true → WData.layableAll args = true → Laid r.records w s₀ s₁ args vs as → ∃ f, mg r.name = some f ∧
      wpC (model r.prog w) callerA (PySem.call f vs) (fun v s' => GoodWG r.claim (classAt s₀.heap) (ExcName.means s₀.heap) args s₁ (.ok (.ret v)) s') NoE s₁
theorem holdsC {r : OpenRow} {q : Program} {loose : List Str} {d : DefRec} {kwd : List (Str × Expr)} {N : Nat} (left : LeftO r.prog q loose (fun _ => true) (fun s => s.heap) (fun w => HH w.params) N)
    (hdef : defOf q r.name = some (d, kwd)) (hp : r.prog.theDef r.name = some (d.params, d.body, d.scope)) (hk : kwWritten? d.params.kwonlyargs d.params.kw_defaults = some kwd) (hrec : r.records = [])
    (k1 : r.wellSaid = true) (ok : (chainsOk q && opensWell r.prog && (frees r.toRowW && r.within.isEmpty)) = true) (hb : r.prog.bare) (hw : r.toRowW.promised) (call : CallC r.toRowW q loose) : r.Holds := by
  obtain ⟨ok, k5⟩ := Bool.and_eq_true_iff.mp ok
  obtain ⟨hch, o1⟩ := Bool.and_eq_true_iff.mp ok
  obtain ⟨k5, k6⟩ := Bool.and_eq_true_iff.mp k5
  obtain ⟨hsame, hu, ha, hap, hm⟩ := frees_parts k5
  have hwi : r.toRowW.claim.within = [] := List.isEmpty_iff.mp k6
  refine ⟨k1, hw, ⟨hb, o1, by show r.makers.map _ = []; rw [hm]; rfl⟩, hw.witness, fun w => ⟨(left.behind (XP := fun _ _ => True) (fun _ _ => trivial) hch w).1, fun s' hs' => ?_⟩⟩
  obtain ⟨s₀, hf, hg0, s, hT, hz, hgens, hg, G, y⟩ := (left.behind (XP := fun _ _ => True) (fun _ _ => trivial) hch w).2 s' hs'
  have RF : RecFacts r.records s.heap := recFacts_nil hrec
  refine ⟨s₀, hf, hg0, s, hT, fun n hn => ?_, RF.1, RF.2.1, ?_⟩
  · obtain rfl : n = r.name := by split at hn <;> simp_all
    exact pinned_of_view hg G hdef hp hk
  have hgens : s.gens = #[] := Array.eq_empty_of_size_eq_zero (beq_iff_eq.mp hgens)
  have G' : Ground q loose r.records (fun _ _ => True) w s _ _ s.heap := RF.ground G
  refine callFromC (c := r.toRowW.claim) hz hgens fun args hpre hlay ord hord => ?_
  obtain ⟨⟨vs, s₁⟩, hlaid⟩ := Option.isSome_iff_exists.mp (layAllW_isSome (P := w.params) (ord := ord) G'.has args r.args s (pre_splitW hpre).1)
  have keeps := layAllW_keeps _ _ _ hlaid
  have hal := layAllW_rest _ _ _ hlaid
  obtain ⟨as, hrd, hin, hold⟩ := reads_layAllW hord _ _ _ hlaid hlay s₁.heap (fun _ _ e => e)
  have L : Laid r.records w s s₁ args vs as := ⟨⟨ord, hord, hlaid⟩, hrd, hin, hold, keeps, hal.1.trans hgens, hal.2.2.1⟩
  have G₁ := G'.keeps (fun _ _ _ _ _ => trivial) keeps
  obtain ⟨f, hf, h⟩ := call w s s₁ _ _ G₁ (fun b o e => keeps _ _ (by rw [y]; exact e)) args vs as hpre hlay L
  have h' : wpC (model r.prog w) callerA (callTree r.name vs) (fun fin s' => ∃ v, fin = .done (.ret v) ∧ GoodWG r.claim (classAt s.heap) (ExcName.means s.heap) args s₁ (.ok (.ret v)) s') NoE s₁ := by
    unfold callTree
    refine wpC_bind (wpC_of (wpAny_nsGet G₁.T.g ?_))
    rw [hf]
    exact wpC_bind (wpC_mono h (fun v s' g => wpC_pure ⟨_, rfl, g⟩) fun _ _ x => x)
  refine ⟨vs, s₁, hlaid, Sem.wp_mono _ Γ₀ _ (fun fin p s' x => ?_) (fun _ _ _ x => x) default s₁ (h' Γ₀ default caller_in clean₀)⟩
  obtain ⟨v, rfl, g⟩ := x
  have z := g.laid (c := r.toRowW.claim) hsame hwi (ident_freeW hu ha hap) L
  exact ⟨_, rfl, z.1, z.2.1, z.2.2, fun q => ⟨namesKept_of hT hg _ keeps g.2.1.old, by show ∀ x ∈ r.records, _; rw [hrec]; exact fun x hx => nomatch hx⟩⟩
theorem readsAllW_ints_inv {R : WRecords} {cl : Str → Option Addr} {h : Heap} : ∀ {ns : List Int} {vs : List Value} {as : List Addr}, ReadsAllW R cl h vs (ns.map WData.int) as → IntsAre vs ns
  | [], _, _, r => by cases r; exact .nil
  | n :: ns, _, _, r => by
    cases r with
    | cons r1 r2 => cases r1; exact .cons _ _ (readsAllW_ints_inv r2)
noncomputable abbrev LawC (oLaw : Addr) : Prop := ∀ (w : World) (h : Heap) (tk : Nat) (c : Shared) (l : Addr) (vs : List Value) (ns : List Int), KeepP w h → h.IsList l vs.toArray → IntsAre vs ns → ns.length ≤ 63 →
  wpC (MM w) callerA (call (.ref oLaw) [.ref l] []) (fun v s' => ∃ h' tk' ps, v = .bool true ∧ s' = Sh c h' tk' ∧ Heap.ExtBut tabA h h' ∧ h'.get? tabA = some (tabObj ps)) NoE (Sh c h tk)
theorem pre_false {R : WRecords} {Z : WTm} {ds : List WData} (hlt : ((63 : Nat) : Int) < (ds.length : Int)) (h : WTm.holds R (.and (.not (.lt (.lit (.int ((63 : Nat) : Int))) (.len (.arg 0)))) Z) { args := [.list ds] } = true) : False := by
  have hx : WTm.value R (.lt (.lit (.int ((63 : Nat) : Int))) (.len (.arg 0))) { args := [.list ds] } = some (.bool (decide (((63 : Nat) : Int) < (ds.length : Int)))) := rfl
  rw [decide_eq_true hlt] at hx
  have hv : WTm.value R (.and (.not (.lt (.lit (.int ((63 : Nat) : Int))) (.len (.arg 0)))) Z) { args := [.list ds] } = some (.bool false) := by
    rw [WTm.value, WTm.value, hx]; rfl
  delta WTm.holds at h
  rw [hv] at h
  exact Bool.noConfusion (show false = true from h)
theorem holds_res (R : WRecords) (e : WCtx) (he : e.res = some (.bool true)) : WTm.holds R (WTm.eq .res (.lit (.bool true))) e = true := by
  have hr : WTm.value R .res e = some (.bool true) := by rw [WTm.value]; exact he
  have hv : WTm.value R (WTm.eq .res (.lit (.bool true))) e = some (.bool true) := by
    have hl : WTm.value R (.lit (.bool true)) e = some (.bool true) := by rw [WTm.value]
    have hs : same (WData.bool true) (WData.bool true) = true := by first | decide +kernel | simp [same]
    rw [WTm.value, hr, hl]
    show some (WData.bool (same (WData.bool true) (WData.bool true))) = _
    rw [hs]
  delta WTm.holds
  rw [hv]
theorem callC_of {r : OpenLaw} {q : Program} {loose : List Str} {oLaw : Addr} (hP : r.prog = pE) (hm : r.most = some 63) (hn : ∀ P, nsFind (globE P) r.name = some (.ref oLaw)) (law : LawC oLaw) : CallC r.row.toRowW q loose := by
  intro w s₀ s₁ mg mb G kp args vs as hpre hlay L
  obtain ⟨h1, h2⟩ := pre_splitW hpre
  obtain ⟨d, ds, rfl, h3, h4⟩ := hasAllW_cons h1
  obtain rfl := hasAllW_nil h4
  obtain ⟨xs, rfl, h5⟩ := hasW_list h3
  obtain ⟨ns, rfl⟩ := items_int h5
  have hlen : ns.length ≤ 63 := by
    have e : r.row.toRowW.pre = r.pre := rfl
    rw [e] at h2
    delta OpenLaw.pre at h2
    rw [hm] at h2
    rcases Nat.lt_or_ge 63 ns.length with hlt | hge
    · refine (pre_false (Int.ofNat_lt.mpr ?_) h2).elim
      rw [List.length_map]; exact hlt
    · exact hge
  have hr := L.reads
  cases hr with
  | cons r1 r2 =>
    cases r2
    cases r1 with
    | list ho hc hd hr =>
      rename_i a o vs n as
      have hl : s₁.heap.IsList a vs := ⟨o, ho, hc, n, hd⟩
      refine ⟨.ref oLaw, ?_, ?_⟩
      · have h1 := G.T.g
        have h2 := (hh_glob w.params).keeps kp.r
        exact (h1.agree h2 _).trans (hn _)
      · have hP' : r.row.toRowW.prog = pE := hP
        show wpC (model r.row.toRowW.prog w) callerA (call (.ref oLaw) [.ref a] []) _ NoE s₁
        rw [hP']
        have law' := law w s₁.heap s₁.toks s₁ a vs.toList ns kp hl (readsAllW_ints_inv hr) hlen
        refine wpC_mono law' (fun v s' x => ?_) fun _ _ x => x
        obtain ⟨h', tk', ps, rfl, rfl, kx, kt⟩ := x
        have k : OldK s₁.heap h' := (OldK.refl s₁.heap).step_table kp.at kp.at (more := ps) ⟨let ⟨o, vs, e1, e2⟩ := kp.at.1; ⟨o, vs, kx _ _ (by decide) e1, e2⟩, by rw [kt]; simp⟩ kx (by decide)
        refine ⟨.inl ⟨.bool true, .bool true, [], rfl, fun _ => rfl, .bool true, ?_, fun _ => ⟨.nil, fun _ h => nomatch h⟩⟩, k, rfl, .of_eq L.gens⟩
        exact holds_res _ _ rfl
theorem holds_of_law {r : OpenLaw} {q : Program} {loose : List Str} {d : DefRec} {kwd : List (Str × Expr)} {N : Nat} {oLaw : Addr} (left : LeftO r.row.prog q loose (fun _ => true) (fun s => s.heap) (fun w => HH w.params) N)
    (hdef : defOf q r.name = some (d, kwd)) (hp : r.prog.theDef r.name = some (d.params, d.body, d.scope)) (hk : kwWritten? d.params.kwonlyargs d.params.kw_defaults = some kwd)
    (ok : (chainsOk q && opensWell r.prog && (frees r.row.toRowW && r.row.within.isEmpty)) = true) (hb : r.prog.bare) (hw : r.row.toRowW.promised) (k0 : r.wellSaid = true)
    (hP : r.prog = pE) (hm : r.most = some 63) (hn : ∀ P, nsFind (globE P) r.name = some (.ref oLaw)) (law : LawC oLaw) : r.Holds :=
  holds_law k0 fun k1 => holdsC (r := r.row) left hdef hp hk rfl k1 ok hb hw (callC_of hP hm hn law)
end
section
theorem k0_01 : PySem.Challenge.rw_wb0081_01.wellSaid = true := by kernel_rfl!
theorem holds_from_law2 (law : LawC 187) : PySem.Challenge.rw_wb0081_01.Holds := by
  refine holds_of_law (q := qV) (loose := looseN) (d := dLaw) (kwd := []) (N := NN) left ?hdef ?hp ?hk (by kernel_rfl!) ?hb ?hw k0_01 rfl rfl (fun P => by kernel_rfl!) law
  case hdef => kernel_rfl!
  case hp => kernel_rfl!
  case hk => kernel_rfl!
  case hw => w_witness2
  case hb => exact ⟨rfl, rfl, rfl, rfl, rfl, by kernel_rfl!⟩
end
section
noncomputable def Slots (fs : List Addr) (h h' : Heap) : Prop := ∀ b o, h.get? b = some o → ∃ sl, h'.get? b = some { o with slots := sl } ∧ (b ∉ fs → sl = o.slots)
theorem Slots.of_ext {fs : List Addr} {h h' : Heap} (k : Ext h h') : Slots fs h h' := fun b o e => ⟨o.slots, k b o e, fun _ => rfl⟩
theorem Slots.trans {fs : List Addr} {a b c : Heap} (x : Slots fs a b) (y : Slots fs b c) : Slots fs a c := fun p o e => by
  obtain ⟨s1, e1, f1⟩ := x p o e
  obtain ⟨s2, e2, f2⟩ := y p _ e1
  exact ⟨s2, e2, fun n => (f2 n).trans (f1 n)⟩
theorem Slots.off {fs : List Addr} {h h' : Heap} (x : Slots fs h h') {b : Addr} {o : Obj} (e : h.get? b = some o) (hb : b ∉ fs) : h'.get? b = some o := by
  obtain ⟨sl, e1, f⟩ := x b o e
  rw [e1, f hb]
theorem strip_get {h : Heap} {b : Addr} : ∃ h' : Heap, h'.get? b = none ∧ ∀ c, c ≠ b → h'.get? c = h.get? c := by
  refine ⟨h.update b (fun o => { o with data := .freed }), ?_, fun c hc => Heap.get?_update_other _ _ (Ne.symm hc)⟩
  cases e : (h.update b (fun o => { o with data := .freed })).get? b with
  | none => rfl
  | some o =>
    obtain ⟨e1, e2⟩ := Heap.get?_some_iff.mp e
    obtain ⟨objs, l⟩ := h
    simp only [Heap.update, Array.getElem?_modify, if_true] at e1
    obtain ⟨o', -, rfl⟩ := Option.map_eq_some_iff.mp e1
    exact absurd e2 (by simp [Obj.isFreed])
theorem strip (fs : List Addr) (h : Heap) : ∃ h' : Heap, (∀ b ∈ fs, h'.get? b = none) ∧ ∀ c, c ∉ fs → h'.get? c = h.get? c := by
  induction fs with
  | nil => exact ⟨h, fun _ hb => (nomatch hb), fun _ _ => rfl⟩
  | cons b r ih =>
    obtain ⟨h1, a1, a2⟩ := ih
    obtain ⟨h2, b1, b2⟩ := strip_get (h := h1) (b := b)
    refine ⟨h2, fun c hc => ?_, fun c hc => ?_⟩
    · by_cases e : c = b
      · rw [e]; exact b1
      · rw [b2 c e]; exact a1 c ((List.mem_cons.mp hc).resolve_left e)
    · rw [b2 c (fun e => hc (e ▸ .head _))]
      exact a2 c fun hm => hc (.tail _ hm)
section
variable {w : World} {env : Env} {h₀ h h' : Heap} {vs : List (Str × Value)} {ns ns' : List (Addr × Obj)} {rs : List (Value × D)}
theorem St.rebase {base : Heap} {fl : List (Addr × Obj)} (st : St w env h₀ vs ns rs h) (kp : KeepR w base) (hb : Ext base h₀) (hfl : ∀ p ∈ fl, h₀.get? p.1 = some p.2 ∧ base.get? p.1 = none) (hnd : (fl.map (·.1)).Nodup) :
    St w env base vs (ns ++ fl) rs h := by
  have sub : ∀ b, h₀.get? b = none → base.get? b = none := fun b e => by
    cases e' : base.get? b with
    | none => rfl
    | some o => rw [hb _ _ e'] at e; cases e
  refine ⟨kp, hb.trans st.keep, st.fk, st.eg, st.eb, st.loc, st.nd, sub _ st.old, fun p hp => ?_, ?_, st.rep⟩
  · rcases List.mem_append.mp hp with hp | hp
    · exact ⟨(st.led p hp).1, sub _ (st.led p hp).2⟩
    · exact ⟨st.keep _ _ (hfl p hp).1, (hfl p hp).2⟩
  · have d := List.nodup_cons.mp st.dis
    rw [List.map_append]
    refine List.nodup_cons.mpr ⟨fun hm => ?_, List.nodup_append.mpr ⟨d.2, hnd, fun a ha b hb e => ?_⟩⟩
    · rcases List.mem_append.mp hm with hm | hm
      · exact d.1 hm
      · obtain ⟨p, hp, e⟩ := List.mem_map.mp hm
        have := (hfl p hp).1
        rw [e, st.old] at this; cases this
    · subst e
      obtain ⟨p, hp, e1⟩ := List.mem_map.mp ha
      obtain ⟨q, hq, e2⟩ := List.mem_map.mp hb
      have h1 := (st.led p hp).2
      have h2 := (hfl q hq).1
      rw [e2, ← e1, h1] at h2; cases h2
end
inductive LedUp : List (Addr × Obj) → List (Addr × Obj) → Prop
  | nil : LedUp [] []
  | cons {a : Addr} {o : Obj} {sl : Array (Option Value)} {r r' : List (Addr × Obj)} : LedUp r r' → LedUp ((a, o) :: r) ((a, { o with slots := sl }) :: r')
theorem LedUp.keys {r r' : List (Addr × Obj)} (x : LedUp r r') : r'.map (·.1) = r.map (·.1) := by
  induction x with
  | nil => rfl
  | cons _ ih => rw [List.map_cons, List.map_cons, ih]
section
variable {w : World} {env : Env} {h₀ h h' : Heap} {vs : List (Str × Value)} {ns ns' : List (Addr × Obj)} {rs : List (Value × D)}
theorem led_up (up : h.UpToSlots h') : ∀ {ns : List (Addr × Obj)}, (∀ p ∈ ns, h.get? p.1 = some p.2 ∧ h₀.get? p.1 = none) → (∀ p ∈ ns, ∀ vs, p.2.data ≠ .fields vs) → ∃ ns', LedUp ns ns' ∧ ∀ p ∈ ns', h'.get? p.1 = some p.2 ∧ h₀.get? p.1 = none
  | [], _, _ => ⟨[], .nil, fun _ hp => (nomatch hp)⟩
  | (a, o) :: r, hl, hf => by
    obtain ⟨r', x, y⟩ := led_up up (ns := r) (fun p hp => hl p (.tail _ hp)) (fun p hp => hf p (.tail _ hp))
    obtain ⟨sl, e⟩ := up a o (hl _ (.head _)).1 (hf _ (.head _))
    refine ⟨_, .cons (sl := sl) x, fun p hp => ?_⟩
    rcases List.mem_cons.mp hp with rfl | hp
    · exact ⟨e, (hl _ (.head _)).2⟩
    · exact y p hp
theorem upTo_tups (up : h.UpToSlots h') : Tups h h' := fun a items ⟨o, ho, hc, n, hd⟩ => by
  obtain ⟨sl, e⟩ := up a o ho (fun vs q => by rw [hd] at q; cases q)
  exact ⟨_, e, hc, n, hd⟩
theorem St.upTo (st : St w env h₀ vs ns rs h) (hb : h₀.StaysIn h') (up : h.UpToSlots h') (hf : ∀ p ∈ ns, ∀ vs, p.2.data ≠ .fields vs) : ∃ ns', LedUp ns ns' ∧ St w env h₀ vs ns' rs h' := by
  obtain ⟨ns', x, y⟩ := led_up up st.led hf
  obtain ⟨m, a, b⟩ := st.loc
  exact ⟨ns', x, st.kp, hb, st.fk, st.eg, st.eb, ⟨m, up.ns a, b⟩, st.nd, st.old, y, by rw [x.keys]; exact st.dis, fun r hr => (st.rep r hr).mono (upTo_tups up)⟩
end
end
section
theorem meets_bytes_out (b : Array UInt8) (i : Int) (t u : Tok) (hr : Builtin.Bytes.fitsIndex i = true) (h : (seqIndex? i b.size).bind (b[·]?) = none) : Meets (Builtin.«bytes.__getitem__» ⟨[.bytes b t, .int i u], []⟩) (raisesNew "IndexError") := fun prog w A R s q => by
  show wpAny _ A.in1 (Builtin.Bytes.subscript? (.int i u) >>= fun r => _) _ _ s
  refine wpAny_bind ?_
  unfold Builtin.Bytes.subscript?
  refine wpAny_bind (wpAny_specialOf (typeIs_int s i u) PySem.F.slot_int_index.lookup ?_)
  show wpAny _ A.in1 (if (!Builtin.Bytes.fitsIndex i) = true then _ else pure (some i)) _ _ s
  rw [hr]
  refine wpAny_pure ?_
  show wpAny _ A.in1 (match (seqIndex? i b.size).bind (b[·]?) with | some x => retInt x.toNat | none => (rule "bytes.__getitem__.out-of-range" >>= fun _ => raiseErrorWords "IndexError" "index out of range" >>= fun r => _)) _ _ s
  rw [h]
  exact wpAny_bind (wpAny_rule (wpAny_bind (wpAny_raiseErrorWords plainExc_IndexError q.1 q.2)))
section
variable {w : World} {A : Around} {E : Value → Shared → Prop} {c : Shared} {h : Heap} {tk : Nat}
theorem getItem_bytes_out {l : List UInt8} {i : Int} {t u : Tok} {Q : Value → Shared → Prop} (hA : A.handled = none) (hfit : l.length ≤ 1099511627776) (h0 : (l.length : Int) ≤ i) (h1 : i < 2 ^ 62)
    (q : ∀ h' tk' e, Heap.NewExc h h' e "IndexError" → E (.ref e) (Sh c h' tk')) : wpAny (MM w) A (getItem (.bytes l.toArray t) (.int i u)) Q E (Sh c h tk) := by
  refine getItem_meets (PySem.W.typeIs_bytes _ _ _) (by decide) PySem.W.FB.slot_bytes_getitem PySem.W.FB.entry_bytes_getitem (PySem.W.FB.args_bytes_getitem_2 _ _) (meets_bytes_out _ _ _ _ ?_ ?_) ⟨hA, fun h' tk' e x => q h' tk' e x⟩
  · simp only [Builtin.Bytes.fitsIndex, Bool.and_eq_true, decide_eq_true_eq]; (first | lia | omega)
  · have : seqIndex? i l.toArray.size = none := by
      have hn : ¬ i < 0 := by (first | lia | omega)
      simp [seqIndex?, hn]; (first | lia | omega)
    rw [this]; rfl
end
end
section
section
variable {w : World} {env : Env} {base h₀ h h' : Heap} {vs : List (Str × Value)} {ns ns' : List (Addr × Obj)} {rs : List (Value × D)} {A : Around} {E : Value → Shared → Prop} {c : Shared} {tk : Nat}
theorem land {outer : List Env} {L e : Addr} {cls : String} {a0 : Value} {x : Str} {xp pos : Pos} {b₀ : Stmt} {suite : List Stmt} {Q : Flow → Shared → Prop} (st : St w env base vs ns rs h)
    (hfl : Heap.FlyingW base (env :: outer) e (.type cls) a0 h) (hexc : isSubtype (.type cls) (.type "BaseException") = Pure.pure true) (hnt : isSubtype (.type ((Manifest.find? cls).elim "type" fun x => x.metatype)) (.type "tuple") = Pure.pure false)
    (hsub : isSubtype (.type cls) (.type cls) = Pure.pure true) (hk : env.kindOf x = some .globalImplicit) (hm : (x, .type cls) ∈ builtL) (hd : (x == ("__debug__" : Str)) = false) (hnf : ∀ p ∈ ns, ∀ vs, p.2.data ≠ .fields vs)
    (q : ∀ h'' ns', LedUp ns ns' → St w env base vs ns' rs h'' → Heap.FlyingW base (env :: outer) e (.type cls) a0 h'' → h.UpToSlots h'' →
      wpAny (MM w) (A.mark (some (.ref e))) (execs (b₀ :: suite) env) Q (notedBy (MM w) (A.mark (some (.ref e))) env (cameBackBy (MM w) A env E)) (Sh c h'' tk)) :
    wpAny (MM w) A (handleBy (.ref e) env [.ExceptHandler (some (.Name x xp)) none (b₀ :: suite) pos]) Q E (Sh c h tk) := by
  refine wpAny_handleBy_builtin (b := true) hexc hnt hsub ?_
  refine r_bname st hk hm hd ⟨rfl, hfl.there, ?_⟩
  rw [if_pos rfl]
  obtain ⟨f1, f2, f3, f4⟩ := hfl
  refine wpAny_setFlight_noneW (s := Sh c h tk) f1 f3 f4.at fun h3 m1 m2 m3 m4 => ?_
  have up : h.UpToSlots h3 := fun b o hb hn => ⟨o.slots, m4 b o hb hn⟩
  obtain ⟨ns', x, st'⟩ := st.upTo m1 up hnf
  exact q h3 ns' x st' ⟨m1, f2, m2, m3⟩ up
end
end
section
noncomputable def fsOf (l : List Env) : List Addr := l.filterMap (·.frame)
noncomputable def FFr (w : World) (h : Heap) : List Env → Prop
  | [] => True
  | env :: r => env.scope.kind ≠ .module ∧ (∃ L o, env.frame = some L ∧ (HL w.params).get? L = none ∧ h.get? L = some o ∧ (∀ vs, o.data ≠ .fields vs) ∧ L ∉ fsOf r) ∧ FFr w h r
section
variable {w : World} {env : Env} {base h₀ h h' : Heap} {vs : List (Str × Value)} {ns ns' : List (Addr × Obj)} {rs : List (Value × D)} {l : List Env}
theorem fsOf_cons {L : Addr} (hf : env.frame = some L) : fsOf (env :: l) = L :: fsOf l := by unfold fsOf; rw [List.filterMap_cons, hf]
theorem FFr.nodup : ∀ {l : List Env}, FFr w h l → (fsOf l).Nodup
  | [], _ => List.nodup_nil
  | env :: r, ⟨_, ⟨L, o, hf, _, _, _, hn⟩, hr⟩ => by rw [fsOf_cons hf]; exact List.nodup_cons.mpr ⟨hn, FFr.nodup hr⟩
theorem FFr.fl : ∀ {l : List Env}, FFr w h l → ∃ fl : List (Addr × Obj), fl.map (·.1) = fsOf l ∧ ∀ p ∈ fl, h.get? p.1 = some p.2 ∧ (HL w.params).get? p.1 = none ∧ ∀ vs, p.2.data ≠ .fields vs
  | [], _ => ⟨[], rfl, fun _ hp => nomatch hp⟩
  | env :: r, ⟨_, ⟨L, o, hf, h0, ho, hd, hn⟩, hr⟩ => by
    obtain ⟨fl, e, x⟩ := FFr.fl hr
    refine ⟨(L, o) :: fl, by rw [fsOf_cons hf, List.map_cons, e], fun p hp => ?_⟩
    rcases List.mem_cons.mp hp with rfl | hp
    · exact ⟨ho, h0, hd⟩
    · exact x p hp
theorem FFr.cut (kp : KeepR w h) (ff : FFr w h l) : ∃ (base : Heap) (fl : List (Addr × Obj)), KeepR w base ∧ Ext base h ∧ (∀ p ∈ fl, h.get? p.1 = some p.2 ∧ base.get? p.1 = none) ∧ fl.map (·.1) = fsOf l ∧
    (∀ p ∈ fl, ∀ vs, p.2.data ≠ .fields vs) ∧ (∀ b, b ∉ fsOf l → base.get? b = h.get? b) ∧ (∀ b ∈ fsOf l, base.get? b = none) := by
  obtain ⟨fl, e, x⟩ := ff.fl
  obtain ⟨base, b1, b2⟩ := strip (fsOf l) h
  have k : Ext base h := fun b o hb => by
    by_cases hm : b ∈ fsOf l
    · rw [b1 b hm] at hb; cases hb
    · rw [← b2 b hm]; exact hb
  refine ⟨base, fl, fun b o hb => ?_, k, fun p hp => ⟨(x p hp).1, b1 _ (e ▸ List.mem_map_of_mem hp)⟩, e, fun p hp => (x p hp).2.2, b2, b1⟩
  by_cases hm : b ∈ fsOf l
  · rw [← e] at hm
    obtain ⟨p, hp, rfl⟩ := List.mem_map.mp hm
    rw [(x p hp).2.1] at hb; cases hb
  · rw [b2 b hm]; exact kp b o hb
theorem FFr.kinds : ∀ {l : List Env}, FFr w h l → ∀ e ∈ l, e.scope.kind ≠ .module ∧ ∃ L, e.frame = some L
  | [], _ => fun _ he => nomatch he
  | env :: r, ⟨hk, ⟨L, _, hf, _⟩, hr⟩ => fun e he => by
    rcases List.mem_cons.mp he with rfl | he
    · exact ⟨hk, L, hf⟩
    · exact FFr.kinds hr e he
theorem ff_led (hl : ∀ p ∈ ns, h.get? p.1 = some p.2 ∧ base.get? p.1 = none) (hnf : ∀ p ∈ ns, ∀ vs, p.2.data ≠ .fields vs) : ∀ {l : List Env}, (∀ e ∈ l, e.scope.kind ≠ .module ∧ ∃ L, e.frame = some L) → (∀ L ∈ fsOf l, L ∈ ns.map (·.1)) → h.FunFrames base l
  | [], _, _ => trivial
  | env :: r, hk, hs => by
    obtain ⟨k, L, hf⟩ := hk env (.head _)
    rw [fsOf_cons hf] at hs
    obtain ⟨p, hp, e⟩ := List.mem_map.mp (hs L (.head _))
    exact ⟨k, ⟨L, p.2, hf, e ▸ (hl p hp).2, e ▸ (hl p hp).1, hnf p hp⟩, ff_led hl hnf (fun e he => hk e (.tail _ he)) fun L' hL' => hs L' (.tail _ hL')⟩
theorem St.ff (st : St w env base vs ns rs h) (hf : env.frame = some env.locals) (hnf : ∀ p ∈ ns, ∀ vs, p.2.data ≠ .fields vs) (hk : ∀ e ∈ l, e.scope.kind ≠ .module ∧ ∃ L, e.frame = some L) (hl : ∀ L ∈ fsOf l, L ∈ ns.map (·.1)) : h.FunFrames base (env :: l) := by
  obtain ⟨m, hm, _⟩ := st.loc
  exact Heap.FunFrames.cons (by rw [st.fk]; decide) hf hm st.old (ff_led st.led hnf hk hl)
theorem led_sub (kb : KeepR w base) (hl : ∀ p ∈ ns, h.get? p.1 = some p.2 ∧ base.get? p.1 = none) (hnf : ∀ p ∈ ns, ∀ vs, p.2.data ≠ .fields vs) : ∀ {l : List Env}, (∀ e ∈ l, e.scope.kind ≠ .module ∧ ∃ L, e.frame = some L) → (∀ L ∈ fsOf l, L ∈ ns.map (·.1)) → (fsOf l).Nodup → FFr w h l
  | [], _, _, _ => trivial
  | env :: r, hk, hs, hn => by
    obtain ⟨k, L, hf⟩ := hk env (.head _)
    rw [fsOf_cons hf] at hs hn
    obtain ⟨p, hp, e⟩ := List.mem_map.mp (hs L (.head _))
    have n := List.nodup_cons.mp hn
    refine ⟨k, ⟨L, p.2, hf, ?_, e ▸ (hl p hp).1, hnf p hp, n.1⟩, led_sub kb hl hnf (fun e he => hk e (.tail _ he)) (fun L' hL' => hs L' (.tail _ hL')) n.2⟩
    cases q : (HL w.params).get? L with
    | none => rfl
    | some o => have := kb _ _ q; rw [← e, (hl p hp).2] at this; cases this
theorem St.ffr (st : St w env base vs ns rs h) (hf : env.frame = some env.locals) (hnf : ∀ p ∈ ns, p.1 ∈ fsOf l → ∀ vs, p.2.data ≠ .fields vs) (hk : ∀ e ∈ l, e.scope.kind ≠ .module ∧ ∃ L, e.frame = some L) (hl : ∀ L ∈ fsOf l, L ∈ ns.map (·.1)) (hn : (fsOf l).Nodup) : FFr w h (env :: l) := by
  obtain ⟨m, hm, _⟩ := st.loc
  obtain ⟨o, es, ep, ho, hd, _⟩ := hm
  refine ⟨by rw [st.fk]; decide, ⟨env.locals, o, hf, ?_, ho, fun vs e => (by rw [hd] at e; cases e), fun hm => (List.nodup_cons.mp st.dis).1 (hl _ hm)⟩, ?_⟩
  · cases q : (HL w.params).get? env.locals with
    | none => rfl
    | some o => have := st.kp _ _ q; rw [st.old] at this; cases this
  · refine led_sub (ns := ns.filter fun p => decide (p.1 ∈ fsOf l)) st.kp (fun p hp => st.led p (List.mem_filter.mp hp).1) (fun p hp => hnf p (List.mem_filter.mp hp).1 (by simpa using (List.mem_filter.mp hp).2)) hk (fun L hL => ?_) hn
    obtain ⟨p, hp, e⟩ := List.mem_map.mp (hl L hL)
    exact List.mem_map.mpr ⟨p, List.mem_filter.mpr ⟨hp, by simpa [e] using hL⟩, e⟩
theorem LedUp.mem {r r' : List (Addr × Obj)} (x : LedUp r r') : ∀ p ∈ r, ∃ sl, (p.1, { p.2 with slots := sl }) ∈ r' := by
  induction x with
  | nil => exact fun p hp => nomatch hp
  | cons _ ih => exact fun p hp => (List.mem_cons.mp hp).elim (fun e => e ▸ ⟨_, .head _⟩) fun hp => (ih p hp).imp fun _ h => .tail _ h
theorem LedUp.refl (r : List (Addr × Obj)) : LedUp r r := by
  induction r with
  | nil => exact .nil
  | cons p r ih => exact .cons (o := p.2) (sl := p.2.slots) ih
theorem LedUp.trans {a b c : List (Addr × Obj)} (x : LedUp a b) : LedUp b c → LedUp a c := by
  induction x generalizing c with
  | nil => exact fun y => y
  | cons _ ih => exact fun y => by cases y with | cons y => exact .cons (ih y)
theorem LedUp.nf {r r' : List (Addr × Obj)} (x : LedUp r r') : (∀ p ∈ r, ∀ vs, p.2.data ≠ .fields vs) → ∀ p ∈ r', ∀ vs, p.2.data ≠ .fields vs := by
  induction x with
  | nil => exact fun h => h
  | @cons a o sl r r' _ ih => exact fun hn p hp => (List.mem_cons.mp hp).elim (fun e => by subst e; exact hn (a, o) (.head _)) fun hp => ih (fun q hq => hn q (.tail _ hq)) p hp
theorem slots_of {fl fl' : List (Addr × Obj)} (st : St w env base vs fl' rs h') (up : LedUp fl fl') (hfl : ∀ p ∈ fl, h.get? p.1 = some p.2) (hm : fl.map (·.1) = fsOf l) (hb : ∀ b, b ∉ fsOf l → base.get? b = h.get? b) : Slots (fsOf l) h h' := fun b o e => by
  by_cases hin : b ∈ fsOf l
  · rw [← hm] at hin
    obtain ⟨p, hp, rfl⟩ := List.mem_map.mp hin
    obtain ⟨sl, hs⟩ := up.mem p hp
    have e2 := hfl p hp
    rw [e] at e2; cases e2
    exact ⟨sl, (st.led _ hs).1, fun hn => absurd (hm ▸ hin) hn⟩
  · refine ⟨o.slots, st.keep _ _ ((hb b hin).trans e), fun _ => rfl⟩
theorem Slots.tups {fs : List Addr} (x : Slots fs h h') : Tups h h' := fun a items ⟨o, ho, hc, n, hd⟩ => by
  obtain ⟨sl, e, _⟩ := x a o ho
  exact ⟨_, e, hc, n, hd⟩
theorem led_slots {fs : List Addr} (x : Slots fs h h') : ∀ {ns : List (Addr × Obj)}, (∀ p ∈ ns, h.get? p.1 = some p.2 ∧ base.get? p.1 = none) → ∃ ns', LedUp ns ns' ∧ ∀ p ∈ ns', h'.get? p.1 = some p.2 ∧ base.get? p.1 = none
  | [], _ => ⟨[], .nil, fun _ hp => nomatch hp⟩
  | (a, o) :: r, hl => by
    obtain ⟨r', u, y⟩ := led_slots x (ns := r) fun p hp => hl p (.tail _ hp)
    obtain ⟨sl, e, _⟩ := x a o (hl _ (.head _)).1
    refine ⟨_, .cons (sl := sl) u, fun p hp => ?_⟩
    rcases List.mem_cons.mp hp with rfl | hp
    · exact ⟨e, (hl _ (.head _)).2⟩
    · exact y p hp
theorem St.slots {fs : List Addr} {ns₁ ns₂ : List (Addr × Obj)} (st : St w env base vs (ns₁ ++ ns₂) rs h) (x : Slots fs h h') (hfs : ∀ L ∈ fs, base.get? L = none) (h1 : ∀ p ∈ ns₁, p.1 ∉ fs) :
    ∃ ns₂', LedUp ns₂ ns₂' ∧ St w env base vs (ns₁ ++ ns₂') rs h' := by
  obtain ⟨ns₂', u, y⟩ := led_slots x (ns := ns₂) (base := base) fun p hp => st.led p (List.mem_append_right _ hp)
  obtain ⟨m, ⟨o, es, ep, ho, hd, r⟩, b⟩ := st.loc
  obtain ⟨sl, e, _⟩ := x _ o ho
  refine ⟨ns₂', u, st.kp, fun b o hb => x.off (st.keep b o hb) (fun hm => by rw [hfs b hm] at hb; cases hb), st.fk, st.eg, st.eb, ⟨m, ⟨_, es, ep, e, hd, r⟩, b⟩, st.nd, st.old, fun p hp => ?_, ?_, fun r hr => (st.rep r hr).mono x.tups⟩
  · rcases List.mem_append.mp hp with hp | hp
    · exact ⟨x.off (st.led p (List.mem_append_left _ hp)).1 (h1 p hp), (st.led p (List.mem_append_left _ hp)).2⟩
    · exact y p hp
  · have := st.dis
    rw [List.map_append] at this ⊢
    rw [u.keys]; exact this
theorem flying_anti {e : Addr} {cls a0 : Value} {base₂ : Heap} (k : Ext base₂ base) (x : Heap.FlyingW base l e cls a0 h) : Heap.FlyingW base₂ l e cls a0 h := by
  obtain ⟨f1, f2, f3, f4⟩ := x
  have sub : ∀ b, base.get? b = none → base₂.get? b = none := fun b e => by
    cases e' : base₂.get? b with
    | none => rfl
    | some o => rw [k _ _ e'] at e; cases e
  refine ⟨k.trans f1, sub _ f2, ?_, ?_⟩
  · clear f4
    induction l with
    | nil => trivial
    | cons env r ih =>
      obtain ⟨hk, ⟨L, o, hf, hn, ho, hd⟩, hr⟩ := f3
      exact ⟨hk, ⟨L, o, hf, sub _ hn, ho, hd⟩, ih hr⟩
  · obtain ⟨oe, vs, T, oT, ts, he, hc, hd, h1, hnT, r⟩ := f4
    exact ⟨oe, vs, T, oT, ts, he, hc, hd, h1, sub _ hnT, r⟩
end
end
section
section
variable {w : World} {env : Env} {A : Around} {E : Value → Shared → Prop} {c : Shared} {h : Heap} {tk : Nat}
theorem r_chain2 {l m r : Expr} {o1 o2 : CmpOp} {p : Pos} {whole : Sem Value} {Q : Bool → Shared → Prop} (hm : lastMarks [o1, o2] [m, r] = false)
    (q : wpAny (MM w) A (eval l env) (fun a s₁ => wpAny (MM w) A (eval m env) (fun b s₂ => wpAny (MM w) A (compareOp o1 a b) (fun x s₃ => wpAny (MM w) A (truthy x) (fun t s₄ =>
        (t = true → wpAny (MM w) A (eval r env) (fun d s₅ => wpAny (MM w) A (compareOp o2 b d) (fun e s₆ => wpAny (MM w) A (truthy e) Q E s₆) E s₅) E s₄) ∧ (t = false → Q false s₄)) E s₃) E s₂) E s₁) E (Sh c h tk)) :
    wpAny (MM w) A (PySem.isTrue (.Compare l [o1, o2] [m, r] p) env whole) Q E (Sh c h tk) := by
  refine isTrue_chain (wpAny_mono q (fun a s₁ q₁ => test_link (wpAny_mono q₁ (fun b s₂ q₂ => wpAny_mono q₂ (fun x s₃ q₃ => wpAny_mono q₃ (fun t s₄ q₄ => ?_) fun _ _ x => x) fun _ _ x => x) fun _ _ x => x)) fun _ _ x => x) hm
  cases t with
  | true => exact test_last (q₄.1 rfl)
  | false => exact q₄.2 rfl
theorem r_tuple {elts : List Expr} {k : Nat} {pos : Pos} {Q : Value → Shared → Prop} (hp : elts.all notStar = true)
    (q : wArgs w A env E elts (fun vs s₁ => ∃ h₁ tk₁, s₁ = Sh c h₁ tk₁ ∧ vs.length < 100000 ∧ Q (.ref h₁.objs.size) (Sh c (h₁.push { cls := .type "tuple", data := .seq vs.toArray }) tk₁)) (Sh c h tk)) :
    wpAny (MM w) A (eval (.Tuple elts k pos) env) Q E (Sh c h tk) := by
  refine wpAny_Tuple ?_
  rw [starEach_eq hp]
  refine wpAny_mono (spliced_of q) (fun vs s₁ h₁ => ?_) fun _ _ x => x
  obtain ⟨h₁, tk₁, rfl, hl, q⟩ := h₁
  exact ⟨by rw [sizeLine_eq]; (first | lia | omega), q⟩
theorem r_eqs {x y : Str} {t u : Tok} {Q : Value → Shared → Prop} (q : Q (.bool (x == y)) (Sh c h tk)) : wpAny (MM w) A (compareOp .Eq (.str x t) (.str y u)) Q E (Sh c h tk) := PyProof.Rows.eq_str q
end
noncomputable abbrev TO (items : List Value) : Obj := { cls := .type "tuple", data := .seq items.toArray }
theorem isTup_push (h : Heap) (vs : List Value) : IsTup (h.push (TO vs)) h.objs.size vs.toArray := ⟨_, Heap.get?_push_size _ rfl, rfl, 0, rfl⟩
inductive Out where
  | num (e : Nat) (r : Int)
  | off (e : Nat)
  | fin (e : Nat)
noncomputable def dig? (c : Nat) : Option Nat := if 65 ≤ c ∧ c ≤ 90 then some (c - 65) else if 48 ≤ c ∧ c ≤ 57 then some (c - 22) else none
noncomputable def dec (b : Int) : List Nat → Nat → Nat → Int → Int → Out
  | [], p, _, _, _ => .fin p
  | c :: r, p, j, res, w => match dig? c with
    | none => .off (p + 1)
    | some d => if (d : Int) < Tm j b then .num (p + 1) (res + d * w) else dec b r (p + 1) (j + 1) (res + d * w) (w * (36 - Tm j b))
theorem dec_cons {b : Int} {c : Nat} {r : List Nat} {p j : Nat} {res w : Int} : dec b (c :: r) p j res w = match dig? c with
    | none => .off (p + 1)
    | some d => if (d : Int) < Tm j b then .num (p + 1) (res + d * w) else dec b r (p + 1) (j + 1) (res + d * w) (w * (36 - Tm j b)) := rfl
noncomputable def fdD : FuncData := { name := "decode_generalized_number", qualname := "decode_generalized_number", params := prmAt 4, body := .stmts (bdyAt 4), scope := scpAt 4, globals := 3, closure := [], defaults := .none, kwdefaults := .none, doc := .none, pyModule := .str "cpy313.encodings.punycode" 187, annotations := none, code := .ref 34, closureTuple := .none, builtins := 0 }
theorem okD : FnOk 35 fdD := ⟨fun P => ⟨oC_35 P, by kernel_rfl!, rfl⟩, fun P => ⟨34, oC_34 P, _, _, rfl, by kernel_rfl!, rfl, rfl⟩, by kernel_rfl!, by kernel_rfl!, by kernel_rfl!, rfl, rfl, rfl⟩
section
variable {w : World} {env : Env} {A : Around} {E : Value → Shared → Prop} {c : Shared} {h : Heap} {tk : Nat}
noncomputable abbrev LoopE (w : World) (A : Around) (env : Env) (E : Value → Shared → Prop) : Value → Shared → Prop := notedBy (MM w) A env (cameBackBy (MM w) A env E)
noncomputable def LoopQ (c : Shared) (I : Nat → Heap → Prop) (n : Nat) (Q : Flow → Shared → Prop) (f : Flow) (s : Shared) : Prop := match f with
  | .next | .cont => ∃ m h' tk', s = Sh c h' tk' ∧ m < n ∧ I m h'
  | .brk => Q .next s
  | .ret v => Q (.ret v) s
theorem LoopQ.next {I : Nat → Heap → Prop} {n m : Nat} {Q : Flow → Shared → Prop} (hI : I m h) (hm : m < n) : LoopQ c I n Q .next (Sh c h tk) := ⟨m, h, tk, rfl, hm, hI⟩
theorem r_whileE {test : Expr} {body orelse : List Stmt} {p : Pos} {Q : Flow → Shared → Prop} (I : Nat → Heap → Prop) (n : Nat) (h0 : I n h)
    (turn : ∀ n h tk (Q1 : Flow → Shared → Prop) (E1 : Value → Shared → Prop), (∀ m h' tk', I m h' → m < n → Q1 .next (Sh c h' tk')) → (∀ v s, Q (.ret v) s → Q1 (.ret v) s) → (∀ e s, LoopE w A env E e s → E1 e s) → (∀ s, Q .next s → Q1 .brk s) → I n h →
        wpAny (MM w) A (PySem.isTrue test env (eval test env)) (fun b s₂ =>
        (b = true → wpAny (MM w) A (execs body env) Q1 E1 s₂) ∧
        (b = false → wpAny (MM w) A (execs orelse env) (fun f s => match f with | .next => Q1 .brk s | f => Q f s) E1 s₂)) E1 (Sh c h tk)) :
    wpAny (MM w) A (exec (.While test body orelse p) env) Q E (Sh c h tk) := by
  refine wpAny_While (codeAny_whileLoop (fun n s => ∃ h' tk', s = Sh c h' tk' ∧ I n h') ?_ n ⟨h, tk, rfl, h0⟩)
  rintro n s ⟨h', tk', rfl, hI⟩
  refine wpAny_mono (turn n h' tk' (LoopQ c I n Q) (LoopE w A env E) (fun m h' tk' a b => LoopQ.next a b) (fun v s q => q) (fun e s x => x) (fun s q => q) hI) (fun b s₂ q => ?_) fun _ _ x => x
  cases b with
  | false =>
    rw [if_neg (by decide)]
    exact wpAny_mono (q.2 rfl) (fun f s₃ x => by cases f <;> exact x) fun _ _ x => x
  | true =>
    rw [if_pos rfl]
    refine wpAny_mono (q.1 rfl) (fun f s₃ x => ?_) fun _ _ x => x
    cases f with
    | next => obtain ⟨m, h'', tk'', e, lt, hm⟩ := x; exact ⟨m, lt, h'', tk'', e, hm⟩
    | cont => obtain ⟨m, h'', tk'', e, lt, hm⟩ := x; exact ⟨m, lt, h'', tk'', e, hm⟩
    | brk => exact x
    | ret v => exact x
theorem r_itemB {value slice : Expr} {l : List UInt8} {x : Int} {k : Nat} {cb : UInt8} {u t : Tok} {Q : Value → Shared → Prop} (hx : x = (k : Int)) (hk : l[k]? = some cb)
    (hs : subscripted slice false (.bytes l.toArray t) (.int x u) = operate [.bytes l.toArray t, .int x u] (getItem (.bytes l.toArray t) (.int x u))) (hg : ∀ r, letTemporaryGo value (.bytes l.toArray t) r = Pure.pure ()) (hsz : l.length < 100000)
    (q : TkV c h Q (cb.toNat : Int)) : wpAny (MM w) A (subscriptTail value slice (.bytes l.toArray t) (.int x u)) Q E (Sh c h tk) := by
  have hlt : k < l.length := by
    rcases Nat.lt_or_ge k l.length with h | h
    · exact h
    · rw [List.getElem?_eq_none h] at hk; cases hk
  refine subscriptTail_builtin (PySem.W.typeIs_bytes _ _ _) slot_bytes_getitem' (getItem_bytes (l := l) (by (first | lia | omega)) (by (first | lia | omega)) (by (first | lia | omega)) ?_) hs hg
  have e : x.toNat = k := by (first | lia | omega)
  have e2 : l[k] = cb := by rw [List.getElem?_eq_getElem hlt] at hk; exact Option.some.inj hk
  simp only [e]
  rw [List.getD_eq_getElem?_getD, hk]
  exact q _ _
theorem r_itemBout {value slice : Expr} {l : List UInt8} {x : Int} {u t : Tok} {Q : Value → Shared → Prop} (hA : A.handled = none) (hx : (l.length : Int) ≤ x) (hx2 : x < 2 ^ 62) (hsz : l.length < 100000)
    (hs : subscripted slice false (.bytes l.toArray t) (.int x u) = operate [.bytes l.toArray t, .int x u] (getItem (.bytes l.toArray t) (.int x u))) (hg : ∀ r, letTemporaryGo value (.bytes l.toArray t) r = Pure.pure ())
    (q : ∀ h' tk' e, Heap.NewExc h h' e "IndexError" → E (.ref e) (Sh c h' tk')) : wpAny (MM w) A (subscriptTail value slice (.bytes l.toArray t) (.int x u)) Q E (Sh c h tk) :=
  subscriptTail_builtin (PySem.W.typeIs_bytes _ _ _) slot_bytes_getitem' (getItem_bytes_out hA (by (first | lia | omega)) hx hx2 q) hs hg
end
noncomputable def Later (p : Prop) : Prop := p
noncomputable abbrev LaterW (w : World) (A : Around) (env : Env) (rest : List Stmt) (Q : Flow → Shared → Prop) (E : Value → Shared → Prop) (s : Shared) : Prop := Later (wpAny (MM w) A (execs rest env) Q E s)
theorem Later.mk {p : Prop} (h : p) : Later p := h
section
variable {w : World} {env : Env} {A : Around} {E : Value → Shared → Prop} {c : Shared} {h : Heap} {tk : Nat}
theorem r_consL {st : Stmt} {rest : List Stmt} {Q : Flow → Shared → Prop} (q : wpAny (MM w) A (exec st env) (Flo (LaterW w A env rest Q E) Q) E (Sh c h tk)) :
    wpAny (MM w) A (execs (st :: rest) env) Q E (Sh c h tk) := wpAny_execs_cons q
theorem r_consM {I : Shared → Prop} {st : Stmt} {rest : List Stmt} {Q : Flow → Shared → Prop} {s : Shared} (q : wpAny (MM w) A (exec st env) (Flo I Q) E s) (q2 : ∀ s', I s' → wpAny (MM w) A (execs rest env) Q E s') :
    wpAny (MM w) A (execs (st :: rest) env) Q E s := by
  refine wpAny_execs_cons (wpAny_mono q (fun f s' x => ?_) fun _ _ x => x)
  cases f <;> first | exact q2 _ x | exact x
end
section
variable {w : World} {env : Env} {A : Around} {E : Value → Shared → Prop} {c : Shared} {h : Heap} {tk : Nat}
theorem r_nilL {Q : Flow → Shared → Prop} (q : Q .next (Sh c h tk)) : Later (wpAny (MM w) A (execs [] env) Q E (Sh c h tk)) := wpAny_execs_nil q
end
theorem mulOk_right {a b : Int} (h : b.natAbs < 2 ^ 64) : IntMulOk a b := by
  refine IntMulOk.of_right ?_
  unfold Builtin.Int.intBits
  split
  · exact Nat.zero_le _
  · rename_i h0
    have h1 : b.natAbs ≠ 0 := by simpa using h0
    have := (Nat.log2_lt h1).mpr h
    (first | lia | omega)
end
section
section
variable {prog : Program} {w : World} {A : Around} {E : Value → Shared → Prop}
theorem ude_check {M : Model} {e : Addr} {rest : List Value} {Q : Unit → Shared → Prop} {s : Shared} (hT : s.TypeIs (.ref e) "UnicodeDecodeError") (h : Q () s) :
    wpAny M A (checkBuiltinCall "UnicodeDecodeError.__init__" ⟨.ref e :: rest, []⟩) Q E s := by
  obtain ⟨hp, g, d, tk, os⟩ := s
  simp only [checkBuiltinCall, udeKind, udeSplit, udeRow]
  have hsub := udeSelf
  wp_walk
  exact h
end
section
variable {prog : Program} {w : World} {A : Around} {E : Value → Shared → Prop} {M : Model}
open PySem.Builtin.UnicodeEncodeError (Members members setMembers)
noncomputable def F6 (t : Addr) : Array Value := #[.ref t, .none, .none, .none, .bool false, .none]
noncomputable abbrev UObj (t : Addr) (ms : Array Value) : Obj := { cls := .type "UnicodeDecodeError", data := .fields (F6 t ++ ms) }
theorem f6_ext (t : Addr) (ms : Array Value) : (F6 t ++ ms).extract 0 6 = F6 t := by simp [F6]
theorem u_size (t : Addr) (ms : Array Value) : 1 < (F6 t ++ ms).size := by rw [Array.size_append]; show 1 < 6 + ms.size; (first | lia | omega)
theorem u_0 (t : Addr) (ms : Array Value) : (F6 t ++ ms)[0]? = some (.ref t) := by rw [Array.getElem?_append_left (by show 0 < 6; decide)]; rfl
theorem u_1 (t : Addr) (ms : Array Value) : (F6 t ++ ms)[1]? = some .none := by rw [Array.getElem?_append_left (by show 1 < 6; decide)]; rfl
theorem f6_rest (t : Addr) (ms : Array Value) : ((F6 t ++ ms).extract 6).toList = ms.toList := by simp [F6]
theorem ude_mem0 {e t : Addr} {Q : Members → Shared → Prop} {s : Shared} (he : s.heap.get? e = some (UObj t #[])) (q : Q {} s) : wpAny M A (members (.ref e)) Q E s := by
  unfold Builtin.UnicodeEncodeError.members
  refine wpAny_bind (wpAny_fieldsOf he rfl ?_)
  rw [f6_rest]
  exact wpAny_pure q
theorem ude_mem5 {e t : Addr} {enc obj r : Value} {a b : Int} {ta tb : Tok} {Q : Members → Shared → Prop} {s : Shared} (he : s.heap.get? e = some (UObj t #[enc, obj, .int a ta, .int b tb, r])) (q : Q ⟨enc, obj, a, b, r⟩ s) :
    wpAny M A (members (.ref e)) Q E s := by
  unfold Builtin.UnicodeEncodeError.members
  refine wpAny_bind (wpAny_fieldsOf he rfl ?_)
  rw [f6_rest]
  exact wpAny_pure q
theorem ude_set {e t : Addr} {ms : Array Value} {m : Members} {Q : Unit → Shared → Prop} {s : Shared} (he : s.heap.get? e = some (UObj t ms))
    (q : ∀ h', Heap.SameBut e s.heap h' → h'.get? e = some (UObj t #[m.encoding, m.object, rawInt m.start, rawInt m.stop, m.reason]) → Q () { s with heap := h' }) : wpAny M A (setMembers (.ref e) m) Q E s := by
  unfold Builtin.UnicodeEncodeError.setMembers
  refine wpAny_updateFields he rfl (q _ (Heap.SameBut.update ..) ?_) ?_
  · rw [Heap.get?_update_self _ he rfl]
    simp only [Obj.mapFields, f6_ext]
  · rw [f6_ext]
    simp [F6, sizeLine_eq]
theorem ude_begin {e t0 : Addr} {rest : List Value} {Q : Value × List Value → Shared → Prop} {s : Shared} {id : String} (hl : rest.length = 5)
    (he : s.heap.get? e = some (UObj t0 #[]))
    (q : ∀ h' t, (∀ c o, c ≠ e → s.heap.get? c = some o → h'.get? c = some o) → h'.get? e = some (UObj t #[rawInt 0, rawInt 0, rawInt 0, rawInt 0, rawInt 0]) → Q (.ref e, rest) { s with heap := h' }) :
    wpAny M A (Builtin.UnicodeEncodeError.beginInit id 5 ⟨.ref e :: rest, []⟩) Q E s := by
  unfold Builtin.UnicodeEncodeError.beginInit
  dsimp only
  rw [if_neg (by simp)]
  unfold newTuple
  have hlt := Heap.lt_size he
  have he₁ := Heap.get?_push_of_some (h := s.heap) { cls := .type "tuple", data := .seq rest.toArray } he
  refine wpAny_bind (wpAny_field he (vs := F6 t0 ++ #[]) rfl (x := .ref t0) (by rfl) ?_)
  refine wpAny_bind (wpAny_newObj_type ?_ (by show rest.toArray.size ≤ sizeLine; rw [List.size_toArray, hl, sizeLine_eq]; decide))
  have hd1 : (UObj t0 #[]).data = .fields (F6 t0 ++ #[]) := rfl
  refine wpAny_bind (wpAny_setField he₁ hd1 (by simp [F6]) ?_)
  have he2 := Heap.get?_update_self (Obj.mapFields (·.setIfInBounds 0 (.ref s.heap.objs.size))) he₁ rfl
  have e2 : Obj.mapFields (·.setIfInBounds 0 (.ref s.heap.objs.size)) (UObj t0 #[]) = UObj s.heap.objs.size #[] := rfl
  rw [e2] at he2
  have k2 : ∀ c o, c ≠ e → s.heap.get? c = some o → ((s.heap.push { cls := .type "tuple", data := .seq rest.toArray }).update e (Obj.mapFields (·.setIfInBounds 0 (.ref s.heap.objs.size)))).get? c = some o := fun c o hc ho => by
    rw [Heap.get?_update_other _ _ (Ne.symm hc)]
    exact Heap.get?_push_of_some _ ho
  generalize (s.heap.push { cls := .type "tuple", data := .seq rest.toArray }).update e (Obj.mapFields (·.setIfInBounds 0 (.ref s.heap.objs.size))) = h2 at he2 k2 ⊢
  refine wpAny_bind (wpAny_letGo ?_)
  rw [if_pos (by decide)]
  refine wpAny_bind (ude_mem0 he2 ?_)
  refine wpAny_bind (ude_set he2 fun h3 s3 he3 => ?_)
  refine wpAny_bind (wpAny_letGo ?_)
  refine wpAny_bind (ude_mem5 he3 ?_)
  refine wpAny_bind (ude_set he3 fun h4 s4 he4 => ?_)
  refine wpAny_bind (wpAny_letGo ?_)
  refine wpAny_bind (ude_mem5 he4 ?_)
  refine wpAny_bind (ude_set he4 fun h5 s5 he5 => ?_)
  refine wpAny_bind (wpAny_letGo ?_)
  rw [if_neg (by rw [hl]; decide)]
  refine wpAny_pure (q _ _ (fun c o hc ho => ?_) he5)
  exact (s5.2 c hc).trans ((s4.2 c hc).trans ((s3.2 c hc).trans (k2 c o hc ho)))
theorem ude_size {i : Int} {t : Tok} {id : String} {Q : Int → Shared → Prop} {s : Shared} (hi : 0 ≤ i) (hi2 : i < 2 ^ 62) (q : Q i s) : wpAny M A (Builtin.UnicodeEncodeError.sizeArgument id (.int i t)) Q E s := by
  unfold Builtin.UnicodeEncodeError.sizeArgument
  have e : asIndex (.int i t) = Pure.pure i := by rfl
  rw [e]
  refine wpAny_bind (wpAny_pure ?_)
  have h1 : ¬ i < -(2 ^ 63 : Int) := by (first | lia | omega)
  have h2 : ¬ i ≥ 2 ^ 63 := by (first | lia | omega)
  rw [if_neg (by simp only [Bool.or_eq_true, decide_eq_true_eq]; (first | lia | omega))]
  exact wpAny_pure q
theorem ude_initT {e t0 : Addr} {enc reason : Str} {b : Array UInt8} {i j : Int} {t1 t2 t3 t4 t5 : Tok} {Q : Fin → Shared → Prop} {s : Shared} (hi : 0 ≤ i) (hi2 : i < 2 ^ 62) (hj : 0 ≤ j) (hj2 : j < 2 ^ 62)
    (he : s.heap.get? e = some (UObj t0 #[]))
    (h : ∀ h' t ms, (∀ c o, c ≠ e → s.heap.get? c = some o → h'.get? c = some o) → h'.get? e = some (UObj t ms) → Q (.done (.ret .none)) { s with heap := h' }) :
    wpAny (model prog w) A (Builtin.«UnicodeDecodeError.__init__» ⟨[.ref e, .str enc t1, .bytes b t2, .int i t3, .int j t4, .str reason t5], []⟩) Q E s := by
  unfold Builtin.«UnicodeDecodeError.__init__»
  dsimp only
  refine wpAny_bind (ude_begin rfl he fun h1 t k1 he1 => ?_)
  dsimp only
  refine wpAny_bind (wpAny_pure ?_)
  unfold Builtin.UnicodeEncodeError.initRange
  refine wpAny_bind (wpAny_bind (ude_size hi hi2 ?_))
  refine wpAny_bind (ude_mem5 he1 ?_)
  refine wpAny_bind (ude_set he1 fun h2 s2 he2 => ?_)
  refine wpAny_bind (ude_size hj hj2 ?_)
  refine wpAny_bind (ude_mem5 he2 ?_)
  refine ude_set he2 fun h3 s3 he3 => ?_
  refine wpAny_bind (wpAny_pure ?_)
  refine wpAny_bind (wpAny_pure ?_)
  rw [if_pos (show (some b).isSome = true from rfl)]
  refine wpAny_bind (wpAny_pure ?_)
  rw [if_pos (show (!Builtin.UnicodeEncodeError.isUnset (Value.bytes b t2)) = true from rfl)]
  refine wpAny_bind (wpAny_pure ?_)
  rw [if_neg (show ¬ Builtin.UnicodeEncodeError.isUnset (Value.bytes b t2) = true from by intro x; cases x)]
  refine wpAny_bind (ude_mem5 he3 ?_)
  refine wpAny_bind (ude_set he3 fun h4 s4 he4 => ?_)
  refine wpAny_pure (h _ _ _ (fun c o hc ho => ?_) he4)
  exact (s4.2 c hc).trans ((s3.2 c hc).trans ((s2.2 c hc).trans (k1 c o hc ho)))
structure NewX (h h' : Heap) (e : Addr) (cls : String) : Prop where
  keeps : ∀ b o, h.get? b = some o → h'.get? b = some o
  new : h.get? e = none
  there : ∃ ob vs a0, h'.get? e = some ob ∧ ob.cls = .type cls ∧ ob.data = .fields vs ∧ 1 < vs.size ∧ vs[0]? = some a0 ∧ vs[1]? = some .none
theorem ude_typeCall {enc reason : Str} {b : Array UInt8} {i j : Int} {t1 t2 t3 t4 t5 : Tok} {Q : Fin → Shared → Prop} {hp : Heap} {g : Array GenState} {d : Drawn} {tk : Nat} {os : OsState} (hi : 0 ≤ i) (hi2 : i < 2 ^ 62) (hj : 0 ≤ j) (hj2 : j < 2 ^ 62)
    (h : ∀ h' e t ms, (∀ b o, hp.get? b = some o → h'.get? b = some o) → hp.get? e = none → h'.get? e = some (UObj t ms) → Q (.done (.ret (.ref e))) ⟨h', g, d, tk, os⟩) :
    wpAny (model prog w) A (Builtin.«type.__call__» ⟨[.type "UnicodeDecodeError", .str enc t1, .bytes b t2, .int i t3, .int j t4, .str reason t5], []⟩) Q E ⟨hp, g, d, tk, os⟩ := by
  have hnt := udeNotType
  have hcan := udeCanMake
  have hchk := udeVector ⟨[.str enc t1, .bytes b t2, .int i t3, .int j t4, .str reason t5], []⟩
  have hmro := udeMro
  have hmade := udeMadeBy
  wp_walk
  refine codeAny_call_builtin_code (Code.quiet_builtin _ (by decide +kernel)) (wpAny_of_eq (udeNewOk _) ?_)
  refine codeAny_exc_new udeNew ?_ (by size_fits)
  show wpAny _ _ _ _ _ _
  have hget : ((hp.push { cls := .type "tuple", data := .seq [Value.str enc t1, .bytes b t2, .int i t3, .int j t4, .str reason t5].toArray }).push
      { cls := .type "UnicodeDecodeError", data := .fields #[.ref hp.objs.size, .none, .none, .none, .bool false, .none] }).get? (hp.objs.size + 1) = some
      (UObj hp.objs.size #[]) := by
    rw [← Heap.size_push hp { cls := .type "tuple", data := .seq [Value.str enc t1, .bytes b t2, .int i t3, .int j t4, .str reason t5].toArray }]
    exact Heap.get?_push_size _ rfl
  have kk : ∀ c o, hp.get? c = some o → ((hp.push { cls := .type "tuple", data := .seq [Value.str enc t1, .bytes b t2, .int i t3, .int j t4, .str reason t5].toArray }).push
      { cls := .type "UnicodeDecodeError", data := .fields #[.ref hp.objs.size, .none, .none, .none, .bool false, .none] }).get? c = some o := fun c o hc => Heap.get?_push_of_some _ (Heap.get?_push_of_some _ hc)
  refine wpAny_bind (wpAny_isInstance ⟨_, hget, rfl⟩ udeSelf ?_)
  wp_step
  refine wpAny_bind (wpAny_holding (wpAny_callSpecial?_slot ⟨_, hget, rfl⟩ udeInit (wpAny_call (codeAny_call_builtin udeInit.plain udeEntry (ude_check ⟨_, hget, rfl⟩ ?_)))))
  refine ude_initT hi hi2 hj hj2 hget fun h' t ms k he => ?_
  wp_walk
  exact h _ _ _ _ (fun c o hc => k c o (fun x => by rw [x] at hc; exact absurd (Heap.lt_size hc) (Nat.not_lt.mpr (Nat.le_succ _))) (kk c o hc)) (Heap.get?_none_of_le (by (first | lia | omega))) he
theorem ude_call {enc reason : Str} {b : Array UInt8} {i j : Int} {t1 t2 t3 t4 t5 : Tok} {Q : Value → Shared → Prop} {s : Shared} (hi : 0 ≤ i) (hi2 : i < 2 ^ 62) (hj : 0 ≤ j) (hj2 : j < 2 ^ 62)
    (h : ∀ h' e t ms, (∀ b o, s.heap.get? b = some o → h'.get? b = some o) → s.heap.get? e = none → h'.get? e = some (UObj t ms) → Q (.ref e) { s with heap := h' }) :
    wpAny (model prog w) A (call (.type "UnicodeDecodeError") [.str enc t1, .bytes b t2, .int i t3, .int j t4, .str reason t5]) Q E s := by
  obtain ⟨hp, g, d, tk, os⟩ := s
  refine wpAny_call (codeAny_of_tree ?_)
  show wpAny _ _ (again (.builtin "type.__call__" ⟨.type "UnicodeDecodeError" :: _, []⟩)) _ _ _
  exact wpAny_pure ⟨Code.quiet_builtin _ (by decide +kernel), codeAny_builtin entry_typeCall (ude_typeCall hi hi2 hj hj2 fun h' e t ms k hn he => h h' e t ms k hn he)⟩
end
end
section
section
variable {w : World} {env : Env} {A : Around} {E : Value → Shared → Prop} {c : Shared} {h : Heap} {tk : Nat}
noncomputable def CtxOk (A : Around) (h : Heap) : Prop := A.handled = none ∨ ∃ e1 ob vs, A.handled = some (.ref e1) ∧ h.get? e1 = some ob ∧ ob.data = .fields vs ∧ vs[2]? = some .none
theorem entry_unchain : entryFor table "proto.unchain" = some Builtin.«proto.unchain» := by first | exact entryFor_of_fast (by kernel_rfl) | exact entryFor_of_tree (by kernel_rfl)
theorem ude_raiseNew {α : Type} {h₀ : Heap} {e : Addr} {ms : Array Value} {t : Addr} {Q : α → Shared → Prop} {s : Shared} (hctx : CtxOk A s.heap) (hk : ∀ b o, h₀.get? b = some o → s.heap.get? b = some o) (hn : h₀.get? e = none)
    (hctx0 : ∀ e1, A.handled = some (.ref e1) → e1 ≠ e) (he : s.heap.get? e = some (UObj t ms))
    (q : ∀ h' , NewX h₀ h' e "UnicodeDecodeError" → E (.ref e) { s with heap := h' }) : wpAny (MM w) A (raiseNew (.ref e) : Sem α) Q E s := by
  unfold raiseNew
  refine wpAny_bind (wpAny_handled ?_)
  rcases hctx with hh | ⟨e1, ob, vs, hh, h1, hd, h2⟩
  · rw [hh]
    refine wpAny_bind (wpAny_pure (wpAny_throw (q _ ⟨hk, hn, _, F6 t ++ ms, .ref t, he, rfl, rfl, u_size t ms, u_0 t ms, u_1 t ms⟩)))
  · have hne := hctx0 e1 hh
    rw [hh]
    try dsimp only
    rw [if_pos (by simpa using hne)]
    refine wpAny_bind (wpAny_holding (wpAny_runValue (codeAny_builtin entry_unchain ?_)))
    unfold Builtin.«proto.unchain»
    try dsimp only
    refine wpAny_bind (wpAny_field h1 hd h2 ?_)
    rw [if_pos (show (Value.none == Value.none) = true from rfl)]
    refine wpAny_pure ?_
    show wpAny _ _ (updateField e 2 (.ref e1) >>= _) _ _ _
    refine wpAny_bind (m := setField (.ref e) 2 (.ref e1)) (wpAny_setField he rfl (by have := u_size t ms; rw [Array.size_append]; show 2 < 6 + ms.size; (first | lia | omega)) ?_)
    refine wpAny_throw (q _ ⟨fun b o hb => ?_, hn, _, (F6 t ++ ms).setIfInBounds 2 (.ref e1), .ref t, Heap.get?_update_self _ he rfl, rfl, rfl, ?_, ?_, ?_⟩)
    · rw [Heap.get?_update_other _ _ (fun x => by rw [← x, hn] at hb; cases hb)]
      exact hk b o hb
    · rw [Array.size_setIfInBounds]; exact u_size t ms
    · rw [Array.getElem?_setIfInBounds_ne (by decide)]; exact u_0 t ms
    · rw [Array.getElem?_setIfInBounds_ne (by decide)]; exact u_1 t ms
theorem ude_raiseStmt {x : Sem Value} {Q : Flow → Shared → Prop} {s : Shared}
    (q : wpAny (MM w) A x (fun v s₁ => ∃ (h₀ : Heap) (e t : Addr) (ms : Array Value), v = .ref e ∧ s₁.heap.get? e = some (UObj t ms) ∧ CtxOk A s₁.heap ∧ (∀ b o, h₀.get? b = some o → s₁.heap.get? b = some o) ∧ h₀.get? e = none ∧ (∀ e1, A.handled = some (.ref e1) → e1 ≠ e) ∧
      ∀ h', NewX h₀ h' e "UnicodeDecodeError" → E (.ref e) { s₁ with heap := h' }) E s) : wpAny (MM w) A (raiseStmt env (some x) none) Q E s := by
  unfold raiseStmt
  refine wpAny_bind (wpAny_mono q (fun v s₁ h₁ => ?_) fun _ _ x => x)
  obtain ⟨h₀, e, t, ms, rfl, he, hctx, hk, hn, hne, hE⟩ := h₁
  have fin : wpAny (MM w) A (raiseNew (.ref e) : Sem Flow) Q E s₁ := ude_raiseNew hctx hk hn hne he hE
  have hfl : ∀ {P : Unit → Shared → Prop}, P () s₁ → wpAny (MM w) A (setFlight (.ref e) none) P E s₁ := fun hP => by
    unfold setFlight
    refine wpAny_bind (wpAny_field he rfl (u_1 t ms) ?_)
    rw [if_neg (by decide)]
    exact wpAny_pure hP
  have hT : s₁.TypeIs (.ref e) "UnicodeDecodeError" := ⟨_, he, rfl⟩
  obtain ⟨hp, g, d, tk, os⟩ := s₁
  have hsub := udeIsExc
  have hmeta := udeMeta
  have hfl' : ∀ {α : Type} {f : Unit → Sem α} {P : α → Shared → Prop}, wpAny (MM w) A (f ()) P E ⟨hp, g, d, tk, os⟩ → wpAny (MM w) A (setFlight (.ref e) none >>= f) P E ⟨hp, g, d, tk, os⟩ := fun hP => wpAny_bind (hfl hP)
  repeat (first | exact hfl' fin | refine wpAny_loadPart he ?_ | wp_step)
end
section
variable {w : World} {env : Env} {A : Around} {E : Value → Shared → Prop} {c : Shared} {h h' base : Heap} {tk : Nat} {outer : List Env} {L e : Addr} {cls : String}
theorem noted_new (hfr : A.frames = some (env :: outer)) (hf : env.frame = some L) (hbs : base.StaysIn h) (hl : h.FunFrames base (env :: outer)) (hx : NewX h h' e cls)
    (q : ∀ h'' a0, Heap.HeldW base (env :: outer) e (.type cls) a0 L h'' → h.UpToSlots h'' → E (.ref e) (Sh c h'' tk)) : notedBy (MM w) A env E (.ref e) (Sh c h' tk) := by
  obtain ⟨ob, vs, a0, ho, hcls, hd, hsz, h0, h1⟩ := hx.there
  have hen : base.get? e = none := by
    cases hq : base.get? e with
    | none => rfl
    | some o' => have := hbs e o' hq; rw [hx.new] at this; cases this
  have hl' : h'.FunFrames base (env :: outer) := hl.of_keeps fun b o hb _ => ⟨o, hx.keeps b o hb, rfl⟩
  have hbs' : base.StaysIn h' := fun b o hb => hx.keeps b o (hbs b o hb)
  unfold notedBy noteFrame
  simp only [hf]
  refine wpAny_bind (wpAny_field (s := Sh c h' tk) ho hd h1 ?_)
  rw [if_neg (by decide)]
  refine wpAny_entryW (s := Sh c h' tk) (a0 := a0) hfr hl' hf ho hbs' hen hd hsz h0 fun h2 hN => ?_
  obtain ⟨n1, n2, n3, n4⟩ := hN
  rw [hcls] at n3
  exact q h2 a0 ⟨n1, hen, n2, n3⟩ fun b o hb hnf => n4 b o (hx.keeps b o hb) hnf
theorem cameBack_held {a0 : Value} {l : List Env} (hf : env.frame = some L) (hh : Heap.HeldW base l e (.type cls) a0 L h)
    (q : ∀ h'', Heap.HeldW base l e (.type cls) a0 L h'' → h.UpToSlots h'' → E (.ref e) (Sh c h'' tk)) : cameBackBy (MM w) A env E (.ref e) (Sh c h tk) := by
  obtain ⟨f1, f2, f3, oe, vs, T, oT, ts, he, hcls, hd, h1, hnT, hTe, hT, hdT, h3⟩ := hh
  have hsz3 : 3 < ts.size := (Array.getElem?_eq_some_iff.mp h3).1
  unfold cameBackBy
  refine wpAny_bind (wpAny_field (s := Sh c h tk) he hd h1 ?_)
  rw [if_neg (show ¬ (Value.ref T == Value.none) = true by simp)]
  unfold setFlight
  refine wpAny_bind (wpAny_field (s := Sh c h tk) he hd h1 ?_)
  rw [if_pos (show (Value.ref T != Value.none) = true by simp), hf]
  have other : ∀ b, b ≠ T → (h.update T (Obj.mapFields (·.setIfInBounds 3 ((some L).elim Value.none fun f => rawInt f)))).get? b = h.get? b := fun b hb => Heap.get?_update_other _ _ (Ne.symm hb)
  have noRecord : ∀ b o, h.get? b = some o → (∀ vs, o.data ≠ .fields vs) → b ≠ T := fun b o hb hnf q => by
    rw [q, hT] at hb; injection hb with hb; subst hb; exact hnf ts hdT
  refine wpAny_setField (s := Sh c h tk) hT hdT hsz3 (q _ ⟨fun b o hb => (other b fun q => by rw [q, hnT] at hb; cases hb).trans (f1 b o hb), f2, ?_, ?_⟩ fun b o hb hnf => ⟨o.slots, (other b (noRecord b o hb hnf)).trans hb⟩)
  · exact f3.of_keeps fun b o hb hnf => ⟨o, (other b (noRecord b o hb hnf)).trans hb, rfl⟩
  · exact ⟨oe, vs, T, _, _, (other e (Ne.symm hTe)).trans he, hcls, hd, h1, hnT, hTe, Heap.get?_update_self _ hT (Obj.isFreed_of_fields (Obj.data_mapFields hdT _)), Obj.data_mapFields hdT _, by simp [hsz3]⟩
theorem noted_held {a0 : Value} {l : List Env} (hf : env.frame = some L) (hh : Heap.HeldW base l e (.type cls) a0 L h) (q : E (.ref e) (Sh c h tk)) : notedBy (MM w) A env E (.ref e) (Sh c h tk) :=
  wpAny_noteFrame_againW (s := Sh c h tk) hf hh.2.2.2 q
theorem wArgs_mono : ∀ {args : List Expr} {Q Q' : List Value → Shared → Prop} {s : Shared}, wArgs w A env E args Q s → (∀ vs s, Q vs s → Q' vs s) → wArgs w A env E args Q' s
  | [], _, _, _, q, k => k _ _ q
  | _ :: _, _, _, _, q, k => wpAny_mono q (fun _ _ q' => wArgs_mono q' fun vs s x => k _ _ x) fun _ _ x => x
theorem CtxOk.keeps (x : CtxOk A h) (k : ∀ b o, h.get? b = some o → h'.get? b = some o) : CtxOk A h' := by
  rcases x with x | ⟨e1, ob, vs, a, b, d, f⟩
  · exact .inl x
  · exact .inr ⟨e1, ob, vs, a, k _ _ b, d, f⟩
theorem r_raiseUDE {x : Str} {np cpos pos : Pos} {args : List Expr} {Q : Flow → Shared → Prop} (hp : args.all notStar = true)
    (q : wpAny (MM w) A (eval (.Name x np) env) (fun f s₀ => f = .type "UnicodeDecodeError" ∧ wArgs w A env E args (fun vs s₁ => ∃ h₁ tk₁ enc b i j reason t1 t2 t3 t4 t5, s₁ = Sh c h₁ tk₁ ∧ vs = [.str enc t1, .bytes b t2, .int i t3, .int j t4, .str reason t5] ∧
      0 ≤ i ∧ i < 2 ^ 62 ∧ 0 ≤ j ∧ j < 2 ^ 62 ∧ CtxOk A h₁ ∧ ∀ h' e, NewX h₁ h' e "UnicodeDecodeError" → E (.ref e) (Sh c h' tk₁)) s₀) E (Sh c h tk)) :
    wpAny (MM w) A (exec (.Raise (some (.Call (.Name x np) args [] cpos)) none pos) env) Q E (Sh c h tk) := by
  rw [arm_exec_Raise]
  have inner : wpAny (MM w) A (eval (.Call (.Name x np) args [] cpos) env) (fun v s₁ => ∃ (h₀ : Heap) (e t : Addr) (ms : Array Value), v = .ref e ∧ s₁.heap.get? e = some (UObj t ms) ∧ CtxOk A s₁.heap ∧ (∀ b o, h₀.get? b = some o → s₁.heap.get? b = some o) ∧ h₀.get? e = none ∧ (∀ e1, A.handled = some (.ref e1) → e1 ≠ e) ∧
        ∀ h', NewX h₀ h' e "UnicodeDecodeError" → E (.ref e) { s₁ with heap := h' }) E (Sh c h tk) := by
    refine wpAny_Call_ofName (wpAny_mono q (fun f s₀ q => ?_) fun _ _ x => x)
    obtain ⟨rfl, q⟩ := q
    refine callWith_of (first := []) (kws := []) hp rfl (wArgs_mono q fun vs s₁ q₁ => ?_)
    obtain ⟨h₁, tk₁, enc, b, i, j, reason, t1, t2, t3, t4, t5, rfl, rfl, a1, a2, a3, a4, hctx, hE⟩ := q₁
    refine ⟨trivial, ude_call a1 a2 a3 a4 fun h' e t ms k hn he => ⟨h₁, e, t, ms, rfl, he, hctx.keeps k, k, hn, fun e1 he1 x => ?_, fun h'' hx => hE h'' e hx⟩⟩
    rcases hctx with y | ⟨e2, ob, vs, y, z, _⟩
    · rw [y] at he1; cases he1
    · rw [y] at he1; cases he1
      rw [x] at z
      exact absurd z (by rw [show h₁.get? e = none from hn]; intro x; cases x)
  first
    | exact wpAny_bind (wpAny_standAt (ude_raiseStmt (wpAny_bind (wpAny_mono inner (fun v s₁ h₁ => wpAny_bind (wpAny_standAt (wpAny_pure h₁))) fun _ _ x => x))))
    | (simp only [evalOpt, Option.map]; exact wpAny_bind (wpAny_standAt (ude_raiseStmt (wpAny_bind (wpAny_mono inner (fun v s₁ h₁ => wpAny_bind (wpAny_standAt (wpAny_pure h₁))) fun _ _ x => x)))))
end
end
section
section
variable {w : World} {env : Env} {A : Around} {E : Value → Shared → Prop} {c : Shared} {h h' base : Heap} {tk : Nat} {outer : List Env} {L e : Addr} {cls : String}
noncomputable def NoCtx (h : Heap) (e : Addr) : Prop := ∃ ob vs, h.get? e = some ob ∧ ob.data = .fields vs ∧ vs[2]? = some .none
theorem flight2 {l : List Env} {a0 fl : Value} {Q : Unit → Shared → Prop} (hh : base.StaysIn h ∧ base.get? e = none ∧ h.FunFrames base l ∧ h.TracedAtW base e (.type cls) a0 fl)
    (q : ∀ h'', Heap.FlyingW base l e (.type cls) a0 h'' → h.UpToSlots h'' → h''.get? e = h.get? e → Q () (Sh c h'' tk)) : wpAny (MM w) A (setFlight (.ref e) none) Q E (Sh c h tk) := by
  obtain ⟨f1, f2, f3, oe, vs, T, oT, ts, he, hcls, hd, h1, hnT, hTe, hT, hdT, h3⟩ := hh
  have hsz3 : 3 < ts.size := (Array.getElem?_eq_some_iff.mp h3).1
  unfold setFlight
  refine wpAny_bind (wpAny_field (s := Sh c h tk) he hd h1 ?_)
  rw [if_pos (show (Value.ref T != Value.none) = true by simp)]
  have other : ∀ b, b ≠ T → (h.update T (Obj.mapFields (·.setIfInBounds 3 ((none : Option Addr).elim Value.none fun f => rawInt f)))).get? b = h.get? b := fun b hb => Heap.get?_update_other _ _ (Ne.symm hb)
  have noRecord : ∀ b o, h.get? b = some o → (∀ vs, o.data ≠ .fields vs) → b ≠ T := fun b o hb hnf q => by
    rw [q, hT] at hb; injection hb with hb; subst hb; exact hnf ts hdT
  refine wpAny_setField (s := Sh c h tk) hT hdT hsz3 (q _ ⟨fun b o hb => (other b fun q => by rw [q, hnT] at hb; cases hb).trans (f1 b o hb), f2, ?_, ?_⟩ (fun b o hb hnf => ⟨o.slots, (other b (noRecord b o hb hnf)).trans hb⟩) (other e (Ne.symm hTe)))
  · exact f3.of_keeps fun b o hb hnf => ⟨o, (other b (noRecord b o hb hnf)).trans hb, rfl⟩
  · exact ⟨oe, vs, T, _, _, (other e (Ne.symm hTe)).trans he, hcls, hd, h1, hnT, hTe, Heap.get?_update_self _ hT (Obj.isFreed_of_fields (Obj.data_mapFields hdT _)), Obj.data_mapFields hdT _, by simp [hsz3]⟩
theorem noted2 {Q : Unit → Shared → Prop} {ob : Obj} {vs : Array Value} {a0 : Value} (hfr : A.frames = some (env :: outer)) (hf : env.frame = some L) (hbs : base.StaysIn h') (hl : h'.FunFrames base (env :: outer)) (hen : base.get? e = none)
    (ho : h'.get? e = some ob) (hcls : ob.cls = .type cls) (hd : ob.data = .fields vs) (hsz : 1 < vs.size) (h0 : vs[0]? = some a0) (h1 : vs[1]? = some .none) (h2 : vs[2]? = some .none)
    (q : ∀ h'', (base.StaysIn h'' ∧ base.get? e = none ∧ h''.FunFrames base (env :: outer) ∧ h''.TracedAtW base e (.type cls) a0 (rawInt L)) → h'.UpToSlots h'' → NoCtx h'' e → Q () (Sh c h'' tk)) :
    wpAny (MM w) A (noteFrame (.ref e) env) Q E (Sh c h' tk) := by
  have hne : e ∉ (env :: outer).filterMap (·.frame) := fun hm => by
    obtain ⟨_, o, ho', hnf⟩ := hl.mem hm
    rw [ho] at ho'; cases ho'; exact hnf vs hd
  unfold noteFrame
  simp only [hf]
  refine wpAny_bind (wpAny_field (s := Sh c h' tk) ho hd h1 ?_)
  rw [if_neg (by decide)]
  refine wpAny_bind (wpAny_frameOf_fun (s := Sh c h' tk) hfr hl hf fun h₁ hs₁ => ?_)
  refine wpAny_bind (wpAny_entryPlaceOf fun pl hpl => ?_)
  unfold EntryCells.newEntry newFields
  refine wpAny_bind (wpAny_newObj_type ?_ (hpl.sizeOk5 _ _ _ _ _))
  have ho₁ : h₁.get? e = some ob := (hs₁.2.1 e hne).trans ho
  have kb : base.StaysIn h₁ := fun b o hb => (hs₁.2.1 b fun hm => by rw [(hl.mem hm).1] at hb; cases hb).trans (hbs b o hb)
  have hT0 : base.get? h₁.objs.size = none := kb.fresh
  generalize hoT : ({ cls := .type "traceback", dict := none, data := .fields ([Value.none, .ref L, .none, rawInt L, .none] ++ (if pl.isEmpty then List.replicate 6 Value.none else pl)).toArray } : Obj) = oT
  have hfT : oT.isFreed = false := by rw [← hoT]; rfl
  have ho₂ := Heap.get?_push_of_some oT ho₁
  have hTe : h₁.objs.size ≠ e := Nat.ne_of_gt (Heap.lt_size ho₁)
  refine wpAny_setField (s := Sh c (h₁.push oT) tk) ho₂ hd hsz ?_
  have hd3 := Obj.data_mapFields hd (·.setIfInBounds 1 (Value.ref h₁.objs.size))
  have he3 := Heap.get?_update_self (Obj.mapFields (·.setIfInBounds 1 (Value.ref h₁.objs.size))) ho₂ (Obj.isFreed_of_fields hd3)
  have oth : ∀ b o, b ≠ e → h₁.get? b = some o → ((h₁.push oT).update e (Obj.mapFields (·.setIfInBounds 1 (Value.ref h₁.objs.size)))).get? b = some o := fun b o hb ho => by
    rw [Heap.get?_update_other _ _ (Ne.symm hb)]; exact Heap.get?_push_of_some _ ho
  have hTg : ((h₁.push oT).update e (Obj.mapFields (·.setIfInBounds 1 (Value.ref h₁.objs.size)))).get? h₁.objs.size = some oT := by
    rw [Heap.get?_update_other _ _ (Ne.symm hTe)]; exact Heap.get?_push_size _ hfT
  have nr : ∀ b o, h'.get? b = some o → (∀ vs, o.data ≠ .fields vs) → b ≠ e := fun b o hb hn x => by
    rw [x, ho] at hb; cases hb; exact hn vs hd
  refine q _ ⟨fun b o hb => oth b o (fun x => by rw [x, hen] at hb; cases hb) (kb b o hb), hen, ?_, ?_⟩ (fun b o hb hn => ?_) ⟨_, _, he3, hd3, ?_⟩
  · refine hl.of_keeps fun b o hb hn => ?_
    obtain ⟨sl, e1⟩ := hs₁.2.2 b o hb
    exact ⟨_, oth b _ (nr b o hb hn) e1, rfl⟩
  · refine ⟨_, _, h₁.objs.size, oT, _, he3, ⟨by rw [Obj.cls_mapFields]; exact hcls, by rw [Array.getElem?_setIfInBounds_ne (by decide)]; exact h0⟩, hd3, by simp [hsz], hT0, hTe, hTg, by rw [← hoT], ?_⟩
    first | (simp; done) | (rcases hpl with rfl | ⟨_, _, _, _, _, _, _, rfl⟩ <;> simp)
  · obtain ⟨sl, e1⟩ := hs₁.2.2 b o hb
    exact ⟨sl, oth b _ (nr b o hb hn) e1⟩
  · rw [Array.getElem?_setIfInBounds_ne (by decide)]; exact h2
end
section
variable {w : World} {env : Env} {base h₀ h h' : Heap} {vs : List (Str × Value)} {ns ns' : List (Addr × Obj)} {rs : List (Value × D)} {A : Around} {E : Value → Shared → Prop} {c : Shared} {tk : Nat}
theorem note_new2 {outer : List Env} {L e : Addr} {cls : String} {Q : Unit → Shared → Prop} (hfr : A.frames = some (env :: outer)) (hf : env.frame = some L) (hbs : base.StaysIn h) (hl : h.FunFrames base (env :: outer)) (hx : Heap.NewExc h h' e cls)
    (q : ∀ h'' a0, Heap.FlyingW base (env :: outer) e (.type cls) a0 h'' → h.UpToSlots h'' → NoCtx h'' e → Q () (Sh c h'' tk)) :
    wpAny (MM w) A (noteFrame (.ref e) env) (fun _ s₂ => wpAny (MM w) A (setFlight (.ref e) none) Q E s₂) E (Sh c h' tk) := by
  obtain ⟨ob, t, ho, hcls, hd⟩ := hx.there
  have hen : base.get? e = none := by
    cases hq : base.get? e with
    | none => rfl
    | some o' => have := hbs e o' hq; rw [hx.new] at this; cases this
  refine noted2 hfr hf (fun b o hb => hx.keeps b o (hbs b o hb)) (hl.of_keeps fun b o hb _ => ⟨o, hx.keeps b o hb, rfl⟩) hen ho hcls hd (by show 1 < 6; decide) rfl rfl rfl fun h2 hh u2 n2 => ?_
  refine flight2 hh fun h3 hf3 u3 e3 => q h3 _ hf3 (fun b o hb hn => ?_) ?_
  · obtain ⟨sl, e1⟩ := u2 b o (hx.keeps b o hb) hn
    obtain ⟨sl2, e2⟩ := u3 b _ e1 hn
    exact ⟨sl2, e2⟩
  · obtain ⟨ob, vs, x, y, z⟩ := n2
    exact ⟨ob, vs, e3.trans x, y, z⟩
theorem land2 {outer : List Env} {e : Addr} {cls : String} {a0 : Value} {x : Str} {xp pos : Pos} {b₀ : Stmt} {suite : List Stmt} {Q : Flow → Shared → Prop} (st : St w env base vs ns rs h)
    (hfl : Heap.FlyingW base (env :: outer) e (.type cls) a0 h) (hnc : NoCtx h e) (hexc : isSubtype (.type cls) (.type "BaseException") = Pure.pure true) (hnt : isSubtype (.type ((Manifest.find? cls).elim "type" fun x => x.metatype)) (.type "tuple") = Pure.pure false)
    (hsub : isSubtype (.type cls) (.type cls) = Pure.pure true) (hk : env.kindOf x = some .globalImplicit) (hm : (x, .type cls) ∈ builtL) (hd : (x == ("__debug__" : Str)) = false) (hnf : ∀ p ∈ ns, ∀ vs, p.2.data ≠ .fields vs)
    (q : ∀ h'' ns', LedUp ns ns' → St w env base vs ns' rs h'' → Heap.FlyingW base (env :: outer) e (.type cls) a0 h'' → h.UpToSlots h'' → NoCtx h'' e →
      wpAny (MM w) (A.mark (some (.ref e))) (execs (b₀ :: suite) env) Q (notedBy (MM w) (A.mark (some (.ref e))) env (cameBackBy (MM w) A env E)) (Sh c h'' tk)) :
    wpAny (MM w) A (handleBy (.ref e) env [.ExceptHandler (some (.Name x xp)) none (b₀ :: suite) pos]) Q E (Sh c h tk) := by
  refine wpAny_handleBy_builtin (b := true) hexc hnt hsub ?_
  refine r_bname st hk hm hd ⟨rfl, hfl.there, ?_⟩
  rw [if_pos rfl]
  refine flight2 (l := env :: outer) (fl := .none) ⟨hfl.1, hfl.2.1, hfl.2.2.1, hfl.2.2.2.at⟩ fun h3 f3 u3 e3 => ?_
  obtain ⟨ns', x, st'⟩ := st.upTo f3.1 u3 hnf
  obtain ⟨ob, vs, y1, y2, y3⟩ := hnc
  exact q h3 ns' x st' f3 u3 ⟨ob, vs, e3.trans y1, y2, y3⟩
end
end
section
theorem text3 : ∀ a : Fin 256, (Str.ofString (toString ((a : Nat) : Int))).length ≤ 3 := by decide +kernel
section
variable {w : World} {env : Env} {A : Around} {E : Value → Shared → Prop} {c : Shared} {h h' base : Heap} {tk : Nat}
theorem r_fstr {a b : Str} {k1 k2 : Nat} {v : Expr} {p1 p2 p3 pos : Pos} {Q : Value → Shared → Prop} (ha : a.length ≤ 1000) (hb : b.length ≤ 1000)
    (q0 : ∀ tk', wpAny (MM w) A (eval v env) (fun x s₁ => ∃ h₁ tk₁ i t, s₁ = Sh c h₁ tk₁ ∧ x = .int i t ∧ 0 ≤ i ∧ i < 256 ∧ ∀ r t tk', Q (.str r t) (Sh c h₁ tk')) E (Sh c h tk')) :
    wpAny (MM w) A (eval (.JoinedStr [.Constant (.str a) k1 p1, .FormattedValue v (-1) none p2, .Constant (.str b) k2 p3] pos) env) Q E (Sh c h tk) := by
  refine wpAny_JoinedStr ?_
  refine r_cstr fun t0 tk0 => ⟨a, t0, rfl, ?_, ?_⟩
  · rw [Str.length_append, sizeLine_eq]; show 0 + a.length ≤ _; (first | lia | omega)
  · refine wpAny_FormattedValue_plain (wpAny_mono (q0 tk0) (fun x s₁ h₁ => ?_) fun _ _ x => x)
    obtain ⟨h₁, tk₁, i, t, rfl, rfl, i0, i1, hQ⟩ := h₁
    have hl := text3 ⟨i.toNat, by (first | lia | omega)⟩
    rw [show ((⟨i.toNat, by (first | lia | omega)⟩ : Fin 256) : Nat) = i.toNat from rfl, Int.toNat_of_nonneg i0] at hl
    have e0 : (Str.empty).length = 0 := rfl
    refine wpAny_formatField_int (Nat.lt_of_le_of_lt (Nat.log2_le_self _) (by (first | lia | omega))) ⟨_, _, rfl, ?_, ?_⟩
    · rw [Str.length_append, Str.length_append, sizeLine_eq, e0]; (first | lia | omega)
    · refine r_cstr (h := h₁) (tk := tk₁ + 1 + 1) fun t5 tk5 => ⟨b, t5, rfl, ?_, ?_⟩
      · rw [Str.length_append, Str.length_append, Str.length_append, sizeLine_eq, e0]; (first | lia | omega)
      · refine ⟨?_, hQ _ _ _⟩
        rw [Str.length_append, Str.length_append, Str.length_append, sizeLine_eq, e0]; (first | lia | omega)
theorem leaves_held2 {outer : List Env} {L e : Addr} {cls : String} {a0 : Value} {Q : Unit → Shared → Prop} (hf : env.frame = some L) (hh : Heap.HeldW base (env :: outer) e (.type cls) a0 L h)
    (q : ∀ h', Heap.FlyingW base outer e (.type cls) a0 h' → h.UpToSlots h' → Q () (Sh c h' tk)) : wpAny (MM w) A (leaving env (.ref e)) Q E (Sh c h tk) := by
  unfold leaving
  refine wpAny_bind (wpAny_noteFrame_againW (s := Sh c h tk) hf hh.2.2.2 ?_)
  refine flight2 hh fun h' f u _ => q h' ⟨f.1, f.2.1, f.2.2.1.2.2, f.2.2.2⟩ u
theorem raised_out {env : Env} {outer : List Env} {L e : Addr} {cls : String} {a0 : Value} {E : Value → Shared → Prop} (hf : env.frame = some L) (hh : Heap.HeldW base (env :: outer) e (.type cls) a0 L h)
    (q : ∀ h', Heap.FlyingW base outer e (.type cls) a0 h' → h.UpToSlots h' → E (.ref e) (Sh c h' tk)) :
    LoopE w A env (fun (e : Value) (s' : Shared) => wpAny (MM w) A (leaving env e) (fun _ s'' => E e s'') (fun e' s'' => E e' s'') s') (.ref e) (Sh c h tk) := by
  refine noted_held hf hh (cameBack_held hf hh fun h2 hh2 u2 => ?_)
  exact leaves_held2 hf hh2 fun h3 f3 u3 => q h3 f3 (u2.trans u3)
end
end
local macro_rules | `(tactic| walk_at "M.e") => `(tactic| with_reducible first
  | ((first | refine' r_chain2 ?_ ?_ | refine' r_tuple ?_ ?_); kernel_rfl!)
  | refine' r_eqs ?_
  | fail)
local macro_rules | `(tactic| walk_at "M.x") => `(tactic| first
  | with_reducible first | refine' r_nilL ?_ | refine' r_consL ?_
  | walk_at "M.e")
section
noncomputable def loopBody : List Stmt := match bdyAt 4 with | [_, _, _, .While _ b _ _] => b | _ => []
noncomputable def offBody : List Stmt := match loopBody with | _ :: _ :: .If _ _ [.If _ _ b _] _ :: _ => b | _ => []
noncomputable def finBody : List Stmt := match loopBody with | .Try _ [.ExceptHandler _ _ b _] _ _ _ :: _ => b | _ => []
noncomputable abbrev envD (L : Addr) : Env := callEnv fdD L 35
section
variable {w : World} {A : Around} {E : Value → Shared → Prop} {c : Shared} {h base : Heap} {tk L : Nat}
noncomputable abbrev decVs (octs : List UInt8) (ch : Nat) (j : Nat) (W res : Int) (p : Nat) (b : Int) (err : Str) (t1 t3 t4 t5 ta tb tc td : Tok) : List (Str × Value) :=
  [("char", .int (ch : Int) t5), ("j", .int (j : Int) ta), ("w", .int W tb), ("result", .int res tc), ("extended", .bytes octs.toArray t1), ("extpos", .int (p : Int) td), ("bias", .int b t3), ("errors", .str err t4)]
noncomputable abbrev decVs0 (octs : List UInt8) (j : Nat) (W res : Int) (p : Nat) (b : Int) (err : Str) (t1 t3 t4 ta tb tc td : Tok) : List (Str × Value) :=
  [("j", .int (j : Int) ta), ("w", .int W tb), ("result", .int res tc), ("extended", .bytes octs.toArray t1), ("extpos", .int (p : Int) td), ("bias", .int b t3), ("errors", .str err t4)]
theorem off_walk {octs : List UInt8} {cb : UInt8} {j p : Nat} {W res b : Int} {err : Str} {t1 t3 t4 t5 ta tb tc td : Tok} {fl : List (Addr × Obj)} {Qf : Flow → Shared → Prop} (hctx : A.handled = none) (hsz : octs.length < 100000) (hcb : octs[p]? = some cb)
    (st : St w (envD L) base (decVs octs cb.toNat j W res (p + 1) b err t1 t3 t4 t5 ta tb tc td) fl [] h)
    (hraise : err = "strict" → ∀ h₁ tk₁ h' e, St w (envD L) base (decVs octs cb.toNat j W res (p + 1) b err t1 t3 t4 t5 ta tb tc td) fl [] h₁ → NewX h₁ h' e "UnicodeDecodeError" → E (.ref e) (Sh c h' tk₁))
    (hret : err ≠ "strict" → ∀ h₁ tk₁, St w (envD L) base (decVs octs cb.toNat j W res (p + 1) b err t1 t3 t4 t5 ta tb tc td) fl [] h₁ → Qf (.ret (.ref h₁.objs.size)) (Sh c (h₁.push (TO [.int ((p + 1 : Nat) : Int) td, .none])) tk₁)) :
    wpAny (MM w) A (execs offBody (envD L)) Qf E (Sh c h tk) := by
  have hlt : p < octs.length := by
    rcases Nat.lt_or_ge p octs.length with h | h
    · exact h
    · rw [List.getElem?_eq_none h] at hcb; cases hcb
  refine r_cons ?_
  repeat' (walk_at "M.x")
  refine ⟨fun h5 => ?_, fun h5 => ?_⟩
  · repeat' (walk_at "M.x")
    refine r_raiseUDE (by kernel_rfl!) ?_
    repeat' (walk_at "M.x")
    refine ⟨rfl, ?_⟩
    repeat' (walk_at "M.x")
    refine r_fstr (by decide +kernel) (by decide +kernel) fun tk9 => ?_
    repeat' (walk_at "M.x")
    refine r_itemB (k := p) (by (first | lia | omega)) hcb (by kernel_rfl!) (fun _ => by kernel_rfl!) hsz ?_
    intro t9 tk9
    refine ⟨_, _, _, _, rfl, rfl, by (first | lia | omega), by have := cb.toNat_lt; (first | lia | omega), fun r t tk' => ?_⟩
    repeat' (walk_at "M.x")
    exact ⟨_, _, _, _, _, _, _, _, _, _, _, _, rfl, rfl, by (first | lia | omega), by (first | lia | omega), by (first | lia | omega), by (first | lia | omega), .inl hctx, fun h' e hx => hraise (eq_of_beq h5) _ _ _ _ ‹_› hx⟩
  · have hns : err ≠ "strict" := fun e => by rw [e] at h5; exact absurd h5 (by decide)
    repeat' (walk_at "M.x")
    exact ⟨_, _, rfl, by simp, hret hns _ _ ‹_›⟩
theorem fin_walk {octs : List UInt8} {j p : Nat} {W res b : Int} {err : Str} {t1 t3 t4 ta tb tc td : Tok} {fl : List (Addr × Obj)} {Qf : Flow → Shared → Prop} (hctx : CtxOk A h) (hsz : octs.length < 100000) (hp : p < 100001)
    (st : St w (envD L) base (decVs0 octs j W res p b err t1 t3 t4 ta tb tc td) fl [] h)
    (hraise : err = "strict" → ∀ tk₁ h' e, NewX h h' e "UnicodeDecodeError" → E (.ref e) (Sh c h' tk₁))
    (hret : err ≠ "strict" → ∀ h₁ tk₁ t, St w (envD L) base (decVs0 octs j W res p b err t1 t3 t4 ta tb tc td) fl [] h₁ → Qf (.ret (.ref h₁.objs.size)) (Sh c (h₁.push (TO [.int ((p + 1 : Nat) : Int) t, .none])) tk₁)) :
    wpAny (MM w) A (execs finBody (envD L)) Qf E (Sh c h tk) := by
  refine r_cons ?_
  repeat' (walk_at "M.x")
  refine ⟨fun h5 => ?_, fun h5 => ?_⟩
  · repeat' (walk_at "M.x")
    refine r_raiseUDE (by kernel_rfl!) ?_
    repeat' (walk_at "M.x")
    refine ⟨rfl, ?_⟩
    repeat' (walk_at "M.x")
    exact ⟨_, _, _, _, _, _, _, _, _, _, _, _, rfl, rfl, by (first | lia | omega), by (first | lia | omega), by (first | lia | omega), by (first | lia | omega), hctx, fun h' e hx => hraise (eq_of_beq h5) _ _ _ hx⟩
  · have hns : err ≠ "strict" := fun e => by rw [e] at h5; exact absurd h5 (by decide)
    repeat' (walk_at "M.x")
    refine Later.mk ?_
    repeat' (walk_at "M.x")
    exact ⟨_, _, rfl, by simp, hret hns _ _ _ ‹_›⟩
end
end
section
section
variable {w : World} {A : Around} {E : Value → Shared → Prop} {c : Shared} {h : Heap} {tk : Nat}
noncomputable def DecQ (c : Shared) (h : Heap) (l : List Env) (err : Str) (Q : Value → Shared → Prop) (E : Value → Shared → Prop) : Out → Prop
  | .num e r => ∀ h' tk' a t1 t2, Slots (fsOf l) h h' → IsTup h' a #[.int (e : Int) t1, .int r t2] → Q (.ref a) (Sh c h' tk')
  | .off e => (err = "strict" → ∀ base h' tk' x a0, (∀ b, b ∉ fsOf l → base.get? b = h.get? b) → Slots (fsOf l) h h' → Heap.FlyingW base l x (.type "UnicodeDecodeError") a0 h' → E (.ref x) (Sh c h' tk')) ∧
      (err ≠ "strict" → ∀ h' tk' a t1, Slots (fsOf l) h h' → IsTup h' a #[.int (e : Int) t1, .none] → Q (.ref a) (Sh c h' tk'))
  | .fin e => (err = "strict" → ∀ base h' tk' x a0, (∀ b, b ∉ fsOf l → base.get? b = h.get? b) → Slots (fsOf l) h h' → Heap.FlyingW base l x (.type "UnicodeDecodeError") a0 h' → E (.ref x) (Sh c h' tk')) ∧
      (err ≠ "strict" → ∀ h' tk' a t1, Slots (fsOf l) h h' → IsTup h' a #[.int ((e + 1 : Nat) : Int) t1, .none] → Q (.ref a) (Sh c h' tk'))
theorem dec_call {l : List Env} {n : Nat} {octs : List UInt8} {p : Nat} {b : Int} {err : Str} {t1 t2 t3 t4 : Tok} {Q : Value → Shared → Prop} (kp : KeepR w h) (hff : FFr w h l) (hfr : A.frames = some l) (hA : A.handled = none) (hrm : Rm (n + 2) A)
    (hp : p ≤ octs.length) (hsz : octs.length < 100000)
    (q : DecQ c h l err Q E (dec b ((octs.map (·.toNat)).drop p) p 0 0 1)) :
    wpAny (MM w) A (call (.ref 35) [.bytes octs.toArray t1, .int (p : Int) t2, .int b t3, .str err t4] []) Q E (Sh c h tk) := by
  obtain ⟨base, fl, kb, hbe, hfl, hfm, hnf, hbo, hbn⟩ := hff.cut kp
  refine enter (body := bdyAt 4) (binds := [("extended", .bytes octs.toArray t1), ("extpos", .int (p : Int) t2), ("bias", .int b t3), ("errors", .str err t4)]) okD rfl kp (BindsTo.of_eq (by kernel_rfl!)) (by kernel_rfl!) (by kernel_rfl!) (by kernel_rfl!) hrm.lt ?_
  intro L h₁ tk₁ st
  have hrm' : Rm (n + 1) (A.deeper (callEnv fdD L 35)) := hrm.deeper
  have st0 := st.rebase kb hbe hfl (by rw [hfm]; exact hff.nodup)
  simp only [List.nil_append] at st0
  clear st
  have hfr' : (A.deeper (callEnv fdD L 35)).frames = some (callEnv fdD L 35 :: l) := by show A.frames.map _ = _; rw [hfr]; rfl
  have hA' : (A.deeper (callEnv fdD L 35)).handled = none := hA
  refine r_cons ?_
  repeat' (walk_at "M.e")
  refine (r_whileE (fun n h' => ∃ (p' j : Nat) (res W : Int) (ta tb tc td : Tok), St w (callEnv fdD L 35) base [("j", .int (j : Int) ta), ("w", .int W tb), ("result", .int res tc), ("extended", .bytes octs.toArray t1), ("extpos", .int (p' : Int) td), ("bias", .int b t3), ("errors", .str err t4)] fl [] h' ∧
    dec b ((octs.map (·.toNat)).drop p') p' j res W = dec b ((octs.map (·.toNat)).drop p) p 0 0 1 ∧ p' ≤ octs.length ∧ n = octs.length - p') (octs.length - p) ⟨p, 0, 0, 1, _, _, _, _, ‹_›, rfl, hp, rfl⟩ ?_)
  clear st0
  rintro n' h4 tk4 Q1 E1 hQn hQr hE1 hQb ⟨p', j, res, W, ta, tb, tc, td, st4, hd4, hp4, rfl⟩
  repeat' (walk_at "M.e")
  refine ⟨fun _ => ?_, fun e => absurd e (by decide)⟩
  refine r_cons (PySem.wpAny_Try_except ?_)
  repeat' (walk_at "M.e")
  rcases Nat.lt_or_ge p' octs.length with hlt | hge
  · -- an octet stands there
    obtain ⟨cb, hcb⟩ : ∃ cb, octs[p']? = some cb := ⟨_, List.getElem?_eq_getElem hlt⟩
    refine r_itemB rfl hcb (by kernel_rfl!) (fun _ => by kernel_rfl!) hsz ?_
    intro t5 tk5
    repeat' (walk_at "M.x")
    refine Later.mk ?_
    rename St w (callEnv fdD L 35) base _ _ _ _ => st6
    simp only [show (p' : Int) + 1 = ((p' + 1 : Nat) : Int) from rfl] at *
    have hdrop : (octs.map (·.toNat)).drop p' = cb.toNat :: (octs.map (·.toNat)).drop (p' + 1) := by
      rw [List.drop_eq_getElem_cons (by simpa using hlt)]
      congr 1
      rw [List.getElem_map]
      rw [List.getElem?_eq_getElem hlt] at hcb
      rw [Option.some.inj hcb]
    refine r_consM (I := fun s' => ∃ d h' tk' ta1 ta5, s' = Sh c h' tk' ∧ dig? cb.toNat = some d ∧ St w (callEnv fdD L 35) base [("digit", .int (d : Int) ta5), ("j", .int (j : Int) ta), ("w", .int W tb), ("result", .int res tc), ("extended", .bytes octs.toArray t1), ("extpos", .int ((p' + 1 : Nat) : Int) ta1), ("bias", .int b t3), ("errors", .str err t4)] fl [] h') ?_ ?_
    · have hoff : dig? cb.toNat = none → ∀ tq h₂ tk₂, St w (envD L) base (decVs octs cb.toNat j W res (p' + 1) b err t1 t3 t4 t5 ta tb tc tq) fl [] h₂ → ∀ Qf : Flow → Shared → Prop, (∀ v s, Q1 (.ret v) s → Qf (.ret v) s) → wpAny (MM w) (A.deeper (callEnv fdD L 35)) (execs offBody (envD L)) Qf E1 (Sh c h₂ tk₂) := by
        intro hdn tq h₂ tk₂ st₂ Qf hQf
        have hdd : dec b ((octs.map (·.toNat)).drop p) p 0 0 1 = .off (p' + 1) := by rw [← hd4, hdrop, dec_cons, hdn]
        rw [hdd] at q
        refine off_walk hA' hsz hcb st₂ (fun hst h3 tk3 h' e st3 hx => ?_) (fun hns h3 tk3 st3 => ?_)
        · have hf3 := st3.ff rfl hnf hff.kinds (fun L' hL' => by rw [hfm]; exact hL')
          refine hE1 _ _ (noted_new hfr' rfl st3.keep hf3 hx fun h5 a0 hh5 u5 => ?_)
          refine cameBack_held rfl hh5 fun h6 hh6 u6 => ?_
          refine leaves_held2 rfl hh6 fun h7 f7 u7 => ?_
          obtain ⟨ns7, lu7, st7⟩ := st3.upTo f7.1 (u5.trans (u6.trans u7)) hnf
          exact q.1 hst base _ _ _ _ hbo (slots_of st7 lu7 (fun p hp => (hfl p hp).1) hfm hbo) f7
        · refine hQf _ _ (hQr _ _ (q.2 hns _ _ _ _ ?_ (isTup_push _ _)))
          exact (slots_of st3 (LedUp.refl _) (fun p hp => (hfl p hp).1) hfm hbo).trans (Slots.of_ext fun b o e => Heap.get?_push_of_some _ e)
      repeat' (walk_at "M.x")
      refine ⟨fun h1 => ?_, fun h1 => ?_⟩
      · rw [decide_eq_true_eq] at h1
        repeat' (walk_at "M.x")
        refine ⟨fun h2 => ?_, fun h2 => ?_⟩
        · rw [decide_eq_true_eq] at h2
          repeat' (walk_at "M.x")
          rename St w (callEnv fdD L 35) base ((Str.ofString "digit", _) :: _) _ _ _ => stx
          simp only [show (cb.toNat : Int) - 65 = ((cb.toNat - 65 : Nat) : Int) from by (first | lia | omega)] at stx
          exact ⟨_, _, _, _, _, rfl, by unfold dig?; rw [if_pos (by (first | lia | omega))], stx.sub (by walk_at "M.sub") (by kernel_rfl!)⟩
        · rw [decide_eq_false_iff_not] at h2
          repeat' (walk_at "M.x")
          refine ⟨fun h3 => ?_, fun h3 => ?_⟩
          · rw [decide_eq_true_eq] at h3
            repeat' (walk_at "M.x")
            refine ⟨fun h4 => ?_, fun h4 => ?_⟩
            · rw [decide_eq_true_eq] at h4
              repeat' (walk_at "M.x")
              rename St w (callEnv fdD L 35) base ((Str.ofString "digit", _) :: _) _ _ _ => stx
              simp only [show (cb.toNat : Int) - 22 = ((cb.toNat - 22 : Nat) : Int) from by (first | lia | omega)] at stx
              exact ⟨_, _, _, _, _, rfl, by unfold dig?; rw [if_neg (by (first | lia | omega)), if_pos (by (first | lia | omega))], stx.sub (by walk_at "M.sub") (by kernel_rfl!)⟩
            · rw [decide_eq_false_iff_not] at h4
              exact hoff (by unfold dig?; rw [if_neg (by (first | lia | omega)), if_neg (by (first | lia | omega))]) _ _ _ ‹_› _ fun v s x => x
          · rw [decide_eq_false_iff_not] at h3
            refine ⟨fun h => absurd h (by decide), fun _ => ?_⟩
            exact hoff (by unfold dig?; rw [if_neg (by (first | lia | omega)), if_neg (by (first | lia | omega))]) _ _ _ ‹_› _ fun v s x => x
      · rw [decide_eq_false_iff_not] at h1
        refine ⟨fun h => absurd h (by decide), fun _ => ?_⟩
        repeat' (walk_at "M.x")
        refine ⟨fun h3 => ?_, fun h3 => ?_⟩
        · rw [decide_eq_true_eq] at h3
          repeat' (walk_at "M.x")
          refine ⟨fun h4 => ?_, fun h4 => ?_⟩
          · rw [decide_eq_true_eq] at h4
            repeat' (walk_at "M.x")
            rename St w (callEnv fdD L 35) base ((Str.ofString "digit", _) :: _) _ _ _ => stx
            simp only [show (cb.toNat : Int) - 22 = ((cb.toNat - 22 : Nat) : Int) from by (first | lia | omega)] at stx
            exact ⟨_, _, _, _, _, rfl, by unfold dig?; rw [if_neg (by (first | lia | omega)), if_pos (by (first | lia | omega))], stx.sub (by walk_at "M.sub") (by kernel_rfl!)⟩
          · rw [decide_eq_false_iff_not] at h4
            exact hoff (by unfold dig?; rw [if_neg (by (first | lia | omega)), if_neg (by (first | lia | omega))]) _ _ _ ‹_› _ fun v s x => x
        · rw [decide_eq_false_iff_not] at h3
          refine ⟨fun h => absurd h (by decide), fun _ => ?_⟩
          exact hoff (by unfold dig?; rw [if_neg (by (first | lia | omega)), if_neg (by (first | lia | omega))]) _ _ _ ‹_› _ fun v s x => x
    · rintro s' ⟨d, h7, tk7, ta1, ta5, rfl, hd, st7⟩
      have hm1 : IntMulOk (d : Int) W := mulOk_left (by
        have : d ≤ 35 := by
          unfold dig? at hd
          split at hd
          · cases hd; (first | lia | omega)
          · split at hd
            · cases hd; (first | lia | omega)
            · cases hd
        (first | lia | omega))
      have hT1 := Tm_lo (j : Int) b
      have hT2 := Tm_hi (j : Int) b
      have hm2 : IntMulOk W (36 - Tm (j : Int) b) := mulOk_right (by (first | lia | omega))
      repeat' (walk_at "M.x")
      refine can_f okT (St.kph ‹_›) (T_spec (St.kph ‹_›) hrm'.lt ?_)
      intro h8 tk8 t8 k8
      have st8 := st7.ext k8
      repeat' (walk_at "M.x")
      refine Later.mk ?_
      repeat' (walk_at "M.x")
      refine Later.mk ?_
      repeat' (walk_at "M.x")
      refine ⟨fun h5 => ?_, fun h5 => ?_⟩
      · rw [decide_eq_true_eq] at h5
        repeat' (walk_at "M.x")
        have hdd : dec b ((octs.map (·.toNat)).drop p) p 0 0 1 = .num (p' + 1) (res + d * W) := by rw [← hd4, hdrop, dec_cons, hd]; exact if_pos h5
        rw [hdd] at q
        simp only [DecQ] at q
        refine ⟨_, _, rfl, by simp, hQr _ _ (q _ _ _ _ _ ?_ (isTup_push _ _))⟩
        rename St w (callEnv fdD L 35) base _ _ _ _ => stx
        exact (slots_of stx (LedUp.refl _) (fun p hp => (hfl p hp).1) hfm hbo).trans (Slots.of_ext fun b o e => Heap.get?_push_of_some _ e)
      · rw [decide_eq_false_iff_not] at h5
        repeat' (walk_at "M.x")
        refine Later.mk ?_
        repeat' (walk_at "M.x")
        refine Later.mk ?_
        repeat' (walk_at "M.x")
        rename St w (callEnv fdD L 35) base _ _ _ _ => stx
        simp only [show (j : Int) + 1 = ((j + 1 : Nat) : Int) from rfl] at stx
        refine hQn (octs.length - (p' + 1)) _ _ ⟨p' + 1, j + 1, res + d * W, W * (36 - Tm j b), _, _, _, _, stx.sub (by walk_at "M.sub") (by kernel_rfl!), ?_, hlt, rfl⟩ (by (first | lia | omega))
        rw [← hd4, hdrop, dec_cons, hd]
        exact (if_neg h5).symm
  · have hpe : p' = octs.length := Nat.le_antisymm hp4 hge
    refine r_itemBout hA' (by (first | lia | omega)) (by (first | lia | omega)) hsz (by kernel_rfl!) (fun _ => by kernel_rfl!) ?_
    intro h5 tk5 e hx
    rename St w (callEnv fdD L 35) base _ _ _ _ => st5
    have hf5 := st5.ff rfl hnf hff.kinds (fun L' hL' => by rw [hfm]; exact hL')
    refine note_new2 hfr' rfl st5.keep hf5 hx fun h6 a0 hfl6 up6 nc6 => ?_
    obtain ⟨ns6, lu6, st6⟩ := st5.upTo hfl6.1 up6 hnf
    refine land2 st6 hfl6 nc6 PySem.F.isExc_IndexError PySem.F.notTuple_IndexError PySem.F.self_IndexError rfl (by unfold builtL; walk_at "M.mem") (by kernel_rfl!) (lu6.nf hnf) ?_
    intro h7 ns7 lu7 st7 hfl7 up7 nc7
    have hdd : dec b ((octs.map (·.toNat)).drop p) p 0 0 1 = .fin p' := by
      rw [← hd4, List.drop_eq_nil_of_le (by simpa using hge)]; rfl
    rw [hdd] at q
    have lu := lu6.trans lu7
    have nf7 := lu.nf hnf
    have hfm7 : ns7.map (·.1) = fsOf l := by rw [lu.keys]; exact hfm
    have hctx : CtxOk ((A.deeper (callEnv fdD L 35)).mark (some (.ref e))) h7 := by
      obtain ⟨ob, vs, x, y, z⟩ := nc7
      exact .inr ⟨e, ob, vs, rfl, x, y, z⟩
    refine fin_walk hctx hsz (by (first | lia | omega)) st7 (fun hst tk8 h' e2 hx8 => ?_) (fun hns h8 tk8 t8 st8 => ?_)
    · have hf7 := st7.ff (l := l) rfl nf7 hff.kinds (fun L' hL' => by rw [hfm7]; exact hL')
      refine noted_new hfr' rfl st7.keep hf7 hx8 fun h9 a9 hh9 u9 => ?_
      refine cameBack_held rfl hh9 fun h10 hh10 u10 => ?_
      refine hE1 _ _ (raised_out rfl hh10 fun h11 f11 u11 => ?_)
      obtain ⟨ns11, lu11, st11⟩ := st7.upTo f11.1 (u9.trans (u10.trans u11)) nf7
      exact q.1 hst base _ _ _ _ hbo (slots_of st11 (lu.trans lu11) (fun p hp => (hfl p hp).1) hfm hbo) f11
    · refine hQr _ _ (q.2 hns _ _ _ _ ?_ (isTup_push _ _))
      exact (slots_of st8 lu (fun p hp => (hfl p hp).1) hfm hbo).trans (Slots.of_ext fun b o e => Heap.get?_push_of_some _ e)
end
end
section
structure Imp {α : Type} (Q T : α → Shared → Prop) : Prop where
  use : ∀ a s, Q a s → T a s
theorem Imp.refl {α : Type} (Q : α → Shared → Prop) : Imp Q Q := ⟨fun _ _ x => x⟩
structure It (w : World) (A : Around) (I : Addr) (fx : List (Addr × Obj)) (n : Nat) (P : Nat → Value → Prop) (itP : Nat → Obj → Prop) : Prop where
  ntup : ∀ i o, itP i o → o.cls ≠ .type "tuple"
  self : ∀ i (s : Shared) o (Q : Value → Shared → Prop) (E : Value → Shared → Prop), itP i o → s.heap.get? I = some o → Q (.ref I) s → wpAny (MM w) A (pyIter (.ref I)) Q E s
  item : ∀ i (s : Shared) o (Q : Option Value → Shared → Prop) (E : Value → Shared → Prop), i < n → itP i o → s.heap.get? I = some o → (∀ p ∈ fx, s.heap.get? p.1 = some p.2) →
    (∀ v h' tk o', P i v → Heap.SameBut I s.heap h' → h'.get? I = some o' → itP (i + 1) o' → Q (some v) { s with heap := h', toks := tk }) → wpAny (MM w) A (pyNext (.ref I)) Q E s
  done : ∀ (s : Shared) o (Q : Option Value → Shared → Prop) (E : Value → Shared → Prop), itP n o → s.heap.get? I = some o → (∀ p ∈ fx, s.heap.get? p.1 = some p.2) →
    (∀ h', Heap.ExtBut I s.heap h' → Q none { s with heap := h' }) → wpAny (MM w) A (pyNext (.ref I)) Q E s
section
variable {w : World} {A : Around} {E : Value → Shared → Prop} {c : Shared} {h : Heap} {tk : Nat}
theorem It.list (hA : A.handled = none) {I l : Addr} {ol : Obj} {items : List Value} {m : Nat} (hc : ol.cls = .type "list") (hd : ol.data = .seq items.toArray m) :
    It w A I [(l, ol)] items.length (fun i v => items[i]? = some v) (fun i o => o.cls = .type "list_iterator" ∧ o.data = .fields #[.ref l, .int i 0]) where
  ntup := fun i o x => by rw [x.1]; decide
  self := fun i s o Q E x ho q => wpAny_pyIter_listiter ⟨o, ho, x⟩ q
  item := fun i s o Q E hi x ho hf q => by
    have hl : s.heap.IsList l items.toArray := ⟨ol, hf _ (List.mem_singleton_self _), hc, m, hd⟩
    refine wpAny_pyNext_list_item ⟨o, ho, x⟩ hl (x := items[i]) (by simp [hi]) fun h' hit hs => ?_
    obtain ⟨o', ho', x'⟩ := hit
    exact q _ h' s.toks o' (by simp [hi]) hs ho' x'
  done := fun s o Q E x ho hf q => by
    have hl : s.heap.IsList l items.toArray := ⟨ol, hf _ (List.mem_singleton_self _), hc, m, hd⟩
    exact wpAny_pyNext_list_end hA ⟨o, ho, x⟩ hl (by simp) fun h' he => q h' he
theorem It.str (hA : A.handled = none) {I : Addr} {x : Str} {t : Tok} :
    It w A I [] x.cps.size (fun i v => ∃ ch u, x.cps[i]? = some ch ∧ v = .str ⟨#[ch]⟩ u) (fun i o => o.cls = .type (strIterType x) ∧ o.data = .fields #[.str x t, .int i 0]) where
  ntup := fun i o x' => by rw [x'.1]; unfold strIterType; split <;> decide
  self := fun i s o Q E x' ho q => by
    by_cases ha : x.cps.all (· < 128) = true
    · have e : strIterType x = "str_ascii_iterator" := by unfold strIterType; rw [if_pos ha]
      exact wpAny_pyIter_striter_ascii ⟨o, ho, by rw [← e]; exact x'.1, x'.2⟩ q
    · have e : strIterType x = "str_iterator" := by unfold strIterType; rw [if_neg ha]
      exact wpAny_pyIter_striter_wide ⟨o, ho, by rw [← e]; exact x'.1, x'.2⟩ q
  item := fun i s o Q E hi x' ho hf q => by
    have hc : x.cps[i]? = some x.cps[i] := by simp [hi]
    by_cases ha : x.cps.all (· < 128) = true
    · have e : strIterType x = "str_ascii_iterator" := by unfold strIterType; rw [if_pos ha]
      refine wpAny_pyNext_ascii_item ⟨o, ho, by rw [← e]; exact x'.1, x'.2⟩ hc fun h' hit hs => ?_
      obtain ⟨o', ho', y1, y2⟩ := hit
      exact q _ h' _ o' ⟨_, _, hc, rfl⟩ hs ho' ⟨by rw [e]; exact y1, y2⟩
    · have e : strIterType x = "str_iterator" := by unfold strIterType; rw [if_neg ha]
      refine wpAny_pyNext_wide_item ⟨o, ho, by rw [← e]; exact x'.1, x'.2⟩ hc fun h' hit hs => ?_
      obtain ⟨o', ho', y1, y2⟩ := hit
      exact q _ h' _ o' ⟨_, _, hc, rfl⟩ hs ho' ⟨by rw [e]; exact y1, y2⟩
  done := fun s o Q E x' ho hf q => by
    have hc : x.cps[x.cps.size]? = none := by simp
    by_cases ha : x.cps.all (· < 128) = true
    · have e : strIterType x = "str_ascii_iterator" := by unfold strIterType; rw [if_pos ha]
      exact wpAny_pyNext_ascii_end hA ⟨o, ho, by rw [← e]; exact x'.1, x'.2⟩ hc fun h' he => q h' he
    · have e : strIterType x = "str_iterator" := by unfold strIterType; rw [if_neg ha]
      exact wpAny_pyNext_wide_end hA ⟨o, ho, by rw [← e]; exact x'.1, x'.2⟩ hc fun h' he => q h' he
noncomputable abbrev RIt (x left step : Int) : Obj := { cls := .type "range_iterator", dict := none, data := .fields #[rawInt x, rawInt left, rawInt step], slots := #[] }
theorem It.range (hA : A.handled = none) {I : Addr} {a st : Int} {n : Nat} :
    It w A I [] n (fun i v => ∃ u, v = .int (a + (i : Int) * st) u) (fun i o => o = RIt (a + (i : Int) * st) ((n : Int) - (i : Int)) st) where
  ntup := fun i o x => by rw [x]; show Value.type "range_iterator" ≠ .type "tuple"; decide
  self := fun i s o Q E x ho q => wpAny_pyIter_rangeiter (by rw [x] at ho; exact ho) q
  item := fun i s o Q E hi x ho hf q => by
    rw [x] at ho
    refine wpAny_pyNext_range_item ho (by (first | lia | omega)) fun h' hit hs => ?_
    refine q _ h' _ _ ⟨_, rfl⟩ hs hit ?_
    have e1 : a + (i : Int) * st + st = a + ((i + 1 : Nat) : Int) * st := by rw [Int.natCast_add, Int.add_mul]; (first | lia | omega)
    have e2 : (n : Int) - (i : Int) - 1 = (n : Int) - ((i + 1 : Nat) : Int) := by (first | lia | omega)
    rw [e1, e2]
  done := fun s o Q E x ho hf q => by
    rw [x] at ho
    exact wpAny_pyNext_range_end hA ho (by (first | lia | omega)) fun h' he => q h' he
end
section
variable {w : World} {env : Env} {h₀ h h' : Heap} {vs : List (Str × Value)} {ns : List (Addr × Obj)} {rs : List (Value × D)} {A : Around} {E : Value → Shared → Prop} {c : Shared} {tk : Nat}
theorem St.ledSub {ns' : List (Addr × Obj)} (st : St w env h₀ vs ns rs h) (hs : ns'.Sublist ns) : St w env h₀ vs ns' rs h :=
  { st with led := fun p hp => st.led p (hs.subset hp), dis := st.dis.sublist (.cons₂ _ (hs.map _)) }
theorem St.drop1 {p : Addr × Obj} (st : St w env h₀ vs (p :: ns) rs h) : St w env h₀ vs ns rs h := st.ledSub (.cons _ (.refl _))
theorem St.repSub {rs' : List (Value × D)} (st : St w env h₀ vs ns rs h) (hs : ∀ r ∈ rs', r ∈ rs) : St w env h₀ vs ns rs' h := { st with rep := fun r hr => st.rep r (hs r hr) }
theorem St.lose {I : Addr} {o : Obj} (st : St w env h₀ vs ((I, o) :: ns) rs h) (hn : o.cls ≠ .type "tuple") (hx : Heap.ExtBut I h h') : St w env h₀ vs ns rs h' := by
  have d := List.nodup_cons.mp st.dis
  have d2 := List.nodup_cons.mp d.2
  have hI := st.led _ (List.mem_cons_self)
  have hl : env.locals ≠ I := fun e => d.1 (e ▸ List.mem_cons_self)
  obtain ⟨m, ml, mv⟩ := st.loc
  refine ⟨st.kp, fun b ob e => hx b ob (fun x => by rw [x, hI.2] at e; cases e) (st.keep b ob e), st.fk, st.eg, st.eb, ⟨m, ml.extBut hx hl, mv⟩, st.nd, st.old, fun q hq => ⟨hx _ _ (fun x => by have hm := List.mem_map_of_mem (f := (·.1)) hq; rw [x] at hm; exact d2.1 hm) (st.led q (.tail _ hq)).1, (st.led q (.tail _ hq)).2⟩,
    List.nodup_cons.mpr ⟨fun hm => d.1 (.tail _ hm), d2.2⟩, fun r hr => (st.rep r hr).mono fun a items x => ?_⟩
  obtain ⟨o', ho', hc, y⟩ := x
  refine ⟨o', hx _ _ (fun x => ?_) ho', hc, y⟩
  rw [x, hI.1] at ho'; cases ho'; exact hn hc
inductive ForQ (w : World) (A : Around) (env : Env) (c : Shared) (h₀ : Heap) {X : Type} (xn : Str) (body : List Stmt) (V : Nat → X → List (Str × Value)) (N : Nat → X → List (Addr × Obj)) (R : Nat → X → List (Value × D)) (F : Nat → X → Prop) (Q : Flow → Shared → Prop) (it : Value) (s₂ : Shared) : Prop
  | mk (I : Addr) (o : Obj) (h₂ : Heap) (tk₂ : Nat) (n : Nat) (fx : List (Addr × Obj)) (P : Nat → Value → Prop) (itP : Nat → Obj → Prop) (x0 : X) (q0 : it = .ref I) (q1 : s₂ = Sh c h₂ tk₂) (q2 : It w A I fx n P itP) (q3 : itP 0 o) (q4 : St w env h₀ (V 0 x0) ((I, o) :: N 0 x0) (R 0 x0) h₂) (q5 : F 0 x0) (q6 : (∀ i x, i ≤ n → ((V i x).all fun p => !(p.1 == xn)) = true)) (q7 : (∀ i x o h, St w env h₀ (V i x) ((I, o) :: N i x) (R i x) h → ∀ p ∈ fx, h.get? p.1 = some p.2)) (q8 : (∀ i v o h tk x (Q1 : Flow → Shared → Prop) (E1 : Value → Shared → Prop), i < n → P i v → itP (i + 1) o → F i x → St w env h₀ ((xn, v) :: V i x) ((I, o) :: N i x) (R i x) h →
        (∀ x' h' tk', F (i + 1) x' → St w env h₀ (V (i + 1) x') ((I, o) :: N (i + 1) x') (R (i + 1) x') h' → Q1 .next (Sh c h' tk')) → (∀ v s, Q (.ret v) s → Q1 (.ret v) s) → (∀ s, Q .next s → Q1 .brk s) →
        wpAny (MM w) A (execs body env) Q1 NoE (Sh c h tk))) (q9 : (∀ x h tk, F n x → St w env h₀ (V n x) (N n x) (R n x) h → Q .next (Sh c h tk))) : ForQ w A env c h₀ xn body V N R F Q it s₂
theorem r_for {X : Type} {xn : Str} {px pos : Pos} {iter : Expr} {body : List Stmt} {Q : Flow → Shared → Prop} (V : Nat → X → List (Str × Value)) (N : Nat → X → List (Addr × Obj)) (R : Nat → X → List (Value × D)) (F : Nat → X → Prop)
    (hk : env.kindOf xn = some .local) (hs : ∀ x, foldedSetIterable iter env x = Pure.pure x)
    (q : ∀ T : Value → Shared → Prop, Imp (ForQ w A env c h₀ xn body V N R F Q) T → wpAny (MM w) A (eval iter env) (XTh w A E pyIter T) E (Sh c h tk)) :
    wpAny (MM w) A (exec (.For (.Name xn px) iter body [] pos) env) Q E (Sh c h tk) := by
  refine wpAny_For (wpAny_mono (q _ (Imp.refl _)) (fun xv s₁ q₁ => wpAny_mono q₁ (fun it s₂ q₂ => ?_) fun _ _ x => x) fun _ _ x => x) hs
  obtain ⟨I, o, h₂, tk₂, n, fx, P, itP, x0, rfl, rfl, W, ho, st, hF, hV, hfx, turn, fin⟩ := q₂
  refine codeAny_forLoop (fun k s => ∃ i x o h tk, s = Sh c h tk ∧ k = n - i ∧ i ≤ n ∧ itP i o ∧ F i x ∧ St w env h₀ (V i x) ((I, o) :: N i x) (R i x) h) ?_ n ⟨0, x0, o, h₂, tk₂, rfl, rfl, Nat.zero_le _, ho, hF, st⟩
  rintro k s ⟨i, x, o, h, tk, rfl, rfl, hi, ho, hF, st⟩
  rcases Nat.lt_or_ge i n with hlt | hge
  · refine W.item i _ o _ _ hlt ho (st.led _ List.mem_cons_self).1 (hfx i x o h st) fun v h' tk' o' hP hsb hg ho' => ?_
    have st' := st.write .here hsb hg (noTup_of (st.led _ List.mem_cons_self).1 (W.ntup _ _ ho))
    refine wpAny_assign_Name ?_
    refine r_store (c := c) st' hk (PutN.new (hV i x hi)) fun h'' tk'' st'' => ?_
    refine wpAny_mono (turn i v o' h'' tk'' x (fun f s₃ => match f with
      | .next | .cont => ∃ m, m < n - i ∧ ∃ i' x o h tk, s₃ = Sh c h tk ∧ m = n - i' ∧ i' ≤ n ∧ itP i' o ∧ F i' x ∧ St w env h₀ (V i' x) ((I, o) :: N i' x) (R i' x) h
      | .brk => Q .next s₃
      | .ret v => Q (.ret v) s₃) NoE hlt hP ho' hF st'' (fun x' h3 tk3 hF3 st3 => ⟨n - (i + 1), by (first | lia | omega), i + 1, x', o', h3, tk3, rfl, rfl, hlt, ho', hF3, st3⟩) (fun v s y => y) (fun s y => y)) (fun f s₃ y => ?_) fun _ _ y => y.elim
    cases f <;> exact y
  · obtain rfl : i = n := Nat.le_antisymm hi hge
    refine W.done _ o _ _ ho (st.led _ List.mem_cons_self).1 (hfx i x o h st) fun h' he => ?_
    refine wpAny_execs_nil ?_
    exact fin x h' tk hF (st.lose (W.ntup _ _ ho) he)
end
end
section
theorem LO_push (ys : List Value) (y : Value) : ys.toArray.push y = (ys ++ [y]).toArray := by simp
section
variable {w : World} {env : Env} {h₀ h h' : Heap} {vs vs' : List (Str × Value)} {ns : List (Addr × Obj)} {rs : List (Value × D)} {A : Around} {E : Value → Shared → Prop} {c : Shared} {tk : Nat}
noncomputable abbrev Tests (ifs : List Expr) (env : Env) : Sem Bool := forIn ifs true fun c r => if r = true then do let ok ← PySem.isTrue c env (eval c env); Pure.pure (ForInStep.yield ok) else Pure.pure (ForInStep.yield r)
theorem t_none {Q : Bool → Shared → Prop} {s : Shared} (q : Q true s) : wpAny (MM w) A (Tests [] env) Q E s := wpAny_pure q
theorem t_one {t : Expr} {Q : Bool → Shared → Prop} {s : Shared} (q : wpAny (MM w) A (PySem.isTrue t env (eval t env)) Q E s) : wpAny (MM w) A (Tests [t] env) Q E s := by
  unfold Tests
  rw [List.forIn_cons]
  rw [if_pos rfl]
  refine wpAny_bind (wpAny_bind (wpAny_mono q (fun b s' x => wpAny_pure ?_) fun _ _ x => x))
  exact wpAny_pure x
inductive CmpV (w : World) (c : Shared) (env' : Env) (base : Heap) (xn : Str) (v : Value) (ns' : List (Addr × Obj)) (rs' : List (Value × D)) (d : D) (y : Value) (s'' : Shared) : Prop
  | mk (h'' : Heap) (tk'' : Nat) (e : s'' = Sh c h'' tk'') (st : St w env' base [(xn, v)] ns' rs' h'') (r : Rep h'' y d) : CmpV w c env' base xn v ns' rs' d y s''
inductive CmpT (w : World) (A : Around) (c : Shared) (env' : Env) (base : Heap) (xn : Str) (v : Value) (ns' : List (Addr × Obj)) (rs' : List (Value × D)) (elt : Expr) (z : Bool) (d : D) (ok : Bool) (s' : Shared) : Prop
  | mk (e0 : ok = z) (h' : Heap) (tk' : Nat) (e : s' = Sh c h' tk') (st : St w env' base [(xn, v)] ns' rs' h') (k : z = true → ∀ T : Value → Shared → Prop, Imp (CmpV w c env' base xn v ns' rs' d) T → wpAny (MM w) A (eval elt env') T NoE s') : CmpT w A c env' base xn v ns' rs' elt z d ok s'
noncomputable def CompT (w : World) (A : Around) (c : Shared) (env : Env) (scope : Scope) (cl : List (Str × Addr)) (xn : Str) (elt : Expr) (ifs : List Expr) (base : Heap) (n : Nat) (P : Nat → Value → Prop) (pz : Nat → Bool) (d : Nat → D) : Prop :=
  ∀ i v C I oI D' ys m h tk, i < n → P i v → St w (compEnvC scope cl C env) base [(xn, v)] [(I, oI), (D', LO ys m)] (ys.zip (((List.range i).filter pz).map d)) h →
    ∀ T : Bool → Shared → Prop, Imp (CmpT w A c (compEnvC scope cl C env) base xn v [(I, oI), (D', LO ys m)] (ys.zip (((List.range i).filter pz).map d)) elt (pz i) (d i)) T → wpAny (MM w) A (Tests ifs (compEnvC scope cl C env)) T NoE (Sh c h tk)
theorem comp_block {xn : Str} {px : Pos} {elt iter : Expr} {ifs : List Expr} {scope : Scope} {cl : List (Str × Addr)} {pos : Pos} {base : Heap} {oI : Obj} {n : Nat} {fx : List (Addr × Obj)} {P : Nat → Value → Prop} {itP : Nat → Obj → Prop} {pz : Nat → Bool} {d : Nat → D} {RR : Value → Addr → Result → Shared → Prop}
    (W : It w A base.objs.size fx n P itP) (ho : itP 0 oI) (hfr : oI.isFreed = false) (hfx : ∀ p ∈ fx, base.get? p.1 = some p.2) (hn : n < 100000)
    (kb : KeepR w base) (eg : env.globals = mainGlobals) (eb : env.builtins = builtinsNs)
    (hcell : ∀ y ∈ scope.names, y.2 ≠ .cell) (hkind : scope.kind = .function) (hx : scope.names.lookup xn = some .local)
    (turn : CompT w A c env scope cl xn elt ifs base n P pz d)
    (hRR : ∀ D' C h' tk' ys m, base.get? D' = none → base.get? C = none → D' ≠ C → Ext base h' → (∃ m, h'.Ns C m) → h'.get? D' = some (LO ys m) → ys.length = ((List.range n).filter pz).length → (∀ r ∈ ys.zip (((List.range n).filter pz).map d), Rep h' r.1 r.2) →
      RR (.ref D') C (.ok .next) (Sh c h' tk')) :
    wpAny (MM w) A (newList []) (fun acc s₃ => wpAny (MM w) A (newFunctionEnv scope env.globals cl [] env.qual none .none (some env)) (fun cenv s₄ =>
      codeAny (MM w) A (.compStart (.ListComp elt [⟨.Name xn px, iter, ifs, 0⟩] scope pos) 0 (.ref base.objs.size) acc { cenv with scope := relabel scope env }) (RR acc cenv.locals) s₄) E s₃) E (Sh c (base.push oI) tk) := by
  refine wpAny_newObj_type (wpAny_newFunctionEnv hcell (by intro y hy; simp at hy) (fun h₁ hns₁ hsb₁ => ?_) hkind)
  dsimp only at hns₁ hsb₁ ⊢
  have oIns : (base.push oI).get? base.objs.size = some oI := Heap.get?_push_size _ hfr
  generalize hB1 : base.push oI = B1 at hns₁ hsb₁ oIns ⊢
  generalize hH2 : B1.push { cls := .type "list", dict := none, data := .seq ([] : List Value).toArray } = H2 at hns₁ hsb₁ ⊢
  have s1 : B1.objs.size = base.objs.size + 1 := by rw [← hB1, Heap.size_push]
  have s2 : H2.objs.size = base.objs.size + 2 := by rw [← hH2, Heap.size_push, s1]
  have hDg : H2.get? B1.objs.size = some (LO [] 0) := by rw [← hH2]; exact Heap.get?_push_size _ rfl
  have k2 : ∀ b o, B1.get? b = some o → H2.get? b = some o := fun b o e => by rw [← hH2]; exact Heap.get?_push_of_some _ e
  have k1 : ∀ b o, base.get? b = some o → B1.get? b = some o := fun b o e => by rw [← hB1]; exact Heap.get?_push_of_some _ e
  have k3 : ∀ b o, H2.get? b = some o → h₁.get? b = some o := fun b o e => hsb₁.extBut b o (Nat.ne_of_lt (Heap.lt_size e)) (Heap.get?_push_of_some _ e)
  have fresh : ∀ a, base.objs.size ≤ a → base.get? a = none := fun a ha => by
    cases e : base.get? a with
    | none => rfl
    | some o' => exact absurd (Heap.lt_size e) (Nat.not_lt.mpr ha)
  have hDn := fresh B1.objs.size (by (first | lia | omega))
  have hCn := fresh H2.objs.size (by (first | lia | omega))
  have st0 : St w (compEnvC scope cl H2.objs.size env) base [] [(base.objs.size, oI), (B1.objs.size, LO [] 0)] [] h₁ := by
    refine ⟨kb, fun b o e => k3 b o (k2 b o (k1 b o e)), hkind, eg, eb, ⟨_, hns₁, fun p hp => nomatch hp⟩, by simp, hCn, fun p hp => ?_, ?_, fun r hr => nomatch hr⟩
    · rcases List.mem_cons.mp hp with rfl | hp
      · exact ⟨k3 _ _ (k2 _ _ oIns), fresh _ (Nat.le_refl _)⟩
      · rw [List.mem_singleton.mp hp]; exact ⟨k3 _ _ hDg, hDn⟩
    · show [H2.objs.size, base.objs.size, B1.objs.size].Nodup
      simp only [List.nodup_cons, List.mem_cons, List.not_mem_nil, or_false, not_or, List.nodup_nil, and_true, not_false_eq_true]
      (first | lia | omega)
  have loop : ∀ s₃ : Shared, s₃ = Sh c h₁ (tk + ([] : List (Str × Value)).length) →
      codeAny (MM w) A (.compLoop (.ListComp elt [⟨.Name xn px, iter, ifs, 0⟩] scope pos) 0 (.ref base.objs.size) (.ref B1.objs.size) (compEnvC scope cl H2.objs.size env)) (RR (.ref B1.objs.size) H2.objs.size) s₃ := by
    rintro s₃ rfl
    refine codeAny_compLoop_tests (fun k s => ∃ i o ys m h tk, s = Sh c h tk ∧ k = n - i ∧ i ≤ n ∧ itP i o ∧ ys.length = ((List.range i).filter pz).length ∧
      St w (compEnvC scope cl H2.objs.size env) base [] [(base.objs.size, o), (B1.objs.size, LO ys m)] (ys.zip (((List.range i).filter pz).map d)) h) ?_ n ⟨0, oI, [], 0, h₁, _, rfl, rfl, Nat.zero_le _, ho, rfl, by simpa using st0⟩
    rintro k s ⟨i, o, ys, m, h, tk, rfl, rfl, hi, ho, hlen, st⟩
    have hfx' : ∀ p ∈ fx, h.get? p.1 = some p.2 := fun p hp => st.keep _ _ (hfx p hp)
    rcases Nat.lt_or_ge i n with hlt | hge
    · refine W.item i _ o _ _ hlt ho (st.led _ List.mem_cons_self).1 hfx' fun v h' tk' o' hP hsb hg ho' => ?_
      have st' := st.write .here hsb hg (noTup_of (st.led _ List.mem_cons_self).1 (W.ntup _ _ ho))
      refine wpAny_assign_Name ?_
      refine r_store (c := c) st' (lookup_relabel_local hx) (PutN.new rfl) fun h3 tk3 st3 => ?_
      refine wpAny_mono (turn i v H2.objs.size _ o' B1.objs.size ys m h3 tk3 hlt hP st3 _ (Imp.refl _)) (fun ok s4 q => ?_) fun _ _ x => x.elim
      obtain ⟨rfl, h4, tk4, rfl, st4, qe⟩ := q
      have st4 := st4.sub (vs' := []) .nil rfl
      have hrange : (List.range (i + 1)).filter pz = (List.range i).filter pz ++ (if pz i then [i] else []) := by
        rw [List.range_succ, List.filter_append]
        cases hp : pz i <;> simp [hp]
      cases hp : pz i with
      | false =>
        rw [if_neg (by simp)]
        rw [hp] at hrange
        simp only [Bool.false_eq_true, if_false, List.append_nil] at hrange
        exact ⟨n - (i + 1), by (first | lia | omega), i + 1, o', ys, m, h4, tk4, rfl, rfl, hlt, ho', by rw [hrange]; exact hlen, by rw [hrange]; exact st4⟩
      | true =>
        rw [if_pos rfl]
        rw [hp] at hrange
        simp only [if_true] at hrange
        refine wpAny_mono (qe hp _ (Imp.refl _)) (fun y s5 q5 => ?_) fun _ _ x => x.elim
        obtain ⟨h5, tk5, rfl, st5, hr⟩ := q5
        have st5 := st5.sub (vs' := []) .nil rfl
        have hys : ys.length ≤ n := by
          rw [hlen]
          refine Nat.le_trans (List.length_filter_le _ _) ?_
          rw [List.length_range]; exact hi
        have hpl : h5.PlainList B1.objs.size ys.toArray := ⟨m, (st5.led _ (.tail _ (.head _))).1⟩
        refine wpAny_list_append_plain hpl (fun h6 hpl6 hs6 => ?_) (by rw [sizeLine_eq, List.size_toArray]; (first | lia | omega))
        obtain ⟨m6, hg6⟩ := hpl6
        rw [LO_push] at hg6
        have st6 := (st5.addRep hr).write (.there .here) hs6 hg6 (noTup_of (st5.led _ (.tail _ (.head _))).1 (show Value.type "list" ≠ .type "tuple" by decide))
        refine ⟨n - (i + 1), by (first | lia | omega), i + 1, o', ys ++ [y], m6, h6, tk5, rfl, rfl, hlt, ho', by rw [hrange, List.length_append, List.length_append, hlen]; rfl, ?_⟩
        rw [hrange, List.map_append, List.zip_append (by rw [hlen, List.length_map])]
        refine { st6 with rep := fun r hr' => ?_ }
        rcases List.mem_append.mp hr' with hr' | hr'
        · exact st6.rep r (.tail _ hr')
        · refine st6.rep r ?_
          rw [show [y].zip ([i].map d) = [(y, d i)] from rfl] at hr'
          rw [List.mem_singleton.mp hr']
          exact .head _
    · obtain rfl : i = n := Nat.le_antisymm hi hge
      refine W.done _ o _ _ ho (st.led _ List.mem_cons_self).1 hfx' fun h' he => ?_
      have st' := st.lose (W.ntup _ _ ho) he
      obtain ⟨mm, hmm, _⟩ := st'.loc
      exact hRR _ _ h' tk ys m hDn hCn (by show B1.objs.size ≠ H2.objs.size; rw [s1, s2]; exact Nat.ne_of_lt (Nat.lt_succ_self _)) st'.keep ⟨mm, hmm⟩ (st'.led _ (.head _)).1 hlen st'.rep
  exact codeAny_compStart_list (loop _ rfl) (W.self 0 _ oI _ _ ho (st0.led _ (.head _)).1 (loop _ rfl))
theorem r_comp {xn : Str} {px : Pos} {elt iter : Expr} {ifs : List Expr} {scope : Scope} {cl : List (Str × Addr)} {pos : Pos} {Q : Value → Shared → Prop} {hx0 : Heap} (_ : St w env h₀ vs ns rs hx0)
    (hclos : closureFor scope env = Pure.pure cl) (hcell : (scope.names.all fun y => y.2 != .cell) = true) (hkind : scope.kind = .function) (hnames : (scope.names.all fun y => y.2 != .local || scope.names.lookup y.1 == some .local) = true) (hx : scope.names.lookup xn = some .local)
    (hs : ∀ x, foldedSetIterable iter env x = Pure.pure x)
    (q : ∀ T : Value → Shared → Prop, Imp (fun it s₂ => ∃ base oI tk₂ n fx P itP pz d, it = .ref base.objs.size ∧ s₂ = Sh c (base.push oI) tk₂ ∧ It w A base.objs.size fx n P itP ∧ itP 0 oI ∧ oI.isFreed = false ∧ (∀ p ∈ fx, base.get? p.1 = some p.2) ∧ n < 100000 ∧
      St w env h₀ vs ns rs base ∧ CompT w A c env scope cl xn elt ifs base n P pz d ∧
      (∀ D' h' tk' ys m, St w env h₀ vs ((D', LO ys m) :: ns) (ys.zip (((List.range n).filter pz).map d) ++ rs) h' → Ext base h' → base.get? D' = none → ys.length = ((List.range n).filter pz).length → Q (.ref D') (Sh c h' tk'))) T → wpAny (MM w) A (eval iter env) (fun xv s₁ => wpAny (MM w) A (pyIter xv) T E s₁) E (Sh c h tk)) :
    wpAny (MM w) A (eval (.ListComp elt [⟨.Name xn px, iter, ifs, 0⟩] scope pos) env) Q E (Sh c h tk) := by
  rw [eval_ListComp]
  have hcell' : ∀ y ∈ scope.names, y.2 ≠ .cell := fun y hy => by simpa using List.all_eq_true.mp hcell y hy
  have hnames' : ∀ y ∈ scope.names, y.2 = .local → scope.names.lookup y.1 = some .local := fun y hy e => by
    have := List.all_eq_true.mp hnames y hy
    rw [e] at this; simpa using this
  refine wpAny_comprehension_free (use := none) rfl hs hclos hkind hnames' (wpAny_mono (q _ (Imp.refl _)) (fun xv s₁ q₁ => wpAny_mono q₁ (fun it s₂ q₂ => ?_) fun _ _ x => x) fun _ _ x => x)
  obtain ⟨base, oI, tk₂, n, fx, P, itP, pz, d, rfl, rfl, W, ho, hfr, hfx, hn, st, turn, fin⟩ := q₂
  refine comp_block (RR := fun acc C => compPost (MM w) A E none Q acc C) W ho hfr hfx hn st.kph st.eg st.eb hcell' hkind hx turn ?_
  intro D' C h' tk' ys m hD hC hDC k hm hg hl hrep
  obtain ⟨mm, hmm⟩ := hm
  refine ⟨mm, hmm, fun h'' hs'' => ?_⟩
  have k'' : Ext base h'' := fun b o e => hs''.extBut b o (fun x => by rw [x, hC] at e; cases e) (k b o e)
  have tt : Tups h' h'' := tups_of hs'' (ns_noTup hmm)
  have st2 := st.adopt k'' hD ((hs''.2 D' hDC).trans hg)
  refine fin D' h'' tk' ys m { st2 with rep := fun r hr => ?_ } k'' hD hl
  rcases List.mem_append.mp hr with hr | hr
  · exact (hrep r hr).mono tt
  · exact st2.rep r hr
theorem r_compAssign {xn y : Str} {px py : Pos} {elt iter : Expr} {ifs : List Expr} {scope : Scope} {cl : List (Str × Addr)} {pos spos : Pos} {Q : Flow → Shared → Prop} {hx0 : Heap} (_ : St w env h₀ vs ns rs hx0)
    (hsw : swapsWith (.ListComp elt [⟨.Name xn px, iter, ifs, 0⟩] scope pos) (some (.Name y py)) spos.line env = Pure.pure true)
    (hclos : closureFor scope env = Pure.pure cl) (hcell : (scope.names.all fun y => y.2 != .cell) = true) (hkind : scope.kind = .function) (hnames : (scope.names.all fun y => y.2 != .local || scope.names.lookup y.1 == some .local) = true) (hx : scope.names.lookup xn = some .local)
    (hy : env.kindOf y = some .local) (hs : ∀ x, foldedSetIterable iter env x = Pure.pure x)
    (q : ∀ T : Value → Shared → Prop, Imp (fun it s₂ => ∃ base oI tk₂ n fx P itP pz d, it = .ref base.objs.size ∧ s₂ = Sh c (base.push oI) tk₂ ∧ It w A base.objs.size fx n P itP ∧ itP 0 oI ∧ oI.isFreed = false ∧ (∀ p ∈ fx, base.get? p.1 = some p.2) ∧ n < 100000 ∧
      St w env h₀ vs ns rs base ∧ CompT w A c env scope cl xn elt ifs base n P pz d ∧ 
      (∀ (D' : Addr) (h' : Heap) (ys : List Value) (m : Nat), St w env h₀ vs ((D', LO ys m) :: ns) (ys.zip (((List.range n).filter pz).map d) ++ rs) h' → ys.length = ((List.range n).filter pz).length →
        ∃ vs', PutN y (.ref D') vs vs' ∧ ∀ h'' tk'', St w env h₀ vs' ((D', LO ys m) :: ns) (ys.zip (((List.range n).filter pz).map d) ++ rs) h'' → Q .next (Sh c h'' tk''))) T → wpAny (MM w) A (eval iter env) (fun xv s₁ => wpAny (MM w) A (pyIter xv) T E s₁) E (Sh c h tk)) :
    wpAny (MM w) A (exec (.Assign [.Name y py] (.ListComp elt [⟨.Name xn px, iter, ifs, 0⟩] scope pos) spos) env) Q E (Sh c h tk) := by
  have hcell' : ∀ y ∈ scope.names, y.2 ≠ .cell := fun y hy => by simpa using List.all_eq_true.mp hcell y hy
  have hnames' : ∀ y ∈ scope.names, y.2 = .local → scope.names.lookup y.1 = some .local := fun y hy e => by
    have := List.all_eq_true.mp hnames y hy
    rw [e] at this; simpa using this
  rw [exec_Assign_Name_used _ _ _ _ hsw]
  refine wpAny_bind (wpAny_standAt (wpAny_bind ?_))
  show wpAny _ A (do let _ ← comprehension (.ListComp elt [⟨.Name xn px, iter, ifs, 0⟩] scope pos) scope env _ (newList []) false (eval iter env) (some (assign (.Name y py) env))) _ _ _
  refine wpAny_bind (wpAny_mono (wpAny_comprehension_free (use := some (assign (.Name y py) env)) (Q := fun _ s' => Q .next s') rfl hs hclos hkind hnames'
    (wpAny_mono (q _ (Imp.refl _)) (fun xv s₁ q₁ => wpAny_mono q₁ (fun it s₂ q₂ => ?_) fun _ _ x => x) fun _ _ x => x)) (fun _ s' hq => wpAny_pure (wpAny_pure hq)) fun _ _ e => e)
  obtain ⟨base, oI, tk₂, n, fx, P, itP, pz, d, rfl, rfl, W, ho, hfr, hfx, hn, st, turn, fin⟩ := q₂
  refine comp_block (RR := fun acc C => compPost (MM w) A E (some (assign (.Name y py) env)) (fun _ s' => Q .next s') acc C) W ho hfr hfx hn st.kph st.eg st.eb hcell' hkind hx turn ?_
  intro D' C h' tk' ys m hD hC hDC k hm hg hl hrep
  obtain ⟨mm, hmm⟩ := hm
  have st2 := st.adopt k hD hg
  have st3 : St w env h₀ vs ((D', LO ys m) :: ns) (ys.zip (((List.range n).filter pz).map d) ++ rs) h' := { st2 with rep := fun r hr => (List.mem_append.mp hr).elim (hrep r) (st2.rep r) }
  obtain ⟨vs', hput, fin'⟩ := fin D' h' ys m st3 hl
  have hLb : ∃ o, base.get? env.locals = some o := by
    obtain ⟨_, ⟨o, _, _, ho, _⟩, _⟩ := st.loc
    exact ⟨o, ho⟩
  obtain ⟨oL, hLb⟩ := hLb
  have hLC : env.locals ≠ C := fun e => by rw [e, hC] at hLb; cases hLb
  show wpAny _ A (assign (.Name y py) env (.ref D')) _ _ _
  refine wpAny_assign_Name ?_
  obtain ⟨m0, a0, b0⟩ := st3.loc
  refine wpAny_storeName_local (s := Sh c h' tk') hy a0 (fun h4 hn4 hs4 => ?_) (by rw [st.fk]; rfl)
  have st4 := st3.setLocal hput a0 b0 hn4 hs4
  have hnC : h4.Ns C mm := hmm.extBut hs4.extBut (Ne.symm hLC)
  refine ⟨mm, hnC, fun h5 hs5 => fin' h5 _ ?_⟩
  obtain ⟨m4, a4, b4⟩ := st4.loc
  have tt : Tups h4 h5 := tups_of hs5 (ns_noTup hnC)
  have offC : ∀ p ∈ ((D', LO ys m) :: ns), p.1 ≠ C := fun p hp => by
    rcases List.mem_cons.mp hp with rfl | hp
    · exact hDC
    · intro e
      have := (st.led p hp).1
      rw [e, hC] at this; cases this
  refine ⟨st4.kp, fun b o e => hs5.extBut b o (fun x => ?_) (st4.keep b o e), st4.fk, st4.eg, st4.eb, ⟨m4, a4.extBut hs5.extBut hLC, b4⟩, st4.nd, st4.old, fun p hp => ⟨hs5.extBut _ _ (offC p hp) (st4.led p hp).1, (st4.led p hp).2⟩, st4.dis, fun r hr => (st4.rep r hr).mono tt⟩
  have := st.keep b o e
  rw [x, hC] at this; cases this
end
end
section
noncomputable abbrev S (l : List Nat) : Str := ⟨l.toArray⟩
theorem S_len (l : List Nat) : (S l).length = l.length := by show l.toArray.size = _; simp
theorem S_append (a b : List Nat) : S a ++ S b = S (a ++ b) := by
  show (⟨a.toArray ++ b.toArray⟩ : Str) = _
  simp
theorem S_cps (l : List Nat) : (S l).cps.toList = l := by simp
theorem S_eq (x : Str) : x = S x.cps.toList := by cases x; simp
theorem sliceRange1 (i j : Nat) : sliceRange (i : Int) (j : Int) 1 = (List.range (j - i)).map (i + ·) := by
  unfold sliceRange
  rw [if_pos (by decide)]
  have e : (if (i : Int) < (j : Int) then ((j : Int) - i + 1 - 1) / 1 else 0).toNat = j - i := by
    split <;> simp <;> (first | lia | omega)
  simp only [e]
  refine List.map_congr_left fun k _ => ?_
  (first | lia | omega)
theorem range_drop (l : List Nat) (i j : Nat) (h : j ≤ l.length) : ((List.range (j - i)).map (i + ·)).filterMap (fun k => l.toArray[k]?) = (l.drop i).take (j - i) := by
  have key : ∀ n, i + n ≤ l.length → ((List.range n).map (i + ·)).filterMap (fun k => l.toArray[k]?) = (l.drop i).take n := by
    intro n
    induction n with
    | zero => intro _; simp
    | succ n ih =>
      intro hn
      have e : l[i + n]? = some l[i + n] := List.getElem?_eq_getElem (by (first | lia | omega))
      rw [List.range_succ, List.map_append, List.filterMap_append, ih (by (first | lia | omega)), List.take_add_one]
      simp [List.getElem?_drop, e]
  rcases Nat.le_total i j with hij | hij
  · exact key _ (by (first | lia | omega))
  · rw [Nat.sub_eq_zero_of_le hij]; simp
theorem slice_SS (l : List Nat) (i j : Nat) (hij : i ≤ j) (hj : j ≤ l.length) : Txt.slice (S l) (some (i : Int)) (some (j : Int)) = S ((l.drop i).take (j - i)) := by
  unfold Txt.slice Builtin.Str.strSliceIndices
  have h1 : ¬ (i : Int) < 0 := by (first | lia | omega)
  have h2 : ¬ (j : Int) < 0 := by (first | lia | omega)
  have hl : (S l).length = l.length := S_len l
  simp only [hl, if_neg h1, if_neg h2, show (1 : Int) > 0 by decide, if_true]
  have e1 : max 0 (min (i : Int) (l.length : Int)) = (i : Int) := by (first | lia | omega)
  have e2 : max 0 (min (j : Int) (l.length : Int)) = (j : Int) := by (first | lia | omega)
  rw [e1, e2, sliceRange1]
  have e3 := range_drop l i j hj
  split
  · rename_i hc
    have hc' : ((List.range (j - i)).map (i + ·)).length = l.length := by simpa using hc
    simp only [List.length_map, List.length_range] at hc'
    have : i = 0 ∧ j = l.length := by (first | lia | omega)
    rw [this.1, this.2]; simp
  · rw [e3]
noncomputable def allO (h : Heap) (L : Addr) : List (Addr × Obj) := ((List.range h.objs.size).filterMap fun a => (h.get? a).map (a, ·)).filter fun p => p.1 != L
theorem allO_mem {h : Heap} {L : Addr} {p : Addr × Obj} : p ∈ allO h L ↔ h.get? p.1 = some p.2 ∧ p.1 ≠ L := by
  unfold allO
  rw [List.mem_filter, List.mem_filterMap]
  constructor
  · rintro ⟨⟨a, _, e⟩, hn⟩
    obtain ⟨o, ho, rfl⟩ := Option.map_eq_some_iff.mp e
    exact ⟨ho, by simpa using hn⟩
  · rintro ⟨e, hn⟩
    exact ⟨⟨p.1, List.mem_range.mpr (Heap.lt_size e), by rw [e]; rfl⟩, by simpa using hn⟩
noncomputable def hE : Heap := { objs := #[] }
theorem hE_get (a : Addr) : hE.get? a = none := rfl
section
variable {w : World} {env : Env} {h₀ h h' : Heap} {vs : List (Str × Value)} {ns : List (Addr × Obj)} {rs : List (Value × D)} {A : Around} {E : Value → Shared → Prop} {c : Shared} {tk : Nat}
theorem St.fr (st : St w env h₀ vs ns rs h) : ∃ m, (∀ p ∈ vs, m p.1 = some p.2) ∧ Fr hE env.locals h m ∧ News hE env.locals h (allO h env.locals) :=
  let ⟨m, a, b⟩ := st.loc
  ⟨m, b, ⟨a, fun b o e => (by rw [hE_get] at e; cases e), Nat.zero_le _⟩, fun p hp => ⟨(allO_mem.mp hp).1, (allO_mem.mp hp).2, rfl⟩⟩
theorem St.but (st : St w env h₀ vs ns rs h) {m : Str → Option Value} (hb : ∀ p ∈ vs, m p.1 = some p.2) (hn : h'.Ns env.locals m) (hx : Heap.ExtBut env.locals h h') : St w env h₀ vs ns rs h' := by
  obtain ⟨m0, a0, _⟩ := st.loc
  refine ⟨st.kp, fun b o e => hx b o (fun x => by rw [x, st.old] at e; cases e) (st.keep b o e), st.fk, st.eg, st.eb, ⟨m, hn, hb⟩, st.nd, st.old, fun p hp => ⟨hx _ _ (fun x => (List.nodup_cons.mp st.dis).1 (x ▸ List.mem_map_of_mem hp)) (st.led p hp).1, (st.led p hp).2⟩, st.dis, fun r hr => (st.rep r hr).mono fun a items x => ?_⟩
  obtain ⟨o, ho, y⟩ := x
  refine ⟨o, hx _ _ (fun e => ?_) ho, y⟩
  rw [e] at ho
  exact ns_noTup a0 items ⟨o, ho, y⟩
theorem News.but {L : Addr} {X : List (Addr × Obj)} (N : News hE L h' (X ++ allO h L)) : Heap.ExtBut L h h' := fun b o hb e => (N (b, o) (List.mem_append_right _ (allO_mem.mpr ⟨e, hb⟩))).1
theorem St.ofFr (st : St w env h₀ vs ns rs h) {m : Str → Option Value} (hb : ∀ p ∈ vs, m p.1 = some p.2) (F : Fr hE env.locals h' m) (N : News hE env.locals h' (allO h env.locals)) : St w env h₀ vs ns rs h' :=
  st.but hb F.ns (News.but (X := []) N)
theorem St.ofFr1 (st : St w env h₀ vs ns rs h) {m : Str → Option Value} {a : Addr} {o : Obj} (hb : ∀ p ∈ vs, m p.1 = some p.2) (F : Fr hE env.locals h' m) (N : News hE env.locals h' ((a, o) :: allO h env.locals)) (hn : h.get? a = none) :
    St w env h₀ vs ((a, o) :: ns) rs h' := by
  have st' := st.but hb F.ns (News.but (X := [(a, o)]) N)
  have h0 : h₀.get? a = none := by
    cases e : h₀.get? a with
    | none => rfl
    | some o' => rw [st.keep _ _ e] at hn; cases hn
  have ha := N (a, o) (.head _)
  have d := List.nodup_cons.mp st.dis
  refine { st' with led := fun p hp => ?_, dis := ?_ }
  · rcases List.mem_cons.mp hp with rfl | hp
    · exact ⟨ha.1, h0⟩
    · exact st'.led p hp
  · refine List.nodup_cons.mpr ⟨fun hm => ?_, List.nodup_cons.mpr ⟨fun hm => ?_, d.2⟩⟩
    · rcases List.mem_cons.mp hm with e | hm
      · exact ha.2.1 e.symm
      · exact d.1 hm
    · obtain ⟨p, hp, e⟩ := List.mem_map.mp hm
      have := (st.led p hp).1
      rw [e, hn] at this; cases this
theorem new_of (h1 : ∀ q ∈ allO h env.locals, q.1 < a) (hne : a ≠ env.locals) : h.get? a = none := by
  cases e : h.get? a with
  | none => rfl
  | some o => exact absurd (h1 (a, o) (allO_mem.mpr ⟨e, hne⟩)) (Nat.lt_irrefl _)
end
section
variable {w : World} {env : Env} {h₀ h : Heap} {vs : List (Str × Value)} {ns : List (Addr × Obj)} {rs : List (Value × D)} {A : Around} {E : Value → Shared → Prop} {c : Shared} {tk : Nat} {x y : Str} {t u : Tok}
noncomputable abbrev TkS (c : Shared) (h : Heap) (Q : Value → Shared → Prop) (x : Str) : Prop := ∀ t tk', Q (.str x t) (Sh c h tk')
theorem x_ord {ch : Nat} {Q : Value → Shared → Prop} (q : Q (.int (ch : Int) tk) (Sh c h (tk + 1))) : wpAny (MM w) A (call (.builtin "ord") [.str ⟨#[ch]⟩ t] []) Q E (Sh c h tk) := PySem.P.ord_of_char q
theorem r_chr {i : Int} {Q : Value → Shared → Prop} (h0 : 0 ≤ i) (h1 : i ≤ 1114111) (q : TkS c h Q ⟨#[i.toNat]⟩) : wpAny (MM w) A (call (.builtin "chr") [.int i t] []) Q E (Sh c h tk) := PyProof.Rows.chr_of_range h0 h1 (q _ _)
theorem r_lenS {Q : Value → Shared → Prop} (hx : x.length < 100000) (q : TkV c h Q (x.length : Int)) : wpAny (MM w) A (call (.builtin "len") [.str x t] []) Q E (Sh c h tk) := PyProof.Rows.len_str (by (first | lia | omega)) (q _ _)
theorem r_abs {a : Int} {Q : Value → Shared → Prop} (q : TkV c h Q (if a < 0 then -a else a)) : wpAny (MM w) A (call (.builtin "abs") [.int a t] []) Q E (Sh c h tk) := PyProof.Rows.call_abs_int fun _ _ => q _ _
theorem r_geS {Q : Value → Shared → Prop} (q : Q (.bool !decide (x.cps.toList < y.cps.toList)) (Sh c h tk)) : wpAny (MM w) A (compareOp .GtE (.str x t) (.str y u)) Q E (Sh c h tk) := PySem.P.ge_str q
theorem r_addS {Q : Value → Shared → Prop} (hl : x.length + y.length < 1000000) (q : TkS c h Q (x ++ y)) : wpAny (MM w) A (binaryOp .Add (.str x t) (.str y u)) Q E (Sh c h tk) := SB.add (fun _ _ => q _ _) (by rw [sizeLine_eq]; (first | lia | omega))
theorem r_iaddS {Q : Value → Shared → Prop} (hl : x.length + y.length < 1000000) (q : TkS c h Q (x ++ y)) : wpAny (MM w) A (inplaceOp .Add (.str x t) (.str y u)) Q E (Sh c h tk) := SB.iadd (fun _ _ => q _ _) (by rw [sizeLine_eq]; (first | lia | omega))
theorem r_itemS {value slice : Expr} {i : Int} {Q : Value → Shared → Prop} (h0 : 0 ≤ i) (h1 : i < (x.length : Int)) (h2 : x.length < 100000)
    (hs : subscripted slice false (.str x t) (.int i u) = operate [.str x t, .int i u] (getItem (.str x t) (.int i u))) (hg : ∀ r, letTemporaryGo value (.str x t) r = Pure.pure ())
    (q : TkS c h Q ⟨#[x.cps.toList.getD i.toNat 0]⟩) : wpAny (MM w) A (subscriptTail value slice (.str x t) (.int i u)) Q E (Sh c h tk) := by
  refine PySem.W.KXi.item (n := x.length) rfl (by (first | lia | omega)) h1 (by (first | lia | omega)) (fun _ => ?_) hs hg
  have e : Txt.item x i = ⟨#[x.cps.toList.getD i.toNat 0]⟩ := by
    rw [item_meets ⟨h0, h1⟩]
    simp [Array.getD_eq_getD_getElem?, List.getD_eq_getElem?_getD]
  rw [e]
  exact q _ _
structure IfE (w : World) (A : Around) (env : Env) (body orelse : Expr) (Q : Value → Shared → Prop) (E : Value → Shared → Prop) (b : Bool) (s : Shared) : Prop where
  yes : b = true → wpAny (MM w) A (eval body env) Q E s
  no : b = false → wpAny (MM w) A (eval orelse env) Q E s
theorem r_ifexp {test body orelse : Expr} {pos : Pos} {Q : Value → Shared → Prop} (q : wpAny (MM w) A (PySem.isTrue test env (eval test env)) (IfE w A env body orelse Q E) E (Sh c h tk)) :
    wpAny (MM w) A (eval (.IfExp test body orelse pos) env) Q E (Sh c h tk) := wpAny_IfExp (wpAny_mono q (fun b s x => by cases b; simpa using x.no rfl; simpa using x.yes rfl) fun _ _ x => x)
inductive ListQ (w : World) (c : Shared) (Q : Value → Shared → Prop) (us : List Value) (s₁ : Shared) : Prop
  | mk (env' : Env) (h₀ : Heap) (vs : List (Str × Value)) (ns : List (Addr × Obj)) (rs : List (Value × D)) (h₁ : Heap) (tk₁ : Nat) (e : s₁ = Sh c h₁ tk₁) (hl : us.length < 100000) (st : St w env' h₀ vs ns rs h₁) (k : ∀ h₂ a, St w env' h₀ vs ((a, LO us 0) :: ns) rs h₂ → Ext h₁ h₂ → Q (.ref a) (Sh c h₂ tk₁)) : ListQ w c Q us s₁
inductive TupQ (c : Shared) (Q : Value → Shared → Prop) (us : List Value) (s₁ : Shared) : Prop
  | mk (h₁ : Heap) (tk₁ : Nat) (e : s₁ = Sh c h₁ tk₁) (hl : us.length < 100000) (k : ∀ h₂ a, Ext h₁ h₂ → IsTup h₂ a us.toArray → Q (.ref a) (Sh c h₂ tk₁)) : TupQ c Q us s₁
theorem r_list {elts : List Expr} {pos : Pos} {Q : Value → Shared → Prop} (hp : elts.all notStar = true)
    (q : wArgs w A env E elts (ListQ w c Q) (Sh c h tk)) :
    wpAny (MM w) A (eval (.List elts pos) env) Q E (Sh c h tk) := by
  refine wpAny_List ?_
  rw [starEach_eq hp]
  refine wpAny_mono (spliced_of q) (fun us s₁ h₁ => ?_) fun _ _ x => x
  obtain ⟨env', h₀, vs, ns, rs, h₁, tk₁, rfl, hl, st, q⟩ := h₁
  exact ⟨by rw [sizeLine_eq]; (first | lia | omega), q _ _ (st.alloc (o := LO us 0) rfl) fun b o e => Heap.get?_push_of_some _ e⟩
theorem r_tupleS {elts : List Expr} {k : Nat} {pos : Pos} {Q : Value → Shared → Prop} (hp : elts.all notStar = true)
    (q : wArgs w A env E elts (TupQ c Q) (Sh c h tk)) :
    wpAny (MM w) A (eval (.Tuple elts k pos) env) Q E (Sh c h tk) := by
  refine wpAny_Tuple ?_
  rw [starEach_eq hp]
  refine wpAny_mono (spliced_of q) (fun us s₁ h₁ => ?_) fun _ _ x => x
  obtain ⟨h₁, tk₁, rfl, hl, q⟩ := h₁
  exact ⟨by rw [sizeLine_eq]; (first | lia | omega), q _ _ (fun b o e => Heap.get?_push_of_some _ e) (isTup_push _ _)⟩
theorem r_itemT {value slice : Expr} {a : Addr} {items : List Value} {k : Nat} {v : Value} {Q : Value → Shared → Prop} (hT : IsTup h a items.toArray) (hk : items[k]? = some v) (hsz : items.length < 100000)
    (hs : subscripted slice false (.ref a) (.int (k : Int) u) = operate [.ref a, .int (k : Int) u] (getItem (.ref a) (.int (k : Int) u))) (hg : ∀ r, letTemporaryGo value (.ref a) r = Pure.pure ())
    (q : Q v (Sh c h tk)) : wpAny (MM w) A (subscriptTail value slice (.ref a) (.int (k : Int) u)) Q E (Sh c h tk) := by
  have hlt : k < items.length := by
    rcases Nat.lt_or_ge k items.length with h | h
    · exact h
    · rw [List.getElem?_eq_none h] at hk; cases hk
  have hn : ¬ (k : Int) < 0 := by (first | lia | omega)
  refine item_tupleL (j := k) hT (by (first | lia | omega)) (by (first | lia | omega)) ?_ hk q hs hg
  simp [seqIndex?, hn]; (first | lia | omega)
theorem r_sliceSS {value slice : Expr} {i j : Int} {ui uj : Tok} {Q : Value → Shared → Prop} (st : St w env h₀ vs ns rs h) (hl : x.length < 100000)
    (hs : subscripted slice false (.str x t) (.ref h.objs.size) = operate [.ref h.objs.size, .str x t] (getItem (.str x t) (.ref h.objs.size))) (hg : ∀ r, letTemporaryGo value (.str x t) r = Pure.pure ())
    (q : ∀ h' t' tk', St w env h₀ vs ns rs h' → Q (.str (Txt.slice x (some i) (some j)) t') (Sh c h' tk')) :
    wpAny (MM w) A (subscriptTail value slice (.str x t) (.ref h.objs.size)) Q E (Sh c (h.push { cls := .type "slice", data := .fields #[.int i ui, .int j uj, .none] }) tk) := by
  obtain ⟨m, hb, F, N⟩ := st.fr
  exact PyProof.Rows.slice_strN_ss (s := Sh c h tk) F N (fun h' t' k F' N' => q h' t' k (st.ofFr hb F' N')) hs hg (by rw [sizeLine_eq]; (first | lia | omega))
noncomputable abbrev XL2 (c : Shared) (Q : Value → Shared → Prop) (l u : Value) (s₂ : Shared) : Prop := ∃ h₂ tk₂, s₂ = Sh c h₂ tk₂ ∧ Q (.ref h₂.objs.size) (Sh c (h₂.push { cls := .type "slice", data := .fields #[l, u, .none] }) tk₂)
noncomputable abbrev XL1 (w : World) (A : Around) (E : Value → Shared → Prop) (env : Env) (c : Shared) (upper : Option Expr) (Q : Value → Shared → Prop) (l : Value) (s : Shared) : Prop := wpAny (MM w) A (evalPart upper env) (XL2 c Q l) E s
theorem r_slice {lower upper : Option Expr} {p : Pos} {Q : Value → Shared → Prop} (q : wpAny (MM w) A (evalPart lower env) (XL1 w A E env c upper Q) E (Sh c h tk)) :
    wpAny (MM w) A (eval (.Slice lower upper none p) env) Q E (Sh c h tk) := by
  refine wpAny_Slice (wpAny_mono q (fun l s₁ q₁ => wpAny_mono q₁ (fun u s₂ q₂ => ?_) fun _ _ x => x) fun _ _ x => x)
  obtain ⟨h₂, tk₂, rfl, q⟩ := q₂
  exact wpAny_pure q
end
end
section
section
variable {w : World} {env : Env} {h₀ h : Heap} {vs : List (Str × Value)} {ns : List (Addr × Obj)} {rs : List (Value × D)} {A : Around} {E : Value → Shared → Prop} {c : Shared} {tk : Nat}
theorem small_of {a b st : Int} (ha : a.natAbs < 100000) (hb : b.natAbs < 100000) (hc : st = 1 ∨ st = -1) : Builtin.Range.small a b st = true := by
  have a1 : -100000 ≤ a := by (first | lia | omega)
  have a2 : a ≤ 100000 := by (first | lia | omega)
  have b1 : -100000 ≤ b := by (first | lia | omega)
  have b2 : b ≤ 100000 := by (first | lia | omega)
  clear ha hb
  have hf : ∀ x : Int, -400000 ≤ x → x ≤ 400000 → Builtin.Range.rangeFitsLong x = true := fun x h1 h2 => by
    unfold Builtin.Range.rangeFitsLong
    rw [Bool.and_eq_true, decide_eq_true_eq, decide_eq_true_eq]
    exact ⟨Int.le_trans (by decide) h1, Int.lt_of_le_of_lt h2 (by decide)⟩
  have hs : 0 ≤ Builtin.Range.rangeSize a b st ∧ Builtin.Range.rangeSize a b st ≤ 300000 := by
    unfold Builtin.Range.rangeSize
    rcases hc with rfl | rfl
    · rw [if_pos (by decide), Int.ediv_one]; split <;> (first | lia | omega)
    · rw [if_neg (by decide), show (-(-1 : Int)) = 1 from rfl, Int.ediv_one]; split <;> (first | lia | omega)
  have h1 : -1 ≤ st ∧ st ≤ 1 := by rcases hc with rfl | rfl <;> decide
  have h2 : (if st > 0 then Builtin.Range.rangeFitsLong (b + (st - 1)) else Builtin.Range.rangeFitsLong (b + (st + 1))) = true := by
    split <;> exact hf _ (by (first | lia | omega)) (by (first | lia | omega))
  unfold Builtin.Range.small
  rw [hf a (by (first | lia | omega)) (by (first | lia | omega)), hf b (by (first | lia | omega)) (by (first | lia | omega)), hf st (by (first | lia | omega)) (by (first | lia | omega)), hf _ (by (first | lia | omega)) (by (first | lia | omega)), h2, Bool.or_true]; rfl
theorem size_up (a b : Nat) : Builtin.Range.rangeSize (a : Int) (b : Int) 1 = ((b - a : Nat) : Int) := by
  unfold Builtin.Range.rangeSize
  rw [if_pos (by decide)]
  split <;> (first | lia | omega)
theorem size_down (n : Nat) : Builtin.Range.rangeSize ((n : Int) - 1) (-1) (-1) = (n : Int) := by
  unfold Builtin.Range.rangeSize
  rw [if_neg (by decide), show (-(-1 : Int)) = 1 from rfl]
  split <;> (first | lia | omega)
theorem RIt_0 (a st : Int) (n : Nat) : RIt a (n : Int) st = RIt (a + ((0 : Nat) : Int) * st) ((n : Int) - ((0 : Nat) : Int)) st := by simp
theorem r_rng1 {n : Nat} {t : Tok} {Q : Value → Shared → Prop} (hn : n < 100000) (q : ∀ h₁ tk₁, Ext h h₁ → Q (.ref h₁.objs.size) (Sh c (h₁.push (RIt 0 (n : Int) 1)) tk₁)) :
    wpAny (MM w) A (call (.type "range") [.int (n : Int) t] []) (fun xv s₁ => wpAny (MM w) A (pyIter xv) Q E s₁) E (Sh c h tk) := by
  refine call_range_1 ?_
  have hs := small_of (a := 0) (b := (n : Int)) (st := 1) (by (first | lia | omega)) (by (first | lia | omega)) (.inl rfl)
  refine wpAny_pyIter_range (Heap.get?_push_size _ rfl) hs ?_
  have := size_up 0 n
  simp only [Int.ofNat_zero, Nat.sub_zero] at this
  rw [show Builtin.Range.rangeSize 0 (n : Int) 1 = (n : Int) from this]
  exact q _ _ fun b o e => Heap.get?_push_of_some _ e
theorem r_rngD {n : Nat} {x y z : Int} {t u v : Tok} {Q : Value → Shared → Prop} (hn : n < 100000) (hx : x = (n : Int) - 1) (hy : y = -1) (hz : z = -1) (q : ∀ h₁ tk₁, Ext h h₁ → Q (.ref h₁.objs.size) (Sh c (h₁.push (RIt ((n : Int) - 1) (n : Int) (-1))) tk₁)) :
    wpAny (MM w) A (call (.type "range") [.int x t, .int y u, .int z v] []) (fun xv s₁ => wpAny (MM w) A (pyIter xv) Q E s₁) E (Sh c h tk) := by
  subst hx hy hz
  refine PySem.call_range_3 (by decide) ?_ (.inl (PyProof.noPylong_small (by decide)))
  refine wpAny_pyIter_range (Heap.get?_push_size _ rfl) (small_of (by omega) (by omega) (.inr rfl)) ?_
  rw [size_down n]
  exact q _ _ fun b o e => Heap.get?_push_of_some _ e
theorem r_litNeg {i : Int} {k : Nat} {pos pos' : Pos} {Q : Value → Shared → Prop} (q : TkV c h Q (-i)) : wpAny (MM w) A (eval (.UnaryOp .USub (.Constant (.int i) k pos) pos') env) Q E (Sh c h tk) :=
  lit_neg Q fun v tk' hv => by
    have r := hv hE
    cases r
    exact q _ _
theorem r_itemS2 {value slice : Expr} {l : List Nat} {k ch : Nat} {t u : Tok} {Q : Value → Shared → Prop} (hk : l[k]? = some ch) (h2 : l.length < 100000)
    (hs : subscripted slice false (.str (S l) t) (.int (k : Int) u) = operate [.str (S l) t, .int (k : Int) u] (getItem (.str (S l) t) (.int (k : Int) u))) (hg : ∀ r, letTemporaryGo value (.str (S l) t) r = Pure.pure ())
    (q : TkS c h Q (S [ch])) : wpAny (MM w) A (subscriptTail value slice (.str (S l) t) (.int (k : Int) u)) Q E (Sh c h tk) := by
  have hlt : k < l.length := by
    rcases Nat.lt_or_ge k l.length with h | h
    · exact h
    · rw [List.getElem?_eq_none h] at hk; cases hk
  refine r_itemS (by (first | lia | omega)) (by rw [S_len]; (first | lia | omega)) (by rw [S_len]; exact h2) hs hg ?_
  have e : (S l).cps.toList.getD (k : Int).toNat 0 = ch := by
    rw [S_cps, Int.toNat_natCast, List.getD_eq_getElem?_getD, hk]; rfl
  rw [e]
  exact q
theorem r_any {value slice : Expr} {o i : Value} {Q : Value → Shared → Prop} (q : wpAny (MM w) A (subscriptTail (.Name (Str.ofString "_") ⟨0, 0, 0, 0⟩) slice o i) Q E (Sh c h tk)) : wpAny (MM w) A (subscriptTail value slice o i) Q E (Sh c h tk) :=
  PySem.W.kba_turn (fun _ => rfl) q
end
noncomputable def med (x : Int) : Int := if x < 1 then 1 else if x > 26 then 26 else x
theorem Tm_med (j b : Int) : Tm j b = med (36 * (j + 1) - b) := rfl
theorem med_of {x : Int} {l : List Int} (hp : l.Perm [1, 26, x]) (hs : List.Pairwise (· ≤ ·) l) : l[1]? = some (med x) := by
  have key : ∀ l2 : List Int, l2.Perm [1, 26, x] → List.Pairwise (· ≤ ·) l2 → l = l2 := fun l2 hp2 hs2 =>
    List.Perm.eq_of_pairwise (fun a b _ _ h1 h2 => Int.le_antisymm h1 h2) hs hs2 (hp.trans hp2.symm)
  unfold med
  split
  · rw [key [x, 1, 26] ?_ ?_]
    · rfl
    · exact (List.Perm.swap 1 x [26]).trans (.cons 1 (.swap 26 x []))
    · simp; (first | lia | omega)
  · split
    · rw [key [1, 26, x] (.refl _) (by simp; (first | lia | omega))]; rfl
    · rw [key [1, x, 26] (.cons 1 (.swap 26 x [])) (by simp; (first | lia | omega))]; rfl
end
section
noncomputable def fdInB1 : FuncData := { name := (@PySem.Str.ofString "in_table_b1"), qualname := (@PySem.Str.ofString "in_table_b1"), params := prmAt 12, body := .stmts (bdyAt 12), scope := scpAt 12, globals := 3, closure := [], defaults := @PySem.Value.none, kwdefaults := @PySem.Value.none, doc := @PySem.Value.none, pyModule := (@PySem.Value.str (@PySem.Str.ofString "cpy313.stringprep") 283), annotations := (@Option.none @Nat), code := (@PySem.Value.ref 88), closureTuple := @PySem.Value.none, builtins := 0 }
theorem okInB1 : FnOk 89 fdInB1 := ⟨fun P => ⟨oE_89 P, by kernel_rfl!, rfl⟩, fun P => ⟨88, oE_88 P, _, _, rfl, by kernel_rfl!, rfl, rfl⟩, by kernel_rfl!, by kernel_rfl!, by kernel_rfl!, rfl, rfl, rfl⟩
noncomputable def fdMapB3 : FuncData := { name := (@PySem.Str.ofString "map_table_b3"), qualname := (@PySem.Str.ofString "map_table_b3"), params := prmAt 14, body := .stmts (bdyAt 14), scope := scpAt 14, globals := 3, closure := [], defaults := @PySem.Value.none, kwdefaults := @PySem.Value.none, doc := @PySem.Value.none, pyModule := (@PySem.Value.str (@PySem.Str.ofString "cpy313.stringprep") 283), annotations := (@Option.none @Nat), code := (@PySem.Value.ref 134), closureTuple := @PySem.Value.none, builtins := 0 }
theorem okMapB3 : FnOk 135 fdMapB3 := ⟨fun P => ⟨oG_135 P, by kernel_rfl!, rfl⟩, fun P => ⟨134, oG_134 P, _, _, rfl, by kernel_rfl!, rfl, rfl⟩, by kernel_rfl!, by kernel_rfl!, by kernel_rfl!, rfl, rfl, rfl⟩
noncomputable def fdLetter : FuncData := { name := (@PySem.Str.ofString "_law_letter"), qualname := (@PySem.Str.ofString "_law_letter"), params := prmAt 16, body := .stmts (bdyAt 16), scope := scpAt 16, globals := 3, closure := [], defaults := @PySem.Value.none, kwdefaults := @PySem.Value.none, doc := @PySem.Value.none, pyModule := (@PySem.Value.str (@PySem.Str.ofString "law_wb0081_01") 2311), annotations := (@Option.none @Nat), code := (@PySem.Value.ref 141), closureTuple := @PySem.Value.none, builtins := 0 }
theorem okLetter : FnOk 142 fdLetter := ⟨fun P => ⟨oG_142 P, by kernel_rfl!, rfl⟩, fun P => ⟨141, oG_141 P, _, _, rfl, by kernel_rfl!, rfl, rfl⟩, by kernel_rfl!, by kernel_rfl!, by kernel_rfl!, rfl, rfl, rfl⟩
noncomputable def fdTyped : FuncData := { name := (@PySem.Str.ofString "_law_typed"), qualname := (@PySem.Str.ofString "_law_typed"), params := prmAt 17, body := .stmts (bdyAt 17), scope := scpAt 17, globals := 3, closure := [], defaults := @PySem.Value.none, kwdefaults := @PySem.Value.none, doc := @PySem.Value.none, pyModule := (@PySem.Value.str (@PySem.Str.ofString "law_wb0081_01") 2311), annotations := (@Option.none @Nat), code := (@PySem.Value.ref 148), closureTuple := @PySem.Value.none, builtins := 0 }
theorem okTyped : FnOk 149 fdTyped := ⟨fun P => ⟨oG_149 P, by kernel_rfl!, rfl⟩, fun P => ⟨148, oG_148 P, _, _, rfl, by kernel_rfl!, rfl, rfl⟩, by kernel_rfl!, by kernel_rfl!, by kernel_rfl!, rfl, rfl, rfl⟩
noncomputable def fdUnseen : FuncData := { name := (@PySem.Str.ofString "_law_unseen"), qualname := (@PySem.Str.ofString "_law_unseen"), params := prmAt 18, body := .stmts (bdyAt 18), scope := scpAt 18, globals := 3, closure := [], defaults := @PySem.Value.none, kwdefaults := @PySem.Value.none, doc := @PySem.Value.none, pyModule := (@PySem.Value.str (@PySem.Str.ofString "law_wb0081_01") 2311), annotations := (@Option.none @Nat), code := (@PySem.Value.ref 155), closureTuple := @PySem.Value.none, builtins := 0 }
theorem okUnseen : FnOk 156 fdUnseen := ⟨fun P => ⟨oG_156 P, by kernel_rfl!, rfl⟩, fun P => ⟨155, oG_155 P, _, _, rfl, by kernel_rfl!, rfl, rfl⟩, by kernel_rfl!, by kernel_rfl!, by kernel_rfl!, rfl, rfl, rfl⟩
noncomputable def fdPrep : FuncData := { name := (@PySem.Str.ofString "_law_prepared"), qualname := (@PySem.Str.ofString "_law_prepared"), params := prmAt 19, body := .stmts (bdyAt 19), scope := scpAt 19, globals := 3, closure := [], defaults := @PySem.Value.none, kwdefaults := @PySem.Value.none, doc := @PySem.Value.none, pyModule := (@PySem.Value.str (@PySem.Str.ofString "law_wb0081_01") 2311), annotations := (@Option.none @Nat), code := (@PySem.Value.ref 162), closureTuple := @PySem.Value.none, builtins := 0 }
theorem okPrep : FnOk 163 fdPrep := ⟨fun P => ⟨oG_163 P, by kernel_rfl!, rfl⟩, fun P => ⟨162, oG_162 P, _, _, rfl, by kernel_rfl!, rfl, rfl⟩, by kernel_rfl!, by kernel_rfl!, by kernel_rfl!, rfl, rfl, rfl⟩
noncomputable def fdNum : FuncData := { name := (@PySem.Str.ofString "_law_number"), qualname := (@PySem.Str.ofString "_law_number"), params := prmAt 20, body := .stmts (bdyAt 20), scope := scpAt 20, globals := 3, closure := [], defaults := @PySem.Value.none, kwdefaults := @PySem.Value.none, doc := @PySem.Value.none, pyModule := (@PySem.Value.str (@PySem.Str.ofString "law_wb0081_01") 2311), annotations := (@Option.none @Nat), code := (@PySem.Value.ref 169), closureTuple := @PySem.Value.none, builtins := 0 }
theorem okNum : FnOk 170 fdNum := ⟨fun P => ⟨oG_170 P, by kernel_rfl!, rfl⟩, fun P => ⟨169, oG_169 P, _, _, rfl, by kernel_rfl!, rfl, rfl⟩, by kernel_rfl!, by kernel_rfl!, by kernel_rfl!, rfl, rfl, rfl⟩
noncomputable def fdCount : FuncData := { name := (@PySem.Str.ofString "_law_counted"), qualname := (@PySem.Str.ofString "_law_counted"), params := prmAt 21, body := .stmts (bdyAt 21), scope := scpAt 21, globals := 3, closure := [], defaults := @PySem.Value.none, kwdefaults := @PySem.Value.none, doc := @PySem.Value.none, pyModule := (@PySem.Value.str (@PySem.Str.ofString "law_wb0081_01") 2311), annotations := (@Option.none @Nat), code := (@PySem.Value.ref 176), closureTuple := @PySem.Value.none, builtins := 0 }
theorem okCount : FnOk 177 fdCount := ⟨fun P => ⟨oG_177 P, by kernel_rfl!, rfl⟩, fun P => ⟨176, oG_176 P, _, _, rfl, by kernel_rfl!, rfl, rfl⟩, by kernel_rfl!, by kernel_rfl!, by kernel_rfl!, rfl, rfl, rfl⟩
noncomputable def fdRead : FuncData := { name := (@PySem.Str.ofString "_law_read"), qualname := (@PySem.Str.ofString "_law_read"), params := prmAt 22, body := .stmts (bdyAt 22), scope := scpAt 22, globals := 3, closure := [], defaults := @PySem.Value.none, kwdefaults := @PySem.Value.none, doc := @PySem.Value.none, pyModule := (@PySem.Value.str (@PySem.Str.ofString "law_wb0081_01") 2311), annotations := (@Option.none @Nat), code := (@PySem.Value.ref 181), closureTuple := @PySem.Value.none, builtins := 0 }
theorem okRead : FnOk 182 fdRead := ⟨fun P => ⟨oG_182 P, by kernel_rfl!, rfl⟩, fun P => ⟨181, oG_181 P, _, _, rfl, by kernel_rfl!, rfl, rfl⟩, by kernel_rfl!, by kernel_rfl!, by kernel_rfl!, rfl, rfl, rfl⟩
noncomputable def globM : List (Str × Value) := [("_law_letter", .ref 142), ("_law_typed", .ref 149), ("_law_unseen", .ref 156), ("_law_prepared", .ref 163), ("_law_number", .ref 170), ("_law_counted", .ref 177), ("_law_read", .ref 182)]
theorem globM_ok (P : Params) : ∀ p ∈ globM, nsFind (globE P) p.1 = some p.2 := by
  unfold globM
  refine List.forall_mem_cons.mpr ⟨by kernel_rfl!, ?_⟩
  refine List.forall_mem_cons.mpr ⟨by kernel_rfl!, ?_⟩
  refine List.forall_mem_cons.mpr ⟨by kernel_rfl!, ?_⟩
  refine List.forall_mem_cons.mpr ⟨by kernel_rfl!, ?_⟩
  refine List.forall_mem_cons.mpr ⟨by kernel_rfl!, ?_⟩
  refine List.forall_mem_cons.mpr ⟨by kernel_rfl!, ?_⟩
  refine List.forall_mem_cons.mpr ⟨by kernel_rfl!, ?_⟩
  exact fun _ h => nomatch h
section
variable {w : World} {env : Env} {h₀ h : Heap} {vs : List (Str × Value)} {ns : List (Addr × Obj)} {rs : List (Value × D)} {A : Around} {E : Value → Shared → Prop} {c : Shared} {tk : Nat} {x : Str} {v : Value}
theorem r_gnameM {Q : Value → Shared → Prop} {p : Pos} (st : St w env h₀ vs ns rs h) (hl : env.kindOf x = some .globalImplicit) (hm : (x, v) ∈ globM) (hd : (x == ("__debug__" : Str)) = false) (hq : Q v (Sh c h tk)) : wpAny (MM w) A (eval (.Name x p) env) Q E (Sh c h tk) :=
  r_glob st hl hh_glob (globM_ok _ _ hm) hd hq
end
end
section
section
variable {w : World} {env : Env} {h₀ h : Heap} {vs : List (Str × Value)} {ns : List (Addr × Obj)} {rs : List (Value × D)} {A : Around} {E : Value → Shared → Prop} {c : Shared} {tk : Nat}
theorem r_eqI {a b : Int} {t u : Tok} {Q : Value → Shared → Prop} (q : Q (.bool (a == b)) (Sh c h tk)) : wpAny (MM w) A (compareOp .Eq (.int a t) (.int b u)) Q E (Sh c h tk) := PySem.P.eq_int q
theorem r_append {l : Addr} {items : List Value} {n : Nat} {v : Value} {Q : Value → Shared → Prop} (hl : h.get? l = some (LO items n)) (hsz : items.length < 100000)
    (q : ∀ h' m, Heap.SameBut l h h' → h'.get? l = some (LO (items ++ [v]) m) → Q .none (Sh c h' tk)) : wpAny (MM w) A (call (.builtin "list.append") [.ref l, v] []) Q E (Sh c h tk) := by
  refine wpAny_list_append_plain (s := Sh c h tk) (items := items.toArray) ⟨n, hl⟩ (fun h' hp hs => ?_) (by rw [sizeLine_eq, List.size_toArray]; (first | lia | omega))
  obtain ⟨m, hg⟩ := hp
  rw [LO_push] at hg
  exact q h' m hs hg
theorem r_cmp1 {l r : Expr} {op : CmpOp} {p : Pos} {Q : Value → Shared → Prop} (hm : behindInMarks op r = false)
    (q : wpAny (MM w) A (eval l env) (XC1 w A E env r op Q) E (Sh c h tk)) :
    wpAny (MM w) A (eval (.Compare l [op] [r] p) env) Q E (Sh c h tk) := wpAny_Compare1 q hm
theorem r_partS {e : Expr} {Q : Value → Shared → Prop} (q : wpAny (MM w) A (eval e env) Q E (Sh c h tk)) : wpAny (MM w) A (evalPart (some e) env) Q E (Sh c h tk) := q
theorem r_partN {Q : Value → Shared → Prop} (q : Q .none (Sh c h tk)) : wpAny (MM w) A (evalPart none env) Q E (Sh c h tk) := wpAny_pure q
theorem r_bindName {x : Str} {v : Value} {Q : Unit → Shared → Prop} {s : Shared} (q : wpAny (MM w) A (storeName env x v) Q E s) : wpAny (MM w) A (bindName env x v) Q E s := fun Γ p hΓ => by
  rw [Sem.wp_bindName]; exact q Γ p hΓ
inductive UnpQ (w : World) (A : Around) (env : Env) (c : Shared) (x y : Str) (Q : Flow → Shared → Prop) (E : Value → Shared → Prop) (v : Value) (s₁ : Shared) : Prop
  | mk (a : Addr) (h₁ : Heap) (tk₁ : Nat) (v1 v2 : Value) (e1 : v = .ref a) (e2 : s₁ = Sh c h₁ tk₁) (ht : IsTup h₁ a #[v1, v2]) (k : ∀ h₂, Ext h₁ h₂ → wpAny (MM w) A (storeName env y v2) (fun _ s => wpAny (MM w) A (storeName env x v1) (fun _ => Q .next) E s) E (Sh c h₂ tk₁)) : UnpQ w A env c x y Q E v s₁
theorem r_unpackSw {x y : Str} {px py tp pos : Pos} {k : Nat} {value : Expr} {Q : Flow → Shared → Prop} (hA : A.handled = none)
    (h1 : swapsWithSole [.Tuple [.Name x px, .Name y py] k tp] value pos.line env = Pure.pure false) (h2 : swappedStores [.Tuple [.Name x px, .Name y py] k tp] value env = Pure.pure (some [x, y]))
    (q : wpAny (MM w) A (eval value env) (UnpQ w A env c x y Q E) E (Sh c h tk)) :
    wpAny (MM w) A (exec (.Assign [.Tuple [.Name x px, .Name y py] k tp] value pos) env) Q E (Sh c h tk) := by
  refine PyProof.Rows.Assign_Tuple_swapped (wpAny_mono q (fun v s₁ q₁ => ?_) fun _ _ x => x) h1 h2
  obtain ⟨a, h₁, tk₁, v1, v2, rfl, rfl, hT, q⟩ := q₁
  show wpAny (MM w) A (unpackItems (.ref a) 2 none) _ E (Sh c h₁ tk₁)
  have hu := fun {Q' : List Value → Shared → Prop} (hq : ∀ h', Heap.ExtBut h₁.objs.size h₁ h' → Q' [v1, v2] (Sh c h' tk₁)) => PyProof.Rows.unpackItems_tuple (prog := pE) (w := w) (E := E) (s := Sh c h₁ tk₁) (Q := Q') hA hT hq
  refine hu fun h' he => ?_
  have k' : Ext h₁ h' := fun b o e => he b o (Nat.ne_of_lt (Heap.lt_size e)) e
  show wpAny (MM w) A (assignInOrder [bindName env y, bindName env x] [v2, v1]) _ E _
  refine assignInOrder_cons (r_bindName (wpAny_mono (q h' k') (fun _ s q₂ => ?_) fun _ _ x => x))
  refine assignInOrder_cons (r_bindName (wpAny_mono q₂ (fun _ s q₃ => ?_) fun _ _ x => x))
  exact assignInOrder_nil q₃
end
end
local macro_rules | `(tactic| walk_at "M.e") => `(tactic| with_reducible first
  | ((first | refine' r_litNeg ?_ | refine' r_abs ?_); intro _ _)
  | refine' r_geS ?_ | refine' r_gtS ?_ | refine' r_ltS ?_ | refine' r_ifexp ?_
  | ((first | refine' r_list ?_ ?_ | refine' r_tupleS ?_ ?_); kernel_rfl!)
  | refine' x_ord ?_
  | fail)
section
section
variable {w : World} {env : Env} {h₀ h : Heap} {vs : List (Str × Value)} {ns : List (Addr × Obj)} {rs : List (Value × D)} {A : Around} {E : Value → Shared → Prop} {c : Shared} {tk : Nat}
theorem r_sortedI {l : Addr} {us : List Value} {zs : List Int} {Q : Value → Shared → Prop} (st : St w env h₀ vs ns rs h) (hl : h.IsList l us.toArray) (hi : IntsAre us zs) (hn : zs.length < 64)
    (q : ∀ D' ys zs' m h', St w env h₀ vs ((D', LO ys m) :: ns) rs h' → IntsAre ys zs' → zs'.Perm zs → List.Pairwise (· ≤ ·) zs' → Q (.ref D') (Sh c h' tk)) :
    wpAny (MM w) A (call (.builtin "sorted") [.ref l] []) Q E (Sh c h tk) := by
  obtain ⟨m, hb, F, N⟩ := st.fr
  refine PySem.W.kso_sorted (s := Sh c h tk) F N hl hi hn fun D' vs' ns' c' h' F' N' hlt hi' _ hp hs _ => ?_
  have hne : D' ≠ env.locals := (N' _ (.head _)).2.1
  exact q D' vs' ns' c' h' (st.ofFr1 hb F' N' (new_of hlt hne)) hi' hp hs
end
noncomputable def digv (ch : Nat) : Int := if 97 ≤ ch then (ch : Int) - 97 else (ch : Int) - 22
noncomputable def numF (b : Int) : List Nat → Nat → Int
  | [], _ => 0
  | ch :: r, j => digv ch + (36 - Tm (j : Int) b) * numF b r (j + 1)
theorem numF_nil {b : Int} {j : Nat} : numF b [] j = 0 := rfl
theorem numF_cons {b : Int} {ch : Nat} {r : List Nat} {j : Nat} : numF b (ch :: r) j = digv ch + (36 - Tm (j : Int) b) * numF b r (j + 1) := rfl
theorem a97 : (Str.ofString "a").cps.toList = [97] := by decide +kernel
theorem ltS_97 (ch : Nat) : decide ([ch] < ([97] : List Nat)) = decide (ch < 97) := by
  simp [List.cons_lt_cons_iff]
section
variable {w : World} {A : Around} {E : Value → Shared → Prop} {c : Shared} {h : Heap} {tk : Nat}
theorem num_call {l : List Nat} {b : Int} {t u : Tok} {n : Nat} {Q : Value → Shared → Prop} (kp : KeepR w h) (hrm : Rm (n + 2) A) (hA : A.handled = none) (hl : l.length < 100000)
    (q : ∀ h' tk' t, Ext h h' → Q (.int (numF b l 0) t) (Sh c h' tk')) : wpAny (MM w) A (call (.ref 170) [.str (S l) t, .int b u] []) Q E (Sh c h tk) := by
  refine enterN (body := bdyAt 20) (binds := [("stretch", .str (S l) t), ("bias", .int b u)]) okNum rfl kp (BindsTo.of_eq (by kernel_rfl!)) (by kernel_rfl!) (by kernel_rfl!) (by kernel_rfl!) hrm.lt ?_
  intro L h₁ tk₁ st
  have hA' : (A.deeper (callEnv fdNum L 170)).handled = none := hA
  refine r_cons ?_
  repeat' (walk_at "M.x")
  rename St w (callEnv fdNum L 170) h _ _ _ _ => st2
  refine r_for (h₀ := h) (X := Tok) (fun i tx => [("number", .int (numF b (l.drop (l.length - i)) (l.length - i)) tx), ("stretch", .str (S l) t), ("bias", .int b u)]) (fun _ _ => []) (fun _ _ => []) (fun _ _ => True) rfl (fun _ => rfl) ?_
  intro Tq iTq
  repeat' (walk_at "M.x")
  refine r_lenS (by rw [S_len]; exact hl) ?_
  intro t3 tk3
  rw [S_len]
  repeat' (walk_at "M.x")
  refine r_rngD hl rfl rfl rfl fun h4 tk4 k4 => ?_
  rename St w (callEnv fdNum L 170) h _ _ _ _ => st2
  have st4 := (st2.ext k4).alloc (o := RIt ((l.length : Int) - 1) (l.length : Int) (-1)) rfl
  refine iTq.use _ _ ⟨_, _, _, _, l.length, [], _, _, _, rfl, rfl, It.range hA' (a := (l.length : Int) - 1) (st := -1), RIt_0 _ _ _, by simpa [numF_nil] using st4, trivial, fun i x _ => rfl, (fun _ _ _ _ _ _ hp => nomatch hp), ?_, ?_⟩
  · rintro i v o h5 tk5 tx Q1 E1 hi ⟨t6, rfl⟩ - - st5 hQ1 - -
    obtain ⟨ag, hag, hag2⟩ : ∃ ag : Nat, (ag : Int) = (l.length : Int) - 1 + (i : Int) * -1 ∧ ag = l.length - (i + 1) := ⟨l.length - (i + 1), by (first | lia | omega), rfl⟩
    rw [← hag] at st5
    obtain ⟨ch, hch⟩ : ∃ ch, l[ag]? = some ch := ⟨_, List.getElem?_eq_getElem (by (first | lia | omega))⟩
    have e1 : l.length - i = ag + 1 := by (first | lia | omega)
    have e2 : l.length - (i + 1) = ag := by (first | lia | omega)
    rw [e1] at st5
    refine r_consM (I := fun s' => ∃ h' tk' td, s' = Sh c h' tk' ∧ St w (callEnv fdNum L 170) h [("digit", .int (digv ch) td), ("age", .int (ag : Int) t6), ("number", .int (numF b (l.drop (ag + 1)) (ag + 1)) tx), ("stretch", .str (S l) t), ("bias", .int b u)] [(h4.objs.size, o)] [] h') ?_ ?_
    · repeat' (walk_at "M.x")
      refine r_itemS2 hch hl (by kernel_rfl!) (fun _ => by kernel_rfl!) ?_
      intro t7 tk7
      repeat' (walk_at "M.x")
      refine ⟨fun h6 => ?_, fun h6 => ?_⟩
      · rw [a97] at h6
        have hge : 97 ≤ ch := by
          have : decide ([ch] < ([97] : List Nat)) = false := by simpa using h6
          rw [ltS_97] at this
          simpa using this
        repeat' (walk_at "M.x")
        refine r_itemS2 hch hl (by kernel_rfl!) (fun _ => by kernel_rfl!) ?_
        intro t8 tk8
        repeat' (walk_at "M.x")
        rw [show (ch : Int) - 97 = digv ch by unfold digv; rw [if_pos hge]] at *
        exact ⟨_, _, _, rfl, ‹_›⟩
      · rw [a97] at h6
        have hge : ¬ 97 ≤ ch := by
          have : decide ([ch] < ([97] : List Nat)) = true := by simpa using h6
          rw [ltS_97] at this
          simpa using this
        repeat' (walk_at "M.x")
        refine r_itemS2 hch hl (by kernel_rfl!) (fun _ => by kernel_rfl!) ?_
        intro t8 tk8
        repeat' (walk_at "M.x")
        rw [show (ch : Int) - 22 = digv ch by unfold digv; rw [if_neg hge]] at *
        exact ⟨_, _, _, rfl, ‹_›⟩
    · rintro s' ⟨h7, tk7, td, rfl, st7⟩
      repeat' (walk_at "M.x")
      refine ⟨_, _, _, _, _, _, _, rfl, by simp, st7, ?_⟩
      intro h8 a8 st8 k8
      repeat' (walk_at "M.x")
      refine r_sortedI st8 (lo_isList (st8.led _ (.head _)).1) (.cons _ _ (.cons _ _ (.cons _ _ .nil))) (by simp) fun D' ys zs m h9 st9 hi9 hp9 hs9 => ?_
      repeat' (walk_at "M.x")
      have hmed := med_of hp9 hs9
      obtain ⟨tm, hys⟩ : ∃ tm, ys[1]? = some (.int (med (36 * ((ag : Int) + 1) - b)) tm) := by
        cases hi9 with
        | nil => simp at hmed
        | cons n1 t1 r1 =>
          cases r1 with
          | nil => simp at hmed
          | cons n2 t2 r2 => simp at hmed; subst hmed; exact ⟨t2, rfl⟩
      have hlen : ys.length < 100000 := by
        have h1 := hp9.length_eq
        have h2 := IntsAre.length hi9
        simp only [List.length_cons, List.length_nil] at h1
        (first | lia | omega)
      refine r_any (r_itemL (n := 1) (lo_isList (st9.led _ (.head _)).1) rfl hys (by (first | lia | omega)) (by kernel_rfl!) (fun _ => by kernel_rfl!) ?_)
      have st10 := st9.sub (vs' := [("digit", .int (digv ch) td), ("age", .int (ag : Int) t6), ("number", .int (numF b (l.drop (ag + 1)) (ag + 1)) tx), ("stretch", .str (S l) t), ("bias", .int b u)]) (by walk_at "M.sub") (by kernel_rfl!)
      have hm1 : IntMulOk (36 - med (36 * ((ag : Int) + 1) - b)) (numF b (l.drop (ag + 1)) (ag + 1)) := mulOk_left (by
        have h1 := Tm_lo (ag : Int) b
        have h2 := Tm_hi (ag : Int) b
        rw [Tm_med] at h1 h2
        (first | lia | omega))
      repeat' (walk_at "M.x")
      rename St w (callEnv fdNum L 170) h _ _ _ _ => st11
      have hdr : l.drop ag = ch :: l.drop (ag + 1) := by
        rw [List.drop_eq_getElem_cons (by (first | lia | omega))]
        rw [List.getElem?_eq_getElem (by (first | lia | omega))] at hch
        rw [Option.some.inj hch]
      have hnum : digv ch + (36 - med (36 * ((ag : Int) + 1) - b)) * numF b (l.drop (ag + 1)) (ag + 1) = numF b (l.drop ag) ag := by rw [hdr]; rfl
      rw [hnum] at st11
      have st12 := st11.drop1.drop1
      have st13 := st12.sub (vs' := [("number", .int (numF b (l.drop ag) ag) _), ("stretch", .str (S l) t), ("bias", .int b u)]) (by walk_at "M.sub") (by kernel_rfl!)
      rw [← e2] at st13
      exact hQ1 _ _ _ trivial st13
  · intro tx h5 tk5 _ st5
    rw [Nat.sub_self] at st5
    refine Later.mk ?_
    repeat' (walk_at "M.x")
    exact q _ _ _ (St.keep ‹_›)
end
end
local macro_rules | `(tactic| walk_at "M.e") => `(tactic| with_reducible first
  | refine' r_eqI ?_ | refine' r_slice ?_ | refine' r_partS ?_ | refine' r_partN ?_
  | (refine' is_name ?_; apply r_gnameM; assumption; kernel_rfl!; unfold globM; walk_at "M.mem"; kernel_rfl!)
  | fail)
section
noncomputable def endsAt (b : Int) (ch k : Nat) : Bool := ch == 97 || (decide (97 < ch) && decide ((b + ((ch : Int) - 97)).fdiv 36 ≤ (k : Int)))
noncomputable def cntGo (b : Int) : List Nat → List Nat → Nat → List (Nat × Int)
  | [], _, _ => []
  | ch :: r, cur, place => if endsAt b ch cur.length then (place + 1, numF b (cur ++ [ch]) 0) :: cntGo b r [] (place + 1) else cntGo b r (cur ++ [ch]) (place + 1)
theorem cntGo_nil {b : Int} {cur : List Nat} {p : Nat} : cntGo b [] cur p = [] := rfl
theorem cntGo_cons {b : Int} {ch : Nat} {r cur : List Nat} {p : Nat} : cntGo b (ch :: r) cur p = if endsAt b ch cur.length then (p + 1, numF b (cur ++ [ch]) 0) :: cntGo b r [] (p + 1) else cntGo b r (cur ++ [ch]) (p + 1) := rfl
noncomputable def cntBody : List Stmt := match bdyAt 21 with | [_, .For _ _ [_, .If _ b _ _] _ _, _] => b | _ => []
noncomputable def dNum (p : Nat × Int) : D := .tup [.int p.1, .int p.2]
theorem Reps_of : ∀ {h : Heap} {vs : List Value} {ds : List D}, vs.length = ds.length → (∀ r ∈ vs.zip ds, Rep h r.1 r.2) → Reps h vs ds
  | _, [], [], _, _ => .nil
  | _, v :: vs, d :: ds, hl, hr => .cons (hr (v, d) (.head _)) (Reps_of (by simpa using hl) fun r hm => hr r (.tail _ hm))
section
variable {w : World} {A : Around} {E : Value → Shared → Prop} {c : Shared} {h : Heap} {tk : Nat}
theorem cnt_call {l : List Nat} {b : Int} {t u : Tok} {n : Nat} {Q : Value → Shared → Prop} (kp : KeepR w h) (hrm : Rm (n + 3) A) (hA : A.handled = none) (hl : l.length < 100000)
    (q : ∀ h' tk' a items m, Ext h h' → h.get? a = none → h'.get? a = some (LO items m) → Reps h' items ((cntGo b l [] 0).map dNum) → Q (.ref a) (Sh c h' tk')) : wpAny (MM w) A (call (.ref 177) [.str (S l) t, .int b u] []) Q E (Sh c h tk) := by
  refine enterN (body := bdyAt 21) (binds := [("text", .str (S l) t), ("bias", .int b u)]) okCount rfl kp (BindsTo.of_eq (by kernel_rfl!)) (by kernel_rfl!) (by kernel_rfl!) (by kernel_rfl!) hrm.lt ?_
  intro L h₁ tk₁ st
  have hA' : (A.deeper (callEnv fdCount L 177)).handled = none := hA
  have hrm' : Rm (n + 2) (A.deeper (callEnv fdCount L 177)) := hrm.deeper
  refine r_cons ?_
  refine r_unpackSw hA' (by kernel_rfl!) (by kernel_rfl!) ?_
  repeat' (walk_at "M.x")
  refine ⟨_, _, _, _, _, _, _, rfl, by simp, st, ?_⟩
  intro h2 ar st2 k2
  repeat' (walk_at "M.x")
  refine ⟨_, _, rfl, by simp, ?_⟩
  intro h3 a3 k3 hT3
  refine ⟨_, _, _, _, _, rfl, rfl, hT3, ?_⟩
  intro h4 k4
  have st4 := (st2.ext k3).ext k4
  repeat' (walk_at "M.x")
  rename St w (callEnv fdCount L 177) h (_ :: _ :: _) _ _ _ => st5
  refine r_for (h₀ := h) (X := Nat × Tok × List Value × Nat × List (Nat × Int)) (fun i x => [("row", .ref ar), ("begin", .int (x.1 : Int) x.2.1), ("text", .str (S l) t), ("bias", .int b u)]) (fun _ x => [(ar, LO x.2.2.1 x.2.2.2.1)]) (fun _ x => x.2.2.1.zip (x.2.2.2.2.map dNum))
    (fun i x => x.2.2.2.2 ++ cntGo b (l.drop i) ((l.drop x.1).take (i - x.1)) i = cntGo b l [] 0 ∧ x.1 ≤ i ∧ x.2.2.1.length = x.2.2.2.2.length ∧ x.2.2.2.2.length ≤ i) rfl (fun _ => rfl) ?_
  intro Tq iTq
  repeat' (walk_at "M.x")
  refine r_lenS (by rw [S_len]; exact hl) ?_
  intro t6 tk6
  rw [S_len]
  repeat' (walk_at "M.x")
  refine r_rng1 hl fun h7 tk7 k7 => ?_
  have st7 := (st5.ext k7).alloc (o := RIt 0 (l.length : Int) 1) rfl
  refine iTq.use _ _ ⟨_, _, _, _, l.length, [], _, _, (0, _, [], 0, []), rfl, rfl, It.range hA' (a := 0) (st := 1), RIt_0 _ _ _, st7, ⟨by simp, by simp, by simp, by simp⟩, fun i x _ => rfl, (fun _ _ _ _ _ _ hp => nomatch hp), ?_, ?_⟩
  · rintro i v o h8 tk8 ⟨bg, tb, items, m, ds⟩ Q1 E1 hi ⟨t9, rfl⟩ - ⟨f1, f2, f3, f4⟩ st8 hQ1 - -
    dsimp only at f1 f2 f3 f4 st8
    rw [show (0 : Int) + (i : Int) * 1 = (i : Int) by (first | lia | omega)] at st8
    obtain ⟨ch, hch⟩ : ∃ ch, l[i]? = some ch := ⟨_, List.getElem?_eq_getElem (by (first | lia | omega))⟩
    have hdr : l.drop i = ch :: l.drop (i + 1) := by
      rw [List.drop_eq_getElem_cons (by (first | lia | omega))]
      rw [List.getElem?_eq_getElem (by (first | lia | omega))] at hch
      rw [Option.some.inj hch]
    have hcur : ((l.drop bg).take (i - bg)).length = i - bg := by rw [List.length_take, List.length_drop]; (first | lia | omega)
    have hsnoc : (l.drop bg).take (i - bg) ++ [ch] = (l.drop bg).take (i + 1 - bg) := by
      rw [show i + 1 - bg = (i - bg) + 1 by (first | lia | omega), List.take_add_one, List.getElem?_drop, show bg + (i - bg) = i by (first | lia | omega), hch]; rfl
    rw [hdr, cntGo_cons, hcur, hsnoc] at f1
    refine r_consL ?_
    repeat' (walk_at "M.x")
    refine r_itemS2 hch hl (by kernel_rfl!) (fun _ => by kernel_rfl!) ?_
    intro t10 tk10
    repeat' (walk_at "M.x")
    refine Later.mk ?_
    rename St w (callEnv fdCount L 177) h (_ :: _) _ _ _ => st9
    refine r_consM (I := fun s' => ∃ h' tk', ∃ x' : Nat × Tok × List Value × Nat × List (Nat × Int), s' = Sh c h' tk' ∧ (x'.2.2.2.2 ++ cntGo b (l.drop (i + 1)) ((l.drop x'.1).take (i + 1 - x'.1)) (i + 1) = cntGo b l [] 0 ∧ x'.1 ≤ i + 1 ∧ x'.2.2.1.length = x'.2.2.2.2.length ∧ x'.2.2.2.2.length ≤ i + 1) ∧
      St w (callEnv fdCount L 177) h [("row", .ref ar), ("begin", .int (x'.1 : Int) x'.2.1), ("text", .str (S l) t), ("bias", .int b u)] [(h7.objs.size, o), (ar, LO x'.2.2.1 x'.2.2.2.1)] (x'.2.2.1.zip (x'.2.2.2.2.map dNum)) h') ?_ ?_
    · have hyes : ∀ tl h' tk' (Qf : Flow → Shared → Prop), endsAt b ch (i - bg) = true → St w (callEnv fdCount L 177) h [("letter", .int ((ch : Int) - 97) tl), ("place", .int (i : Int) t9), ("row", .ref ar), ("begin", .int (bg : Int) tb), ("text", .str (S l) t), ("bias", .int b u)] [(h7.objs.size, o), (ar, LO items m)] (items.zip (ds.map dNum)) h' →
          (∀ h' tk' (x' : Nat × Tok × List Value × Nat × List (Nat × Int)), (x'.2.2.2.2 ++ cntGo b (l.drop (i + 1)) ((l.drop x'.1).take (i + 1 - x'.1)) (i + 1) = cntGo b l [] 0 ∧ x'.1 ≤ i + 1 ∧ x'.2.2.1.length = x'.2.2.2.2.length ∧ x'.2.2.2.2.length ≤ i + 1) →
            St w (callEnv fdCount L 177) h [("row", .ref ar), ("begin", .int (x'.1 : Int) x'.2.1), ("text", .str (S l) t), ("bias", .int b u)] [(h7.objs.size, o), (ar, LO x'.2.2.1 x'.2.2.2.1)] (x'.2.2.1.zip (x'.2.2.2.2.map dNum)) h' → Qf .next (Sh c h' tk')) →
          wpAny (MM w) (A.deeper (callEnv fdCount L 177)) (execs cntBody (callEnv fdCount L 177)) Qf NoE (Sh c h' tk') := by
        intro tl h10 tk10 Qf he st10 hQf
        rw [he, if_pos rfl] at f1
        refine r_cons ?_
        refine r_expr (by kernel_rfl!) (by kernel_rfl!) (r_method (by kernel_rfl!) rfl ?_)
        repeat' (walk_at "M.x")
        refine r_gmL PySem.F.slot_list_append PySem.F.type_list_append (st10.led _ (.tail _ (.head _))).1 ?_
        repeat' (walk_at "M.x")
        refine ⟨_, _, rfl, ?_⟩
        rw [show (i : Int) + 1 = ((i + 1 : Nat) : Int) from rfl]
        refine r_sliceSS st10 (by rw [S_len]; exact hl) (by kernel_rfl!) (fun _ => by kernel_rfl!) ?_
        intro h11 t11 tk11 st11
        rw [slice_SS l bg (i + 1) (by (first | lia | omega)) (by (first | lia | omega))]
        repeat' (walk_at "M.x")
        refine can_f okNum (St.kph ‹_›) (num_call (n := n) (St.kph ‹_›) hrm' hA' (by rw [List.length_take]; (first | lia | omega)) ?_)
        intro h12 tk12 t12 k12
        have st12 := st11.ext k12
        repeat' (walk_at "M.x")
        refine ⟨_, _, rfl, by simp, ?_⟩
        intro h13 a13 k13 hT13
        have st13 := st12.ext k13
        repeat' (walk_at "M.x")
        refine r_append (st13.led _ (.tail _ (.head _))).1 (by (first | lia | omega)) fun h14 m14 hs14 hg14 => ?_
        have hrep : Rep h13 (.ref a13) (dNum (i + 1, numF b ((l.drop bg).take (i + 1 - bg)) 0)) := .tup hT13 (.cons (.int _ _) (.cons (.int _ _) .nil))
        have st14 := (st13.addRep hrep).write (.there .here) hs14 hg14 (noTup_of (st13.led _ (.tail _ (.head _))).1 (show Value.type "list" ≠ .type "tuple" by decide))
        repeat' (walk_at "M.x")
        rw [show (i : Int) + 1 = ((i + 1 : Nat) : Int) from rfl] at *
        rename St w (callEnv fdCount L 177) h _ _ _ _ => st15
        obtain ⟨tq, st16⟩ : ∃ tq, St w (callEnv fdCount L 177) h [("row", .ref ar), ("begin", .int ((i + 1 : Nat) : Int) tq), ("text", .str (S l) t), ("bias", .int b u)] [(h7.objs.size, o), (ar, LO (items ++ [.ref a13]) m14)] ((Value.ref a13, dNum (i + 1, numF b ((l.drop bg).take (i + 1 - bg)) 0)) :: items.zip (ds.map dNum)) _ :=
          ⟨_, st15.sub (by walk_at "M.sub") (by kernel_rfl!)⟩
        refine hQf _ _ (i + 1, tq, items ++ [.ref a13], m14, ds ++ [(i + 1, numF b ((l.drop bg).take (i + 1 - bg)) 0)]) ⟨?_, Nat.le_refl _, by simp [f3], by simp; (first | lia | omega)⟩ ?_
        · show (ds ++ [_]) ++ cntGo b (l.drop (i + 1)) ((l.drop (i + 1)).take (i + 1 - (i + 1))) (i + 1) = _
          rw [Nat.sub_self, List.take_zero, List.append_assoc]
          exact f1
        · refine st16.repSub fun r hr => ?_
          dsimp only at hr
          rw [List.map_append, List.zip_append (by rw [List.length_map]; exact f3)] at hr
          rcases List.mem_append.mp hr with hr | hr
          · exact .tail _ hr
          · rw [List.mem_singleton.mp hr]; exact .head _
      have hno : endsAt b ch (i - bg) = false → ∀ tl h' tk', St w (callEnv fdCount L 177) h [("letter", .int ((ch : Int) - 97) tl), ("place", .int (i : Int) t9), ("row", .ref ar), ("begin", .int (bg : Int) tb), ("text", .str (S l) t), ("bias", .int b u)] [(h7.objs.size, o), (ar, LO items m)] (items.zip (ds.map dNum)) h' →
          ∃ h'' tk'', ∃ x' : Nat × Tok × List Value × Nat × List (Nat × Int), Sh c h' tk' = Sh c h'' tk'' ∧ (x'.2.2.2.2 ++ cntGo b (l.drop (i + 1)) ((l.drop x'.1).take (i + 1 - x'.1)) (i + 1) = cntGo b l [] 0 ∧ x'.1 ≤ i + 1 ∧ x'.2.2.1.length = x'.2.2.2.2.length ∧ x'.2.2.2.2.length ≤ i + 1) ∧
            St w (callEnv fdCount L 177) h [("row", .ref ar), ("begin", .int (x'.1 : Int) x'.2.1), ("text", .str (S l) t), ("bias", .int b u)] [(h7.objs.size, o), (ar, LO x'.2.2.1 x'.2.2.2.1)] (x'.2.2.1.zip (x'.2.2.2.2.map dNum)) h'' := by
        intro he tl h' tk' st'
        rw [he] at f1
        exact ⟨h', tk', (bg, tb, items, m, ds), rfl, ⟨f1, by show bg ≤ i + 1; (first | lia | omega), f3, by show ds.length ≤ i + 1; (first | lia | omega)⟩, st'.sub (by walk_at "M.sub") (by kernel_rfl!)⟩
      repeat' (walk_at "M.x")
      refine ⟨fun h10 => ?_, fun h10 => ?_⟩
      · refine ⟨fun _ => ?_, fun h => absurd h (by decide)⟩
        have hz : ch = 97 := by have := eq_of_beq h10; (first | lia | omega)
        exact hyes _ _ _ _ (by unfold endsAt; simp [hz]) ‹_› fun h' tk' x' F' st' => ⟨h', tk', x', rfl, F', st'⟩
      · have hz : ch ≠ 97 := by
          intro e
          rw [e] at h10
          exact absurd h10 (by decide)
        repeat' (walk_at "M.x")
        refine ⟨fun h11 => ?_, fun h11 => ?_⟩
        · rw [decide_eq_true_eq] at h11
          repeat' (walk_at "M.x")
          refine ⟨fun h12 => ?_, fun h12 => ?_⟩
          · rw [decide_eq_true_eq] at h12
            repeat' (walk_at "M.x")
            refine ⟨fun _ => ⟨fun _ => ?_, fun h => absurd h (by decide)⟩, fun h => absurd h (by decide)⟩
            exact hyes _ _ _ _ (by unfold endsAt; rw [decide_eq_true (by (first | lia | omega)), decide_eq_true (by (first | lia | omega))]; simp) ‹_› fun h' tk' x' F' st' => ⟨h', tk', x', rfl, F', st'⟩
          · rw [decide_eq_false_iff_not] at h12
            refine ⟨fun h => absurd h (by decide), fun _ => ?_⟩
            repeat' (walk_at "M.x")
            refine ⟨fun h => absurd h (by decide), fun _ => r_nil ?_⟩
            exact hno (by unfold endsAt; rw [decide_eq_false (p := (b + ((ch : Int) - 97)).fdiv 36 ≤ ((i - bg : Nat) : Int)) (by (first | lia | omega))]; simp [hz]) _ _ _ ‹_›
        · rw [decide_eq_false_iff_not] at h11
          refine ⟨fun h => absurd h (by decide), fun _ => ?_⟩
          repeat' (walk_at "M.x")
          refine ⟨fun h => absurd h (by decide), fun _ => r_nil ?_⟩
          exact hno (by unfold endsAt; rw [decide_eq_false (p := 97 < ch) (by (first | lia | omega))]; simp [hz]) _ _ _ ‹_›
    · rintro s' ⟨h', tk', x', rfl, F', st'⟩
      exact r_nil (hQ1 x' _ _ F' st')
  · rintro ⟨bg, tb, items, m, ds⟩ h8 tk8 ⟨f1, f2, f3, f4⟩ st8
    dsimp only at f1 f2 f3 f4 st8
    rw [List.drop_of_length_le (Nat.le_refl _), cntGo_nil, List.append_nil] at f1
    refine Later.mk ?_
    repeat' (walk_at "M.x")
    subst f1
    exact q _ _ _ _ _ (St.keep ‹_›) (St.led ‹_› _ (.head _)).2 (St.led ‹_› _ (.head _)).1 (Reps_of (by rw [List.length_map]; exact f3) (St.rep ‹_›))
end
end
section
section
variable {w : World} {env : Env} {h₀ h : Heap} {vs : List (Str × Value)} {ns : List (Addr × Obj)} {rs : List (Value × D)} {A : Around} {E : Value → Shared → Prop} {c : Shared} {tk : Nat}
theorem r_isBF {b : Bool} {Q : Value → Shared → Prop} (q : Q (.bool (!b)) (Sh c h tk)) : wpAny (MM w) A (compareOp .Is (.bool b) (.bool false)) Q E (Sh c h tk) := by
  cases b <;> exact wpAny_pure q
theorem r_isNotBT {b : Bool} {Q : Value → Shared → Prop} (q : Q (.bool (!b)) (Sh c h tk)) : wpAny (MM w) A (compareOp .IsNot (.bool b) (.bool true)) Q E (Sh c h tk) := by
  cases b <;> exact wpAny_pure q
theorem r_isNotNN {Q : Value → Shared → Prop} (q : Q (.bool false) (Sh c h tk)) : wpAny (MM w) A (compareOp .IsNot .none .none) Q E (Sh c h tk) := wpAny_pure q
theorem r_isNotSN {x : Str} {t : Tok} {Q : Value → Shared → Prop} (q : Q (.bool true) (Sh c h tk)) : wpAny (MM w) A (compareOp .IsNot (.str x t) .none) Q E (Sh c h tk) := wpAny_pure q
theorem r_isNotIN {a : Int} {t : Tok} {Q : Value → Shared → Prop} (q : Q (.bool true) (Sh c h tk)) : wpAny (MM w) A (compareOp .IsNot (.int a t) .none) Q E (Sh c h tk) := wpAny_pure q
end
noncomputable def setEs (o : Obj) : Array (Int × Value) := match o.data with | .set es _ _ => es | _ => #[]
noncomputable def intOf (v : Value) : Int := match v with | .int i _ => i | _ => 0
noncomputable def b1V : List Int := [65024, 65025, 65026, 65027, 65028, 65029, 6150, 65030, 65031, 65032, 65033, 6155, 6156, 6157, 8203, 8204, 8205, 65034, 65035, 65036, 65037, 65038, 65039, 173, 847, 8288, 65279]
noncomputable def chkE (e : Int × Value) : Bool := match e.2 with | .int k _ => e.1 == k && hashInt k == k | _ => false
theorem b1_vals (P : Params) : (setEs (oD_79 P)).toList.map (fun e => intOf e.2) = b1V := by kernel_rfl!
theorem b1_chk (P : Params) : ((setEs (oD_79 P)).toList.all chkE) = true := by kernel_rfl!
noncomputable def chkKV : List DictEntry → List (Nat × Str) → Bool
  | [], [] => true
  | e :: E, p :: L => (match e.key, e.val with | .int k _, .str x _ => k == (p.1 : Int) && e.hash == k && hashInt k == k && x == p.2 | _, _ => false) && chkKV E L
  | _, _ => false
theorem chk_one {e : DictEntry} {p : Nat × Str} (h : (match e.key, e.val with | .int k _, .str x _ => k == (p.1 : Int) && e.hash == k && hashInt k == k && x == p.2 | _, _ => false) = true) :
    ∃ t u, e.key = .int (p.1 : Int) t ∧ e.val = .str p.2 u ∧ e.hash = hashInt (p.1 : Int) := by
  obtain ⟨hs, ek, ev⟩ := e
  cases ek with
  | int j t =>
    cases ev with
    | str x u =>
      have h1 : (j == (p.1 : Int) && hs == j && hashInt j == j && x == p.2) = true := h
      simp only [Bool.and_eq_true, beq_iff_eq] at h1
      obtain ⟨⟨⟨a1, a2⟩, a3⟩, a4⟩ := h1
      subst a1 a4
      exact ⟨t, u, rfl, rfl, a2.trans a3.symm⟩
    | _ => cases h
  | _ => cases h
theorem chk_cons {E : List DictEntry} {L : List (Nat × Str)} {e : DictEntry} (h : chkKV (e :: E) L = true) :
    ∃ p L' t u, L = p :: L' ∧ e.key = .int (p.1 : Int) t ∧ e.val = .str p.2 u ∧ e.hash = hashInt (p.1 : Int) ∧ chkKV E L' = true := by
  cases L with
  | nil => cases h
  | cons p L =>
    obtain ⟨h1, h2⟩ := Bool.and_eq_true_iff.mp h
    obtain ⟨t, u, a, b, d⟩ := chk_one h1
    exact ⟨p, L, t, u, rfl, a, b, d, h2⟩
theorem chk_find {k : Nat} {E : List DictEntry} {L : List (Nat × Str)} (h : chkKV E L = true) :
    (E.find? (fun e => Value.isInt (k : Int) e.key) = none ∧ L.find? (fun p => p.1 == k) = none) ∨ ∃ e x u, E.find? (fun e => Value.isInt (k : Int) e.key) = some e ∧ e.val = .str x u ∧ (L.find? (fun p => p.1 == k)).map (·.2) = some x := by
  induction E generalizing L with
  | nil => cases L with
    | nil => exact .inl ⟨rfl, rfl⟩
    | cons p L => cases h
  | cons e E ih =>
    obtain ⟨p, L, t, u, rfl, a, b, -, h2⟩ := chk_cons h
    have f : Value.isInt (k : Int) e.key = (p.1 == k) := by
      rw [a]
      by_cases hk : p.1 = k
      · rw [hk]; simp [Value.isInt]
      · rw [beq_eq_false_iff_ne.mpr hk]; simp only [Value.isInt, beq_eq_false_iff_ne]; (first | lia | omega)
    cases hk : (p.1 == k) with
    | true => exact .inr ⟨e, p.2, u, by rw [List.find?_cons, f, hk], b, by rw [List.find?_cons, hk]; rfl⟩
    | false => rw [List.find?_cons, f, hk, List.find?_cons, hk]; exact ih h2
theorem chk_keys {E : List DictEntry} {L : List (Nat × Str)} (h : chkKV E L = true) : ∀ e ∈ E, ∃ k, Value.isInt k e.key = true ∧ e.hash = hashInt k := by
  induction E generalizing L with
  | nil => exact fun _ he => nomatch he
  | cons e E ih =>
    obtain ⟨p, L, t, u, rfl, a, -, d, h2⟩ := chk_cons h
    intro f hf
    rcases List.mem_cons.mp hf with rfl | hf
    · exact ⟨(p.1 : Int), by rw [a]; simp [Value.isInt], d⟩
    · exact ih h2 f hf
theorem b3_chk : chkKV bigL b3L = true := by kernel_rfl!
theorem b1_size (P : Params) : (setEs (oD_79 P)).size = 27 := by kernel_rfl!
noncomputable def setTab (o : Obj) : SetTable := match o.data with | .set _ _ t => t | _ => .fresh 0 0 true
theorem b1_fits (P : Params) : (setTab (oD_79 P)).fits 27 = true := by kernel_rfl!
theorem too_long {n : Nat} (h : n < 100) : Builtin.Str.tooLong n = false := by
  unfold Builtin.Str.tooLong
  simp [sizeLine_eq]
  (first | lia | omega)
noncomputable def b3At (k : Nat) : Option Str := (b3L.find? (fun p => p.1 == k)).map (·.2)
noncomputable def mapB3 (ch : Nat) : Str := match b3At ch with | some r => r | none => Txt.lower (S [ch])
section
variable {w : World} {A : Around} {E : Value → Shared → Prop} {c : Shared} {h : Heap} {tk : Nat}
theorem r_inB1 {k : Int} {t : Tok} {Q : Value → Shared → Prop} (kp : KeepR w h) (q : ∀ tk', Q (.bool (b1V.contains k)) (Sh c h tk')) : wpAny (MM w) A (compareOp .In (.int k t) (.ref 79)) Q E (Sh c h tk) := by
  have hg : h.get? 79 = some (oD_79 w.params) := kp _ _ (by kernel_rfl!)
  refine wpAny_inSet_of (knd := intKind pE w) (k := k) (n := 27) (S := fun k => b1V.contains k) (by simp [intKind, Value.isInt]) rfl ?_ (q _)
  refine ⟨oD_79 w.params, setEs (oD_79 w.params), _, _, hg, ⟨rfl, rfl, rfl⟩, rfl, fun e he => ?_, fun k => ?_, ?_, ?_, ?_⟩
  · have := List.all_eq_true.mp (b1_chk w.params) e he
    obtain ⟨x, v⟩ := e
    unfold chkE at this
    cases v with
    | int k t =>
      simp only [Bool.and_eq_true, beq_iff_eq] at this
      exact ⟨⟨k, by simp [intKind, Value.isInt], by rw [this.1]; exact this.2.symm⟩, rfl⟩
    | _ => cases this
  · rw [List.contains_iff_mem, ← b1_vals w.params, List.mem_map]
    constructor
    · rintro ⟨e, he, hk⟩
      refine ⟨e, he, ?_⟩
      have := List.all_eq_true.mp (b1_chk w.params) e he
      obtain ⟨x, v⟩ := e
      unfold chkE at this
      cases v with
      | int j t => have hk : j = _ := hk; subst hk; simp [intKind, Value.isInt]
      | _ => cases this
    · rintro ⟨e, he, hk⟩
      refine ⟨e, he, ?_⟩
      obtain ⟨x, v⟩ := e
      cases v with
      | int j t => show j = _; simpa [intKind, Value.isInt] using hk
      | _ => simp [intKind, Value.isInt] at hk
  · rw [b1_size]; decide +kernel
  · rw [b1_size]; exact b1_fits w.params
  · exact b1_size w.params
theorem b3_map (kp : KeepR w h) : h.MapOf (intKind pE w) 90 (fun k => findBy Value.isInt bigL.toArray k) := by
  have hg : h.get? 90 = some (oF_90 w.params) := kp _ _ (by kernel_rfl!)
  refine ⟨oF_90 w.params, bigL.toArray, bigL.length, hg, ⟨rfl, rfl, rfl⟩, rfl, fun e he => ?_, fun k => rfl⟩
  exact chk_keys b3_chk e (by simpa using he)
theorem b3_find (k : Nat) : (b3At k = none ∧ findBy Value.isInt bigL.toArray (k : Int) = none) ∨ ∃ x u, b3At k = some x ∧ findBy Value.isInt bigL.toArray (k : Int) = some (.str x u) := by
  unfold findBy b3At
  rw [List.find?_toArray]
  rcases chk_find (k := k) b3_chk with ⟨a, b⟩ | ⟨e, x, u, a, b, d⟩
  · exact .inl ⟨by rw [b]; rfl, by rw [a]; rfl⟩
  · exact .inr ⟨x, u, d, by rw [a]; show some e.val = _; rw [b]⟩
theorem r_dget {k : Nat} {t : Tok} {Q : Value → Shared → Prop} (kp : KeepR w h) (q : ∀ tk', Q ((findBy Value.isInt bigL.toArray (k : Int)).getD .none) (Sh c h tk')) :
    wpAny (MM w) A (call (.builtin "dict.get") [.ref 90, .int (k : Int) t] []) Q E (Sh c h tk) := by
  have hm := b3_map kp
  refine call_meetsIn PySem.F.slot_dict_get (s := Sh c h tk) hm.typeIs PySem.F.entry_dict_get (PySem.F.args_dict_get_2 _ _) (meets_dict_get (intKind pE w) 90 (k := (k : Int)) (by simp [intKind, Value.isInt]) (by decide)) ⟨_, hm, ?_⟩
  exact q _
theorem r_gmD {pl : Sem Bool} {Q : Value × List Value → Shared → Prop} (kp : KeepR w h) (q : Q (.builtin "dict.get", [.ref 90]) (Sh c h tk)) : wpAny (MM w) A (getMethod (.ref 90) (Str.ofString "get") pl) Q E (Sh c h tk) :=
  getMethod_builtin (s := Sh c h tk) (b3_map kp).typeIs PySem.F.plainAttrs_dict PySem.F.slot_dict_get PySem.F.type_dict_get (b3_map kp).noDict q
theorem call_inB1 {ch : Nat} {t : Tok} {n : Nat} {Q : Value → Shared → Prop} (kp : KeepR w h) (hrm : Rm (n + 2) A)
    (q : ∀ h' tk', Ext h h' → Q (.bool (b1V.contains (ch : Int))) (Sh c h' tk')) : wpAny (MM w) A (call (.ref 89) [.str (S [ch]) t] []) Q E (Sh c h tk) := by
  refine enterN (body := bdyAt 12) (binds := [("code", .str (S [ch]) t)]) okInB1 rfl kp (BindsTo.of_eq (by kernel_rfl!)) (by kernel_rfl!) (by kernel_rfl!) (by kernel_rfl!) hrm.lt ?_
  intro L h₁ tk₁ st
  refine r_cons ?_
  repeat' (walk_at "M.x")
  refine r_cmp1 (by kernel_rfl!) ?_
  repeat' (walk_at "M.x")
  refine r_inB1 st.kph fun tk' => ?_
  exact q _ _ st.keep
theorem call_mapB3 {ch : Nat} {t : Tok} {n : Nat} {Q : Value → Shared → Prop} (kp : KeepR w h) (hrm : Rm (n + 2) A) (hlow : (Txt.lower (S [ch])).length < 100)
    (q : ∀ h' tk' t, Ext h h' → Q (.str (mapB3 ch) t) (Sh c h' tk')) : wpAny (MM w) A (call (.ref 135) [.str (S [ch]) t] []) Q E (Sh c h tk) := by
  refine enterN (body := bdyAt 14) (binds := [("code", .str (S [ch]) t)]) okMapB3 rfl kp (BindsTo.of_eq (by kernel_rfl!)) (by kernel_rfl!) (by kernel_rfl!) (by kernel_rfl!) hrm.lt ?_
  intro L h₁ tk₁ st
  refine r_cons ?_
  refine r_assign (by kernel_rfl!) (r_method (by kernel_rfl!) rfl ?_)
  repeat' (walk_at "M.x")
  refine r_gmD (St.kph ‹_›) ?_
  repeat' (walk_at "M.x")
  refine r_dget (St.kph ‹_›) fun tk5 => ?_
  unfold mapB3 at q
  rcases b3_find ch with ⟨e1, e2⟩ | ⟨x, u, e1, e2⟩
  · rw [e1] at q
    rw [e2]
    simp only [Option.getD_none]
    repeat' (walk_at "M.x")
    refine r_isNotNN ?_
    repeat' (walk_at "M.x")
    refine ⟨fun h => absurd h (by decide), fun _ => ?_⟩
    repeat' (walk_at "M.x")
    refine Later.mk ?_
    refine r_cons (r_ret (r_method (by kernel_rfl!) rfl ?_))
    repeat' (walk_at "M.x")
    refine GM.lower ?_
    repeat' (walk_at "M.x")
    refine PySem.W.KXw.lower rfl (too_long hlow) fun t' k => ?_
    exact q _ _ _ (St.keep ‹_›)
  · rw [e1] at q
    rw [e2]
    simp only [Option.getD_some]
    repeat' (walk_at "M.x")
    refine r_isNotSN ?_
    repeat' (walk_at "M.x")
    refine ⟨fun _ => ?_, fun h => absurd h (by decide)⟩
    repeat' (walk_at "M.x")
    exact q _ _ _ (St.keep ‹_›)
end
end
section
noncomputable def inB1 (ch : Nat) : Bool := b1V.contains (ch : Int)
noncomputable def prepF (l : List Nat) : List Nat := l.flatMap fun ch => if inB1 ch then [] else (mapB3 ch).cps.toList
noncomputable abbrev SIt (x : Str) (t : Tok) : Obj := { cls := .type (strIterType x), data := .fields #[.str x t, .int 0 0] }
section
variable {w : World} {A : Around} {E : Value → Shared → Prop} {c : Shared} {h : Heap} {tk : Nat}
theorem r_iterS {x : Str} {t : Tok} {Q : Value → Shared → Prop} (q : Q (.ref h.objs.size) (Sh c (h.push (SIt x t)) tk)) : wpAny (MM w) A (pyIter (.str x t)) Q E (Sh c h tk) := wpAny_pyIter_strU q
theorem It.strL (hA : A.handled = none) {I : Addr} {l : List Nat} {t : Tok} :
    It w A I [] l.length (fun i v => ∃ ch u, l[i]? = some ch ∧ v = .str (S [ch]) u) (fun i o => o.cls = .type (strIterType (S l)) ∧ o.data = .fields #[.str (S l) t, .int i 0]) := by
  have h := It.str (w := w) hA (I := I) (x := S l) (t := t)
  have e : (S l).cps.size = l.length := by simp
  rw [e] at h
  exact ⟨h.ntup, h.self, fun i s o Q E hi hp ho hf q => h.item i s o Q E hi hp ho hf fun v h' tk o' ⟨ch, u, hc, hv⟩ => q v h' tk o' ⟨ch, u, by simpa using hc, hv⟩, h.done⟩
theorem prep_len {l : List Nat} (h : ∀ ch ∈ l, (mapB3 ch).length < 100) : (prepF l).length ≤ 100 * l.length := by
  induction l with
  | nil => exact Nat.le_refl _
  | cons a r ih =>
    have h1 := ih fun ch hc => h ch (.tail _ hc)
    have h2 := h a (.head _)
    have h3 : (mapB3 a).cps.toList.length = (mapB3 a).length := by simp [Str.length]
    unfold prepF at h1 ⊢
    rw [List.flatMap_cons, List.length_append, List.length_cons]
    split
    · simp only [List.length_nil]; (first | lia | omega)
    · (first | lia | omega)
theorem prep_call {l : List Nat} {t : Tok} {n : Nat} {Q : Value → Shared → Prop} (kp : KeepR w h) (hrm : Rm (n + 3) A) (hA : A.handled = none) (hl : l.length < 1000) (hlow : ∀ ch ∈ l, (Txt.lower (S [ch])).length < 100 ∧ (mapB3 ch).length < 100)
    (q : ∀ h' tk' t, Ext h h' → Q (.str (S (prepF l)) t) (Sh c h' tk')) : wpAny (MM w) A (call (.ref 163) [.str (S l) t] []) Q E (Sh c h tk) := by
  refine enterN (body := bdyAt 19) (binds := [("text", .str (S l) t)]) okPrep rfl kp (BindsTo.of_eq (by kernel_rfl!)) (by kernel_rfl!) (by kernel_rfl!) (by kernel_rfl!) hrm.lt ?_
  intro L h₁ tk₁ st
  have hA' : (A.deeper (callEnv fdPrep L 163)).handled = none := hA
  have hrm' : Rm (n + 2) (A.deeper (callEnv fdPrep L 163)) := hrm.deeper
  refine r_cons ?_
  repeat' (walk_at "M.x")
  rename St w (callEnv fdPrep L 163) h (_ :: _) _ _ _ => st2
  refine r_for (h₀ := h) (X := Tok) (fun i tx => [("out", .str (S (prepF (l.take i))) tx), ("text", .str (S l) t)]) (fun _ _ => []) (fun _ _ => []) (fun _ _ => True) rfl (fun _ => rfl) ?_
  intro Tq iTq
  repeat' (walk_at "M.x")
  refine r_iterS ?_
  have st4 := st2.alloc (o := SIt (S l) t) rfl
  refine iTq.use _ _ ⟨_, _, _, _, l.length, [], _, _, _, rfl, rfl, It.strL hA', ⟨rfl, rfl⟩, st4, trivial, fun i x _ => rfl, (fun _ _ _ _ _ _ hp => nomatch hp), ?_, ?_⟩
  · rintro i v o h5 tk5 tx Q1 E1 hi ⟨ch, u, hch, rfl⟩ - - st5 hQ1 - -
    have hch' := hch
    have htk : l.take (i + 1) = l.take i ++ [ch] := by rw [List.take_add_one, hch']; rfl
    have hmem : ch ∈ l := List.mem_of_getElem? hch'
    obtain ⟨hl1, hl2⟩ := hlow ch hmem
    refine r_cons ?_
    repeat' (walk_at "M.x")
    refine can_f okInB1 (St.kph ‹_›) (call_inB1 (n := n) (St.kph ‹_›) hrm' ?_)
    intro h6 tk6 k6
    have st6 := st5.ext k6
    repeat' (walk_at "M.x")
    refine r_isBF ?_
    repeat' (walk_at "M.x")
    refine ⟨fun h7 => ?_, fun h7 => ?_⟩
    · have hb : inB1 ch = false := by simpa [inB1] using h7
      repeat' (walk_at "M.x")
      refine can_f okMapB3 (St.kph ‹_›) (call_mapB3 (n := n) (St.kph ‹_›) hrm' hl1 ?_)
      intro h8 tk8 t8 k8
      rename St w (callEnv fdPrep L 163) h (_ :: _ :: _ :: _) _ _ _ => st7
      have st8 := st7.ext k8
      have hplen := prep_len (l := l.take i) fun c hc => (hlow c (List.mem_of_mem_take hc)).2
      repeat' (walk_at "M.x")
      refine r_iaddS (by rw [S_len]; have : (l.take i).length ≤ l.length := by rw [List.length_take]; (first | lia | omega)
                         (first | lia | omega)) ?_
      intro t9 tk9
      have e9 : S (prepF (l.take i)) ++ mapB3 ch = S (prepF (l.take (i + 1))) := by
        rw [htk, S_eq (mapB3 ch), S_append]
        unfold prepF
        rw [List.flatMap_append, List.flatMap_singleton, hb]
        rfl
      rw [e9]
      repeat' (walk_at "M.x")
      exact hQ1 _ _ _ trivial (St.sub ‹St w (callEnv fdPrep L 163) h ((Str.ofString "held", _) :: _) _ _ _› (by walk_at "M.sub") (by kernel_rfl!))
    · have hb : inB1 ch = true := by simpa [inB1] using h7
      repeat' (walk_at "M.x")
      refine r_isNotBT ?_
      repeat' (walk_at "M.x")
      refine ⟨fun h8 => ?_, fun _ => ?_⟩
      · have : b1V.contains (ch : Int) = true := hb
        rw [this] at h8
        exact absurd h8 (by decide)
      · have e9 : prepF (l.take i) = prepF (l.take (i + 1)) := by
          rw [htk]
          unfold prepF
          rw [List.flatMap_append, List.flatMap_singleton, hb]
          simp
        rename St w (callEnv fdPrep L 163) h (_ :: _ :: _ :: _) _ _ _ => st7
        rw [e9] at st7
        repeat' (walk_at "M.x")
        exact hQ1 _ _ _ trivial (st7.sub (by walk_at "M.sub") (by kernel_rfl!))
  · intro tx h5 tk5 _ st5
    rw [List.take_length] at st5
    refine Later.mk ?_
    repeat' (walk_at "M.x")
    exact q _ _ _ (St.keep ‹_›)
end
end
section
section
variable {w : World} {env : Env} {h₀ h : Heap} {vs : List (Str × Value)} {ns : List (Addr × Obj)} {rs : List (Value × D)} {A : Around} {E : Value → Shared → Prop} {c : Shared} {tk : Nat}
theorem fills_iadd : fillsInplaceSlot (.type "list") "add" (Operator.Add == .Add) = Pure.pure false := by
  unfold fillsInplaceSlot
  have e := PySem.F.slot_list_iadd.lookup
  simp only [e]
  kernel_rfl
theorem r_iaddL {l b : Addr} {items items2 : List Value} {n n2 : Nat} {Q : Value → Shared → Prop} (hl : h.get? l = some (LO items n)) (hb : h.get? b = some (LO items2 n2)) (hsz : items.length + items2.length < 100000)
    (q : ∀ h' m, Heap.SameBut l h h' → h'.get? l = some (LO (items ++ items2) m) → Q (.ref l) (Sh c h' tk)) : wpAny (MM w) A (inplaceOp .Add (.ref l) (.ref b)) Q E (Sh c h tk) := by
  have ha : (Sh c h tk).TypeIs (.ref l) "list" := ⟨_, hl, rfl⟩
  have hb' : (Sh c h tk).TypeIs (.ref b) "list" := ⟨_, hb, rfl⟩
  have hsi : seqSlot? (.type "list") (dunderI "add") = Pure.pure (some (.builtin "list.__iadd__")) := PySem.seqSlot_of PySem.F.slot_list_iadd.lookup (by decide +kernel)
  unfold inplaceOp
  refine wpAny_holding ?_
  refine wpAny_bind (wpAny_typeOf ha (wpAny_bind (wpAny_of_eq fills_iadd ?_)))
  show wpAny (MM w) A (if false = true then _ else _) Q E _
  rw [if_neg Bool.false_ne_true]
  refine wpAny_bind (binaryOp1_none (nm := "add") ha hb' noFill_list_add ?_)
  refine wpAny_bind (wpAny_of_eq hsi ?_)
  refine wpAny_bind (wpAny_rule ?_)
  refine (call_meets PySem.F.slot_list_iadd ha PySem.F.entry_list_iadd (PySem.F.args_list_iadd_2 _ _) (AutoSeq1.list___iadd___list_list_0 l items.toArray n b items2.toArray n2 ?_ ?_ ?_) ⟨hl, hb, ?_⟩)
  · simp [Builtin.List.listTooLong]
    intros
    rw [sizeLine_eq]
    (first | lia | omega)
  · rw [sizeLine_eq, List.size_toArray]; (first | lia | omega)
  · rw [sizeLine_eq, List.size_toArray, List.size_toArray]; (first | lia | omega)
  · have hg := Heap.get?_update_self (Obj.mapSeq fun x => x ++ items2.toArray) hl (by rfl)
    have e : Obj.mapSeq (fun x => x ++ items2.toArray) (LO items n) = LO (items ++ items2) (match (Obj.mapSeq (fun x => x ++ items2.toArray) (LO items n)).data with | .seq _ k => k | _ => 0) := by
      simp [Obj.mapSeq, LO]
    rw [e] at hg
    exact q _ _ (Heap.SameBut.update ..) hg
end
noncomputable def unseenF (k : Nat) : Nat := if k < 16 then 65024 + k else [173, 847, 6150, 6155, 6156, 6157, 8203, 8204, 8205, 8288, 65279].getD (k - 16) 0
theorem ints_at {us : List Value} {zs : List Int} (hi : IntsAre us zs) : ∀ {k : Nat} {z : Int}, zs[k]? = some z → ∃ t, us[k]? = some (.int z t) := by
  induction hi with
  | nil => intro k z h; simp at h
  | cons n t _ ih =>
    intro k z h
    cases k with
    | zero => simp at h; subst h; exact ⟨t, rfl⟩
    | succ k => exact ih (by simpa using h)
theorem strs_at {us : List Value} {zs : List Str} (hi : StrsAre us zs) : ∀ {k : Nat} {z : Str}, zs[k]? = some z → ∃ t, us[k]? = some (.str z t) := by
  induction hi with
  | nil => intro k z h; simp at h
  | cons n t _ ih =>
    intro k z h
    cases k with
    | zero => simp at h; subst h; exact ⟨t, rfl⟩
    | succ k => exact ih (by simpa using h)
section
variable {w : World} {A : Around} {E : Value → Shared → Prop} {c : Shared} {h : Heap} {tk : Nat}
theorem r_itemI {value slice : Expr} {l : Addr} {us : List Value} {zs : List Int} {m k : Nat} {x z : Int} {u : Tok} {Q : Value → Shared → Prop} (hl : h.get? l = some (LO us m)) (hi : IntsAre us zs) (hx : x = (k : Int)) (hk : zs[k]? = some z) (hsz : zs.length < 100000)
    (hs : subscripted slice false (.ref l) (.int x u) = operate [.ref l, .int x u] (getItem (.ref l) (.int x u))) (q : ∀ t, Q (.int z t) (Sh c h tk)) :
    wpAny (MM w) A (subscriptTail value slice (.ref l) (.int x u)) Q E (Sh c h tk) := by
  obtain ⟨t, ht⟩ := ints_at hi hk
  have := IntsAre.length hi
  exact r_any (r_itemL (n := k) (lo_isList hl) hx ht (by (first | lia | omega)) hs (fun _ => rfl) (q t))
theorem r_itemSs {value slice : Expr} {l : Addr} {us : List Value} {zs : List Str} {m k : Nat} {x : Int} {z : Str} {u : Tok} {Q : Value → Shared → Prop} (hl : h.get? l = some (LO us m)) (hi : StrsAre us zs) (hx : x = (k : Int)) (hk : zs[k]? = some z) (hsz : us.length < 100000)
    (hs : subscripted slice false (.ref l) (.int x u) = operate [.ref l, .int x u] (getItem (.ref l) (.int x u))) (q : ∀ t, Q (.str z t) (Sh c h tk)) :
    wpAny (MM w) A (subscriptTail value slice (.ref l) (.int x u)) Q E (Sh c h tk) := by
  obtain ⟨t, ht⟩ := strs_at hi hk
  exact r_any (r_itemL (n := k) (lo_isList hl) hx ht (by (first | lia | omega)) hs (fun _ => rfl) (q t))
end
noncomputable def letterF (le f : Nat) : Nat := if f < 2 then 97 - 32 * f + le else 119808 + 52 * [0, 1, 2, 4, 7, 8, 9, 10, 11, 12].getD (f - 2) 0 + le
section
variable {w : World} {A : Around} {E : Value → Shared → Prop} {c : Shared} {h : Heap} {tk : Nat}
theorem unseen_call {k : Nat} {t : Tok} {n : Nat} {Q : Value → Shared → Prop} (kp : KeepR w h) (hrm : Rm (n + 2) A) (hk : k < 27)
    (q : ∀ h' tk' t, Ext h h' → Q (.str (S [unseenF k]) t) (Sh c h' tk')) : wpAny (MM w) A (call (.ref 156) [.int (k : Int) t] []) Q E (Sh c h tk) := by
  refine enterN (body := bdyAt 18) (binds := [("number", .int (k : Int) t)]) okUnseen rfl kp (BindsTo.of_eq (by kernel_rfl!)) (by kernel_rfl!) (by kernel_rfl!) (by kernel_rfl!) hrm.lt ?_
  intro L h₁ tk₁ st
  refine r_cons ?_
  repeat' (walk_at "M.x")
  refine ⟨fun h1 => ?_, fun h1 => ?_⟩
  · rw [decide_eq_true_eq] at h1
    repeat' (walk_at "M.x")
    refine r_chr (by (first | lia | omega)) (by (first | lia | omega)) ?_
    intro t2 tk2
    rw [show ((65024 : Int) + (k : Int)).toNat = unseenF k by unfold unseenF; rw [if_pos (by (first | lia | omega))]; (first | lia | omega)]
    exact q _ _ _ st.keep
  · rw [decide_eq_false_iff_not] at h1
    repeat' (walk_at "M.x")
    refine Later.mk ?_
    repeat' (walk_at "M.x")
    refine ⟨_, _, _, _, _, _, _, rfl, by simp, st, ?_⟩
    intro h2 a2 st2 k2
    repeat' (walk_at "M.x")
    have hz : ([173, 847, 6150, 6155, 6156, 6157, 8203, 8204, 8205, 8288, 65279] : List Int)[k - 16]? = some ((unseenF k : Nat) : Int) := by
      have : ∀ j : Fin 27, 16 ≤ j.val → ([173, 847, 6150, 6155, 6156, 6157, 8203, 8204, 8205, 8288, 65279] : List Int)[j.val - 16]? = some ((unseenF j.val : Nat) : Int) := by decide +kernel
      exact this ⟨k, hk⟩ (by show 16 ≤ k; (first | lia | omega))
    refine r_itemI (k := k - 16) (st2.led _ (.head _)).1 (by repeat' (first | exact .nil | refine .cons _ _ ?_)) (by (first | lia | omega)) hz (by simp) (by kernel_rfl!) ?_
    intro t5
    have hb : unseenF k ≤ 1114111 := by
      have : ∀ j : Fin 27, unseenF j.val ≤ 1114111 := by decide +kernel
      exact this ⟨k, hk⟩
    repeat' (walk_at "M.x")
    refine r_chr (by (first | lia | omega)) (by (first | lia | omega)) ?_
    intro t6 tk6
    rw [Int.toNat_natCast]
    exact q _ _ _ (St.keep ‹_›)
theorem letter_call {le f : Nat} {t u : Tok} {n : Nat} {Q : Value → Shared → Prop} (kp : KeepR w h) (hrm : Rm (n + 2) A) (hl : le < 26) (hf : f < 12)
    (q : ∀ h' tk' t, Ext h h' → Q (.str (S [letterF le f]) t) (Sh c h' tk')) : wpAny (MM w) A (call (.ref 142) [.int (le : Int) t, .int (f : Int) u] []) Q E (Sh c h tk) := by
  refine enterN (body := bdyAt 16) (binds := [("letter", .int (le : Int) t), ("form", .int (f : Int) u)]) okLetter rfl kp (BindsTo.of_eq (by kernel_rfl!)) (by kernel_rfl!) (by kernel_rfl!) (by kernel_rfl!) hrm.lt ?_
  intro L h₁ tk₁ st
  refine r_cons ?_
  repeat' (walk_at "M.x")
  refine ⟨fun h1 => ?_, fun h1 => ?_⟩
  · rw [decide_eq_true_eq] at h1
    repeat' (walk_at "M.x")
    refine r_chr (by (first | lia | omega)) (by (first | lia | omega)) ?_
    intro t2 tk2
    rw [show ((97 : Int) - 32 * (f : Int) + (le : Int)).toNat = letterF le f by unfold letterF; rw [if_pos (by (first | lia | omega))]; (first | lia | omega)]
    exact q _ _ _ st.keep
  · rw [decide_eq_false_iff_not] at h1
    repeat' (walk_at "M.x")
    refine Later.mk ?_
    repeat' (walk_at "M.x")
    refine ⟨_, _, _, _, _, _, _, rfl, by simp, st, ?_⟩
    intro h2 a2 st2 k2
    repeat' (walk_at "M.x")
    obtain ⟨al, hal⟩ : ∃ al : Nat, al = [0, 1, 2, 4, 7, 8, 9, 10, 11, 12].getD (f - 2) 0 := ⟨_, rfl⟩
    have hz : ([0, 1, 2, 4, 7, 8, 9, 10, 11, 12] : List Int)[f - 2]? = some (al : Int) := by
      rw [hal]
      have : ∀ j : Fin 12, 2 ≤ j.val → ([0, 1, 2, 4, 7, 8, 9, 10, 11, 12] : List Int)[j.val - 2]? = some ((([0, 1, 2, 4, 7, 8, 9, 10, 11, 12].getD (j.val - 2) 0 : Nat)) : Int) := by decide +kernel
      exact this ⟨f, hf⟩ (by show 2 ≤ f; (first | lia | omega))
    refine r_itemI (k := f - 2) (st2.led _ (.head _)).1 (by repeat' (first | exact .nil | refine .cons _ _ ?_)) (by (first | lia | omega)) hz (by simp) (by kernel_rfl!) ?_
    intro t5
    have hb : al ≤ 12 := by
      rw [hal]
      have : ∀ j : Fin 12, ([0, 1, 2, 4, 7, 8, 9, 10, 11, 12].getD (j.val - 2) 0 : Nat) ≤ 12 := by decide +kernel
      exact this ⟨f, hf⟩
    repeat' (walk_at "M.x")
    refine Later.mk ?_
    repeat' (walk_at "M.x")
    refine r_chr (by (first | lia | omega)) (by (first | lia | omega)) ?_
    intro t6 tk6
    rw [show ((119808 : Int) + 52 * (al : Int) + (le : Int)).toNat = letterF le f by unfold letterF; rw [if_neg (by (first | lia | omega)), ← hal]; (first | lia | omega)]
    exact q _ _ _ (St.keep ‹_›)
end
end
section
noncomputable def typSigns : List Nat := [64256, 64257, 64258, 64259, 64260, 64261, 64262, 223, 8360, 8470, 8481, 13169, 13171, 13173, 13188, 13189, 13201, 13204, 13227, 13236, 13246, 13251, 13257, 13261, 13273, 13277]
noncomputable def typMeans : List Str := ["ff", "fi", "fl", "ffi", "ffl", "st", "st", "ss", "rs", "no", "tel", "hpa", "au", "ov", "ka", "kb", "khz", "thz", "mpa", "pv", "kw", "bq", "gy", "kk", "ppm", "wb"]
noncomputable def typedF (k : Nat) : List Nat × List Nat :=
  if k % 4 = 0 then ([typSigns.getD (k / 4 % 26) 0], (typMeans.getD (k / 4 % 26) Str.empty).cps.toList)
  else if k % 4 = 1 then ([48 + k / 4 % 10], [48 + k / 4 % 10])
  else ([letterF (k / 4 % 26) (k / 4 / 26 % 12)], [97 + k / 4 % 26])
theorem fdiv_nat (a b : Nat) : (a : Int).fdiv (b : Int) = ((a / b : Nat) : Int) := by
  rw [Int.fdiv_eq_ediv_of_nonneg _ (by (first | lia | omega))]; rfl
theorem fmod_nat (a b : Nat) : (a : Int).fmod (b : Int) = ((a % b : Nat) : Int) := by
  rw [Int.fmod_eq_emod_of_nonneg _ (by (first | lia | omega))]; rfl
section
variable {w : World} {A : Around} {E : Value → Shared → Prop} {c : Shared} {h : Heap} {tk : Nat}
theorem r_iaddSe {x y z : Str} {t u : Tok} {Q : Value → Shared → Prop} (hz : x ++ y = z) (hl : x.length + y.length < 1000000) (q : TkS c h Q z) : wpAny (MM w) A (inplaceOp .Add (.str x t) (.str y u)) Q E (Sh c h tk) :=
  r_iaddS hl (hz ▸ q)
theorem typed_call {k : Nat} {t : Tok} {n : Nat} {Q : Value → Shared → Prop} (kp : KeepR w h) (hrm : Rm (n + 3) A) (hk : k < 1000000)
    (q : ∀ h' tk' a t1 t2, Ext h h' → IsTup h' a #[.str (S (typedF k).1) t1, .str (S (typedF k).2) t2] → Q (.ref a) (Sh c h' tk')) : wpAny (MM w) A (call (.ref 149) [.int (k : Int) t] []) Q E (Sh c h tk) := by
  refine enterN (body := bdyAt 17) (binds := [("number", .int (k : Int) t)]) okTyped rfl kp (BindsTo.of_eq (by kernel_rfl!)) (by kernel_rfl!) (by kernel_rfl!) (by kernel_rfl!) hrm.lt ?_
  intro L h₁ tk₁ st
  have hrm' : Rm (n + 2) (A.deeper (callEnv fdTyped L 149)) := hrm.deeper
  refine r_cons ?_
  repeat' (walk_at "M.x")
  have e4 : (k : Int).fdiv 4 = ((k / 4 : Nat) : Int) := fdiv_nat k 4
  have m4 : (k : Int).fmod 4 = ((k % 4 : Nat) : Int) := fmod_nat k 4
  rw [m4]
  obtain ⟨p, hp⟩ : ∃ p : Nat, p = k / 4 := ⟨_, rfl⟩
  rename St w (callEnv fdTyped L 149) h ((Str.ofString "part", _) :: _) _ _ _ => stp
  rw [e4, ← hp] at stp
  have m26 : (p : Int).fmod 26 = ((p % 26 : Nat) : Int) := fmod_nat p 26
  have m10 : (p : Int).fmod 10 = ((p % 10 : Nat) : Int) := fmod_nat p 10
  have d26 : (p : Int).fdiv 26 = ((p / 26 : Nat) : Int) := fdiv_nat p 26
  have m12 : ((p / 26 : Nat) : Int).fmod 12 = ((p / 26 % 12 : Nat) : Int) := fmod_nat (p / 26) 12
  have hp26 : p % 26 < 26 := Nat.mod_lt _ (by decide)
  refine ⟨fun h1 => ?_, fun h1 => ?_⟩
  · have h0 : k % 4 = 0 := by have := eq_of_beq h1; (first | lia | omega)
    have hT : typedF k = ([typSigns.getD (p % 26) 0], (typMeans.getD (p % 26) Str.empty).cps.toList) := by unfold typedF; rw [if_pos h0, ← hp]
    rw [hT] at q
    repeat' (walk_at "M.x")
    refine Later.mk ?_
    repeat' (walk_at "M.x")
    refine r_iaddSe (z := S typSigns) (by kernel_rfl!) (by decide +kernel) ?_
    intro t2 tk2
    repeat' (walk_at "M.x")
    refine Later.mk ?_
    repeat' (walk_at "M.x")
    refine ⟨_, _, _, _, _, _, _, rfl, by simp, ‹St w (callEnv fdTyped L 149) h _ _ _ _›, ?_⟩
    intro h3 a3 st3 k3
    repeat' (walk_at "M.x")
    refine Later.mk ?_
    rename St w (callEnv fdTyped L 149) h ((Str.ofString "means", _) :: _) _ _ _ => st4
    repeat' (walk_at "M.x")
    refine ⟨_, _, _, _, _, _, _, rfl, by simp, st4, ?_⟩
    intro h5 a5 st5 k5
    refine r_iaddL (st5.led _ (.tail _ (.head _))).1 (st5.led _ (.head _)).1 (by simp) fun h6 m6 hs6 hg6 => ?_
    have st6 := st5.write (.there .here) hs6 hg6 (noTup_of (st5.led _ (.tail _ (.head _))).1 (show Value.type "list" ≠ .type "tuple" by decide))
    repeat' (walk_at "M.x")
    refine Later.mk ?_
    rename St w (callEnv fdTyped L 149) h ((Str.ofString "means", _) :: _) _ _ _ => st7
    repeat' (walk_at "M.x")
    rw [m26]
    have hs26 : typSigns[p % 26]? = some (typSigns.getD (p % 26) 0) := by
      rw [List.getD_eq_getElem?_getD, List.getElem?_eq_getElem (show p % 26 < typSigns.length from hp26)]; rfl
    have hm26 : typMeans[p % 26]? = some (typMeans.getD (p % 26) Str.empty) := by
      rw [List.getD_eq_getElem?_getD, List.getElem?_eq_getElem (show p % 26 < typMeans.length from hp26)]; rfl
    refine r_itemS2 hs26 (by decide +kernel) (by kernel_rfl!) (fun _ => by kernel_rfl!) ?_
    intro t8 tk8
    repeat' (walk_at "M.x")
    rw [m26]
    refine r_itemSs (k := p % 26) (zs := typMeans) (st7.led _ (.tail _ (.head _))).1 ?_ rfl hm26 (by simp) (by kernel_rfl!) ?_
    · simp only [List.cons_append, List.nil_append]
      unfold typMeans
      repeat' (first | exact .nil | refine .cons _ _ ?_)
    intro t9
    repeat' (walk_at "M.x")
    refine ⟨_, _, rfl, by simp, ?_⟩
    intro h9 a9 k9 hT9
    rw [S_eq (typMeans.getD (p % 26) Str.empty)] at hT9
    exact q _ _ _ _ _ (st7.keep.trans k9) hT9
  · have h0 : k % 4 ≠ 0 := fun e => by rw [e] at h1; exact absurd h1 (by decide)
    repeat' (walk_at "M.x")
    refine Later.mk ?_
    repeat' (walk_at "M.x")
    rw [m4]
    refine ⟨fun h2 => ?_, fun h2 => ?_⟩
    · have h1' : k % 4 = 1 := by have := eq_of_beq h2; (first | lia | omega)
      have hT : typedF k = ([48 + p % 10], [48 + p % 10]) := by unfold typedF; rw [if_neg h0, if_pos h1', ← hp]
      rw [hT] at q
      have hp10 : p % 10 < 10 := Nat.mod_lt _ (by decide)
      repeat' (walk_at "M.x")
      rw [m10]
      refine r_chr (by (first | lia | omega)) (by (first | lia | omega)) ?_
      intro t2 tk2
      repeat' (walk_at "M.x")
      rw [m10]
      refine r_chr (by (first | lia | omega)) (by (first | lia | omega)) ?_
      intro t3 tk3
      repeat' (walk_at "M.x")
      refine ⟨_, _, rfl, by simp, ?_⟩
      intro h9 a9 k9 hT9
      rw [show ((48 : Int) + ((p % 10 : Nat) : Int)).toNat = 48 + p % 10 by (first | lia | omega)] at hT9
      exact q _ _ _ _ _ (Ext.trans (St.keep ‹_›) k9) hT9
    · have h1' : k % 4 ≠ 1 := fun e => by rw [e] at h2; exact absurd h2 (by decide)
      have hT : typedF k = ([letterF (p % 26) (p / 26 % 12)], [97 + p % 26]) := by unfold typedF; rw [if_neg h0, if_neg h1', ← hp]
      rw [hT] at q
      repeat' (walk_at "M.x")
      refine Later.mk ?_
      repeat' (walk_at "M.x")
      rw [m26]
      rw [d26, m12]
      refine can_f okLetter (St.kph ‹_›) (letter_call (n := n) (St.kph ‹_›) hrm' hp26 (Nat.mod_lt _ (by decide)) ?_)
      intro h3 tk3 t3 k3
      rename St w (callEnv fdTyped L 149) h (_ :: _) _ _ _ => st2
      have st3 := st2.ext k3
      repeat' (walk_at "M.x")
      rw [m26]
      refine r_chr (by (first | lia | omega)) (by (first | lia | omega)) ?_
      intro t4 tk4
      repeat' (walk_at "M.x")
      refine ⟨_, _, rfl, by simp, ?_⟩
      intro h9 a9 k9 hT9
      rw [show ((97 : Int) + ((p % 26 : Nat) : Int)).toNat = 97 + p % 26 by (first | lia | omega)] at hT9
      exact q _ _ _ _ _ (Ext.trans (St.keep ‹_›) k9) hT9
end
end
section
theorem ints_of_reps : ∀ {h : Heap} {ys : List Value} {zs : List Int}, ys.length = zs.length → (∀ r ∈ ys.zip (zs.map D.int), Rep h r.1 r.2) → IntsAre ys zs
  | _, [], [], _, _ => .nil
  | _, y :: ys, z :: zs, hl, hr => by
    have h1 := hr (y, .int z) (.head _)
    have h2 := ints_of_reps (ys := ys) (zs := zs) (by simpa using hl) fun r hm => hr r (.tail _ hm)
    cases h1 with
    | int _ t => exact .cons z t h2
section
variable {w : World} {env : Env} {h₀ h h' : Heap} {vs : List (Str × Value)} {ns : List (Addr × Obj)} {rs : List (Value × D)} {A : Around} {E : Value → Shared → Prop} {c : Shared} {tk : Nat}
theorem r_addLL {l b : Addr} {us ws : List Value} {Q : Value → Shared → Prop} (st : St w env h₀ vs ns rs h) (hl : h.IsList l us.toArray) (hb : h.IsList b ws.toArray) (hsz : us.length + ws.length < 100000)
    (q : ∀ a h', St w env h₀ vs ((a, LO (us ++ ws) 0) :: ns) rs h' → Q (.ref a) (Sh c h' tk)) : wpAny (MM w) A (binaryOp .Add (.ref l) (.ref b)) Q E (Sh c h tk) := by
  obtain ⟨m, hbb, F, N⟩ := st.fr
  refine PyProof.Rows.add_lists (s := Sh c h tk) F N hl hb (fun h' F' N' => q _ h' (st.ofFr1 hbb F' N' ?_)) (by rw [sizeLine_eq]; (first | lia | omega))
  cases e : h.get? h.objs.size with
  | none => rfl
  | some o => exact absurd (Heap.lt_size e) (Nat.lt_irrefl _)
theorem r_bytesL {l : Addr} {us : List Value} {zs : List Int} {Q : Value → Shared → Prop} (st : St w env h₀ vs ns rs h) (hA : A.handled = none) (hl : h.IsList l us.toArray) (hi : IntsAre us zs) (hz : ∀ z ∈ zs, 0 ≤ z ∧ z < 256) (hsz : us.length < 100000)
    (q : ∀ h' t tk', St w env h₀ vs ns rs h' → Q (.bytes (byteArr zs) t) (Sh c h' tk')) : wpAny (MM w) A (call (.type "bytes") [.ref l] []) Q E (Sh c h tk) :=
  call_bytes_ints (s := Sh c h tk) hl hi hz (by rw [sizeLine_eq]; (first | lia | omega)) hA fun h' t k kk => q h' t k (st.ext kk)
theorem St.afterDec {l : List Env} {ns₁ fl : List (Addr × Obj)} (st : St w env h₀ vs (ns₁ ++ fl) rs h) (hf : env.frame = some env.locals) (hfl : fl.map (·.1) = fsOf l) (x : Slots (fsOf (env :: l)) h h') :
    ∃ fl', LedUp fl fl' ∧ St w env h₀ vs (ns₁ ++ fl') rs h' := by
  rw [fsOf_cons hf] at x
  have d := List.nodup_cons.mp st.dis
  rw [List.map_append] at d
  refine st.slots x (fun L hL => ?_) fun p hp hm => ?_
  · rcases List.mem_cons.mp hL with rfl | hL
    · exact st.old
    · rw [← hfl] at hL
      obtain ⟨p, hp, rfl⟩ := List.mem_map.mp hL
      exact (st.led p (List.mem_append_right _ hp)).2
  · rcases List.mem_cons.mp hm with e | hm
    · exact d.1 (List.mem_append_left _ (e ▸ List.mem_map_of_mem (f := (·.1)) hp))
    · rw [← hfl] at hm
      exact (List.nodup_append.mp d.2).2.2 _ (List.mem_map_of_mem (f := (·.1)) hp) _ hm rfl
theorem rep_tup {a : Addr} {ds : List D} (r : Rep h (.ref a) (.tup ds)) : ∃ us, IsTup h a us.toArray ∧ Reps h us ds := by
  cases r with
  | tup x y => exact ⟨_, x, y⟩
end
noncomputable def dOut : Out → D
  | .num e r => .tup [.int e, .int r]
  | .off e => .tup [.int e, .none]
  | .fin e => .tup [.int ((e + 1 : Nat) : Int), .none]
theorem DecQ.soft {c : Shared} {h : Heap} {l : List Env} {err : Str} {Q : Value → Shared → Prop} {E : Value → Shared → Prop} {o : Out} (hne : err ≠ "strict")
    (q : ∀ h' tk' a, Slots (fsOf l) h h' → Rep h' (.ref a) (dOut o) → Q (.ref a) (Sh c h' tk')) : DecQ c h l err Q E o := by
  cases o with
  | num e r => exact fun h' tk' a t1 t2 x y => q h' tk' a x (.tup y (.cons (.int _ _) (.cons (.int _ _) .nil)))
  | off e => exact ⟨fun h => absurd h hne, fun _ h' tk' a t1 x y => q h' tk' a x (.tup y (.cons (.int _ _) (.cons .none .nil)))⟩
  | fin e => exact ⟨fun h => absurd h hne, fun _ h' tk' a t1 x y => q h' tk' a x (.tup y (.cons (.int _ _) (.cons .none .nil)))⟩
theorem DecQ.hard {c : Shared} {h base : Heap} {l : List Env} {err : Str} {Q : Value → Shared → Prop} {E : Value → Shared → Prop} {o : Out} (he : err = "strict") (ho : (∃ e, o = .off e) ∨ ∃ e, o = .fin e)
    (hb : Ext base h) (hbn : ∀ L ∈ fsOf l, base.get? L = none)
    (q : ∀ h' tk' x a0, Slots (fsOf l) h h' → Heap.FlyingW base l x (.type "UnicodeDecodeError") a0 h' → E (.ref x) (Sh c h' tk')) : DecQ c h l err Q E o := by
  have key : ∀ base' h' tk' x a0, (∀ b, b ∉ fsOf l → base'.get? b = h.get? b) → Slots (fsOf l) h h' → Heap.FlyingW base' l x (.type "UnicodeDecodeError") a0 h' → E (.ref x) (Sh c h' tk') := by
    intro base' h' tk' x a0 h1 h2 h3
    refine q h' tk' x a0 h2 (flying_anti (fun b ob e => ?_) h3)
    rw [h1 b fun hm => by rw [hbn b hm] at e; cases e]
    exact hb _ _ e
  rcases ho with ⟨e, rfl⟩ | ⟨e, rfl⟩
  · exact ⟨fun _ => key, fun hn => absurd he hn⟩
  · exact ⟨fun _ => key, fun hn => absurd he hn⟩
theorem rep_num {h : Heap} {a : Addr} {e : Nat} {r : Int} (x : Rep h (.ref a) (dOut (.num e r))) : ∃ t1 t2, IsTup h a #[.int (e : Int) t1, .int r t2] := by
  obtain ⟨us, hT, hR⟩ := rep_tup x
  cases hR with
  | cons r1 r2 =>
    cases r2 with
    | cons r3 r4 => cases r1; cases r3; cases r4; exact ⟨_, _, hT⟩
theorem rep_none {h : Heap} {a : Addr} {z : Int} (x : Rep h (.ref a) (.tup [.int z, .none])) : ∃ t1, IsTup h a #[.int z t1, .none] := by
  obtain ⟨us, hT, hR⟩ := rep_tup x
  cases hR with
  | cons r1 r2 =>
    cases r2 with
    | cons r3 r4 => cases r1; cases r3; cases r4; exact ⟨_, hT⟩
theorem rep_end {h : Heap} {a : Addr} {p : Prop} [Decidable p] {n : Nat} (x : Rep h (.ref a) (dOut (if p then .fin n else .off (n + 1)))) : ∃ t1, IsTup h a #[.int ((n + 1 : Nat) : Int) t1, .none] := by
  split at x <;> exact rep_none x
theorem LedUp.uncons {p : Addr × Obj} {r r' : List (Addr × Obj)} (x : LedUp (p :: r) r') : ∃ sl r'', r' = (p.1, { p.2 with slots := sl }) :: r'' ∧ LedUp r r'' := by
  cases x with
  | cons y => exact ⟨_, _, rfl, y⟩
section
variable {w : World} {A : Around} {E : Value → Shared → Prop} {c : Shared} {h : Heap} {tk : Nat}
theorem r_eqEnd {a b : Addr} {z : Int} {t u : Tok} {Q : Value → Shared → Prop} (hu : A.units < cLine) (ha : IsTup h a #[.int z t, .none]) (hb : IsTup h b #[.int z u, .none]) (q : Q (.bool true) (Sh c h tk)) :
    wpAny (MM w) A (compareOp .Eq (.ref a) (.ref b)) Q E (Sh c h tk) := by
  refine SeqAt.eq_tupleAt (s := Sh c h tk) (e := fun _ => true) ha hb hu (fun j h1 h2 => ?_) ?_
  · have hj : j = 0 ∨ j = 1 := by have : j < 2 := h1; (first | lia | omega)
    rcases hj with rfl | rfl
    · have := keq_flat (A := A.in1) (s := Sh c h tk) (PyProof.V.Flat.int z t) (PyProof.V.Flat.int z u)
      rw [show PyData.eqv (.int z) (.int z) = true by simp [PyData.eqv]] at this
      exact this
    · exact SeqAt.EqAt.same _
  · exact q
end
end
section
noncomputable def upc (ch : Nat) : Nat := if 97 ≤ ch then ch - 32 else ch
noncomputable def LF (l : List Nat) : Prop := ∀ ch ∈ l, (48 ≤ ch ∧ ch ≤ 57) ∨ (97 ≤ ch ∧ ch ≤ 122)
theorem dig_upc {ch : Nat} (h : (48 ≤ ch ∧ ch ≤ 57) ∨ (97 ≤ ch ∧ ch ≤ 122)) : ∃ d : Nat, dig? (upc ch) = some d ∧ (d : Int) = digv ch ∧ d < 36 := by
  unfold dig? upc digv
  by_cases h1 : 97 ≤ ch
  · rw [if_pos h1, if_pos (by (first | lia | omega)), if_pos h1]
    exact ⟨_, rfl, by (first | lia | omega), by (first | lia | omega)⟩
  · rw [if_neg h1, if_neg (by (first | lia | omega)), if_pos (by (first | lia | omega)), if_neg h1]
    exact ⟨_, rfl, by (first | lia | omega), by (first | lia | omega)⟩
theorem Tm_lt {k b d : Int} (h0 : 0 ≤ d) (h1 : d ≤ 25) : d < Tm k b ↔ d = 0 ∨ b + d < 36 * (k + 1) := by
  unfold Tm
  generalize 36 * (k + 1) = m
  split
  · (first | lia | omega)
  · split <;> (first | lia | omega)
theorem ends_iff {b : Int} {ch k : Nat} (h : (48 ≤ ch ∧ ch ≤ 57) ∨ (97 ≤ ch ∧ ch ≤ 122)) : endsAt b ch k = decide (digv ch < Tm (k : Int) b) := by
  rw [Bool.eq_iff_iff, decide_eq_true_eq]
  unfold endsAt digv
  rcases h with ⟨h1, h2⟩ | ⟨h1, h2⟩
  · have t := Tm_hi (k : Int) b
    rw [if_neg (by (first | lia | omega)), beq_eq_false_iff_ne.mpr (by (first | lia | omega)), decide_eq_false (by (first | lia | omega)), Bool.false_and, Bool.false_or]
    exact ⟨fun e => (by cases e), fun e => absurd e (by (first | lia | omega))⟩
  · rw [if_pos h1, Tm_lt (by (first | lia | omega)) (by (first | lia | omega)), Bool.or_eq_true, Bool.and_eq_true, beq_iff_eq, decide_eq_true_eq, decide_eq_true_eq, Int.fdiv_eq_ediv_of_nonneg _ (by decide)]
    generalize (k : Int) = k
    clear h2
    constructor
    · rintro (e | ⟨-, e⟩)
      · exact .inl (by (first | lia | omega))
      · exact .inr (by (first | lia | omega))
    · rintro (e | e)
      · exact .inl (by (first | lia | omega))
      · by_cases e2 : ch = 97
        · exact .inl e2
        · exact .inr ⟨by (first | lia | omega), by (first | lia | omega)⟩
theorem dec_cnt {b : Int} (bh : List Nat) : ∀ (l cur : List Nat) (p : Nat) (res W : Int), LF l →
    match cntGo b l cur p with
    | [] => ∃ j r w, dec b (l.map upc ++ bh) p cur.length res W = dec b bh (p + l.length) j r w
    | (e, n) :: rest => ∃ xs ys, l = xs ++ ys ∧ xs ≠ [] ∧ e = p + xs.length ∧ n = numF b (cur ++ xs) 0 ∧ rest = cntGo b ys [] e ∧ dec b (l.map upc ++ bh) p cur.length res W = .num e (res + W * numF b xs cur.length)
  | [], cur, p, res, W, _ => by exact ⟨_, _, _, rfl⟩
  | ch :: r, cur, p, res, W, hl => by
    obtain ⟨d, hd, hdv, _⟩ := dig_upc (hl ch (.head _))
    have hr : LF r := fun x hx => hl x (.tail _ hx)
    have hstep : dec b ((ch :: r).map upc ++ bh) p cur.length res W = if digv ch < Tm (cur.length : Int) b then .num (p + 1) (res + digv ch * W) else dec b (r.map upc ++ bh) (p + 1) (cur.length + 1) (res + digv ch * W) (W * (36 - Tm (cur.length : Int) b)) := by
      rw [List.map_cons, List.cons_append, dec_cons, hd]
      simp only [hdv]
    rw [cntGo_cons, ends_iff (hl ch (.head _)), hstep]
    by_cases he : digv ch < Tm (cur.length : Int) b
    · rw [if_pos (by simpa using he), if_pos he]
      refine ⟨[ch], r, rfl, by simp, rfl, rfl, rfl, ?_⟩
      simp only [numF_cons, numF_nil]
      rw [Int.mul_zero, Int.add_zero, Int.mul_comm]
    · rw [if_neg (by simpa using he), if_neg he]
      have ih := dec_cnt (b := b) bh r (cur ++ [ch]) (p + 1) (res + digv ch * W) (W * (36 - Tm (cur.length : Int) b)) hr
      rw [List.length_append, List.length_singleton] at ih
      cases hc : cntGo b r (cur ++ [ch]) (p + 1) with
      | nil =>
        rw [hc] at ih
        simp only at ih ⊢
        obtain ⟨j, r', w', h⟩ := ih
        exact ⟨j, r', w', by rw [h, List.length_cons, show p + 1 + r.length = p + (r.length + 1) by (first | lia | omega)]⟩
      | cons q rest =>
        obtain ⟨e, n⟩ := q
        rw [hc] at ih
        obtain ⟨xs, ys, h1, h2, h3, h4, h5, h6⟩ := ih
        refine ⟨ch :: xs, ys, by rw [h1]; rfl, by simp, by rw [h3, List.length_cons]; (first | lia | omega), by rw [h4, List.append_assoc]; rfl, h5, ?_⟩
        rw [h6]
        congr 1
        rw [numF_cons]
        rw [Int.mul_add, Int.mul_assoc, Int.mul_comm W (digv ch)]
        (first | lia | omega)
theorem dec_at {b : Int} {l bh : List Nat} (hl : LF l) (hb : bh = [] ∨ ∃ x, bh = [x] ∧ dig? x = none) (begin : Nat) (hbg : begin ≤ l.length) :
    match cntGo b (l.drop begin) [] begin with
    | [] => dec b ((l.map upc ++ bh).drop begin) begin 0 0 1 = (if bh = [] then .fin l.length else .off (l.length + 1))
    | (e, n) :: rest => dec b ((l.map upc ++ bh).drop begin) begin 0 0 1 = .num e n ∧ begin < e ∧ e ≤ l.length ∧ rest = cntGo b (l.drop e) [] e := by
  have hd : (l.map upc ++ bh).drop begin = (l.drop begin).map upc ++ bh := by
    rw [List.drop_append_of_le_length (by rw [List.length_map]; exact hbg), List.map_drop]
  have h := dec_cnt (b := b) bh (l.drop begin) [] begin 0 1 fun x hx => hl x (List.mem_of_mem_drop hx)
  rw [hd]
  cases hc : cntGo b (l.drop begin) [] begin with
  | nil =>
    rw [hc] at h
    simp only [List.length_nil] at h ⊢
    obtain ⟨j, r', w', h⟩ := h
    rw [h, List.length_drop, show begin + (l.length - begin) = l.length by (first | lia | omega)]
    rcases hb with rfl | ⟨x, rfl, hx⟩
    · rw [if_pos rfl]; rfl
    · rw [if_neg (by simp), dec_cons, hx]
  | cons q rest =>
    obtain ⟨e, n⟩ := q
    rw [hc] at h
    obtain ⟨xs, ys, h1, h2, h3, h4, h5, h6⟩ := h
    have hxl : 0 < xs.length := by cases xs with | nil => exact absurd rfl h2 | cons => simp
    have hlen := congrArg List.length h1
    rw [List.length_drop, List.length_append] at hlen
    refine ⟨?_, by (first | lia | omega), by (first | lia | omega), ?_⟩
    · simp only [List.length_nil] at h6
      rw [h6, h4, List.nil_append]
      congr 1
      (first | lia | omega)
    · rw [h5]
      congr 1
      have : l.drop e = (l.drop begin).drop xs.length := by rw [List.drop_drop, h3]
      rw [this, h1, List.drop_left]
end
section
noncomputable abbrev envR (L : Addr) : Env := callEnv fdRead L 182
section
variable {w : World} {A : Around} {E : Value → Shared → Prop} {c : Shared} {h : Heap} {tk : Nat}
theorem read_octs {l bh : List Nat} (hl : LF l) (hb : ∀ x ∈ bh, x < 256) : ((((l.map upc ++ bh).map fun n : Nat => (n : Int)).map fun n : Int => n.toNat.toUInt8).map (·.toNat)) = l.map upc ++ bh := by
  rw [List.map_map, List.map_map]
  conv => rhs; rw [← List.map_id (l.map upc ++ bh)]
  refine List.map_congr_left fun x hx => ?_
  have hx' : x < 256 := by
    rcases List.mem_append.mp hx with hx | hx
    · obtain ⟨y, hy, rfl⟩ := List.mem_map.mp hx
      have := hl y hy
      unfold upc
      split <;> omega
    · exact hb x hx
  show (((x : Int)).toNat.toUInt8).toNat = x
  rw [Int.toNat_natCast]
  simp [Nat.toUInt8, UInt8.toNat_ofNat, Nat.mod_eq_of_lt hx']
theorem read_call {l : List Env} {tx bh : List Nat} {b : Int} {t u : Tok} {ab : Addr} {mb n : Nat} {ws : List Value} {Q : Value → Shared → Prop} (kp : KeepR w h) (hff : FFr w h l) (hfr : A.frames = some l) (hA : A.handled = none) (hrm : Rm (n + 4) A)
    (hlf : LF tx) (hsz : tx.length < 50000) (hbh : bh = [] ∨ ∃ x, bh = [x] ∧ dig? x = none ∧ x < 256) (hab : h.get? ab = some (LO ws mb)) (hws : IntsAre ws (bh.map fun n : Nat => (n : Int))) (habf : ab ∉ fsOf l)
    (q : ∀ h' tk' a o items m, Slots (fsOf l) h h' → h.get? a = none → h'.get? a = some o → o.cls = .type "list" → o.data = .seq items.toArray m → Reps h' items ((cntGo b tx [] 0).map dNum) → Q (.ref a) (Sh c h' tk')) :
    wpAny (MM w) A (call (.ref 182) [.str (S tx) t, .int b u, .ref ab] []) Q E (Sh c h tk) := by
  obtain ⟨base, fl, kb, hbe, hfl, hfm, hnf, hbo, hbn⟩ := hff.cut kp
  refine enterN (body := bdyAt 22) (binds := [("text", .str (S tx) t), ("bias", .int b u), ("behind", .ref ab)]) okRead rfl kp (BindsTo.of_eq (by kernel_rfl!)) (by kernel_rfl!) (by kernel_rfl!) (by kernel_rfl!) hrm.lt ?_
  intro L h₁ tk₁ st
  have hrm' : Rm (n + 3) (A.deeper (envR L)) := hrm.deeper
  have hA' : (A.deeper (envR L)).handled = none := hA
  have hfr' : (A.deeper (envR L)).frames = some (envR L :: l) := by show A.frames.map _ = _; rw [hfr]; rfl
  have st0 := st.rebase kb hbe hfl (by rw [hfm]; exact hff.nodup)
  simp only [List.nil_append] at st0
  clear st
  have hab0 : base.get? ab = some (LO ws mb) := (hbo ab habf).trans hab
  have hbl : bh.length ≤ 1 := by rcases hbh with rfl | ⟨x, rfl, _⟩ <;> simp
  have hb256 : ∀ x ∈ bh, x < 256 := by
    rcases hbh with rfl | ⟨x, rfl, _, hx⟩
    · intro x hx; cases hx
    · intro y hy; rw [List.mem_singleton.mp hy]; exact hx
  refine r_cons ?_
  refine r_assign (by kernel_rfl!) (r_call (by kernel_rfl!) (by kernel_rfl!) ?_)
  repeat' (walk_at "M.x")
  refine r_comp (cl := []) st0 (by kernel_rfl!) (by kernel_rfl!) (by kernel_rfl!) (by kernel_rfl!) (by kernel_rfl!) (fun _ => rfl) ?_
  intro Tq iTq
  repeat' (walk_at "M.x")
  refine r_iterS ?_
  refine iTq.use _ _ ⟨_, _, _, tx.length, [], _, _, fun _ => true, fun i => .int ((upc (tx.getD i 0) : Nat) : Int), rfl, rfl, It.strL hA', ⟨rfl, rfl⟩, rfl, (fun _ hp => nomatch hp), by (first | lia | omega), st0, ?_, ?_⟩
  · rintro i v C I oI D' ys m h2 tk2 hi ⟨ch, uu, hch, rfl⟩ st2
    have hg : tx.getD i 0 = ch := by rw [List.getD_eq_getElem?_getD, hch]; rfl
    try dsimp only
    rw [hg]
    refine fun Tt iTt => t_none (iTt.use _ _ ⟨rfl, _, _, rfl, st2, fun _ Tv iTv => ?_⟩)
    repeat' (walk_at "M.x")
    refine ⟨fun h6 => ?_, fun h6 => ?_⟩
    · rw [a97] at h6
      have hge : 97 ≤ ch := by
        have : decide ([ch] < ([97] : List Nat)) = false := by simpa using h6
        rw [ltS_97] at this
        simpa using this
      repeat' (walk_at "M.x")
      refine iTv.use _ _ ⟨_, _, rfl, st2, ?_⟩
      rw [show (ch : Int) - 32 = ((upc ch : Nat) : Int) by unfold upc; rw [if_pos hge]; (first | lia | omega)]
      exact .int _ _
    · rw [a97] at h6
      have hge : ¬ 97 ≤ ch := by
        have : decide ([ch] < ([97] : List Nat)) = true := by simpa using h6
        rw [ltS_97] at this
        simpa using this
      repeat' (walk_at "M.x")
      refine iTv.use _ _ ⟨_, _, rfl, st2, ?_⟩
      rw [show (ch : Int) = ((upc ch : Nat) : Int) by unfold upc; rw [if_neg hge]]
      exact .int _ _
  · intro D' h2 tk2 ys m st2 k2 hn2 hl2
    have hfil : (List.range tx.length).filter (fun _ => true) = List.range tx.length := by simp
    rw [hfil] at hl2
    have hmap : (List.range tx.length).map (fun i => D.int ((upc (tx.getD i 0) : Nat) : Int)) = ((tx.map upc).map fun n : Nat => (n : Int)).map D.int := by
      apply List.ext_getElem?
      intro i
      rw [List.getElem?_map, List.getElem?_map, List.getElem?_map, List.getElem?_map]
      rcases Nat.lt_or_ge i tx.length with hi | hi
      · rw [List.getElem?_range hi, List.getElem?_eq_getElem hi]
        simp [List.getD_eq_getElem?_getD, List.getElem?_eq_getElem hi]
      · rw [List.getElem?_eq_none (by simpa using hi), List.getElem?_eq_none hi]; rfl
    have hI : IntsAre ys ((tx.map upc).map fun n : Nat => (n : Int)) := ints_of_reps (h := h2) (by rw [hl2]; simp) fun r hr => st2.rep r (by
      rw [List.append_nil, hfil]
      rw [hmap]
      exact hr)
    have st3 := st2.dropReps
    have hl2' : ys.length = tx.length := by rw [hl2]; simp
    have hwl : ws.length = bh.length := by rw [IntsAre.length hws]; simp
    repeat' (walk_at "M.x")
    refine r_addLL st3 (lo_isList (st3.led _ (.head _)).1) (lo_isList (st3.keep _ _ hab0)) (by (first | lia | omega)) fun a4 h4 st4 => ?_
    repeat' (walk_at "M.x")
    have hII : IntsAre (ys ++ ws) ((tx.map upc ++ bh).map fun n : Nat => (n : Int)) := by rw [List.map_append]; exact IntsAre.append hI hws
    refine r_bytesL st4 hA' (lo_isList (st4.led _ (.head _)).1) hII ?_ (by rw [List.length_append]; (first | lia | omega)) ?_
    · intro z hz
      obtain ⟨x, hx, rfl⟩ := List.mem_map.mp hz
      have hx' : x < 256 := by
        rcases List.mem_append.mp hx with hx | hx
        · obtain ⟨y, hy, rfl⟩ := List.mem_map.mp hx
          have := hlf y hy
          unfold upc
          split <;> (first | lia | omega)
        · exact hb256 x hx
      (first | lia | omega)
    intro h5 t5 tk5 st5
    have st6 : St w (envR L) base _ fl [] h5 := st5.drop1.drop1
    obtain ⟨octs, hocts⟩ : ∃ octs : List UInt8, octs = ((tx.map upc ++ bh).map fun n : Nat => (n : Int)).map fun n : Int => n.toNat.toUInt8 := ⟨_, rfl⟩
    have hoct : octs.map (·.toNat) = tx.map upc ++ bh := by rw [hocts]; exact read_octs hlf hb256
    have holen : octs.length = tx.length + bh.length := by
      have := congrArg List.length hoct
      simpa using this
    have hbyt : byteArr ((tx.map upc ++ bh).map fun n : Nat => (n : Int)) = octs.toArray := by rw [hocts]; rfl
    rw [hbyt]
    clear st2 st3 st4 st5 hI hII
    repeat' (walk_at "M.x")
    rename St w (envR L) base ((Str.ofString "octets", _) :: _) _ _ _ => st7
    refine r_unpackSw hA' (by kernel_rfl!) (by kernel_rfl!) ?_
    repeat' (walk_at "M.x")
    refine ⟨_, _, _, _, _, _, _, rfl, by simp, st7, ?_⟩
    intro h8 ar st8 k8
    repeat' (walk_at "M.x")
    refine ⟨_, _, rfl, by simp, ?_⟩
    intro h9 a9 k9 hT9
    refine ⟨_, _, _, _, _, rfl, rfl, hT9, ?_⟩
    intro h10 k10
    have st10 := (st8.ext k9).ext k10
    repeat' (walk_at "M.x")
    refine Later.mk ?_
    rename St w (envR L) base ((Str.ofString "row", _) :: _) _ _ _ => st11
    have hmemfl : ∀ {fl' : List (Addr × Obj)}, LedUp fl fl' → fl'.map (·.1) = fsOf l := fun lu => by rw [lu.keys]; exact hfm
    have hffR : ∀ {vs' rs' ob fl' h'}, St w (envR L) base vs' ((ar, ob) :: fl') rs' h' → LedUp fl fl' → FFr w h' (envR L :: l) := fun {vs' rs' ob fl' h'} st lu =>
      st.ffr (l := l) rfl (fun p hp hm => by
        rcases List.mem_cons.mp hp with rfl | hp
        · have d := (List.nodup_cons.mp (List.nodup_cons.mp st.dis).2).1
          exact absurd (by rw [hmemfl lu]; exact hm) d
        · exact lu.nf hnf p hp) hff.kinds (fun L' hL' => by rw [List.map_cons, hmemfl lu]; exact .tail _ hL') hff.nodup
    have hat := fun bg (hbg : bg ≤ tx.length) => dec_at (b := b) hlf (bh := bh) (by rcases hbh with h | ⟨x, h, hx, _⟩; exact .inl h; exact .inr ⟨x, h, hx⟩) bg hbg
    simp only [← hoct] at hat
    repeat' (walk_at "M.x")
    refine can_f okD (St.kph ‹_›) (dec_call (p := 0) (n := n) (St.kph ‹_›) (hffR st11 (LedUp.refl _)) hfr' hA' (hrm'.less (by (first | lia | omega))) (Nat.zero_le _) (by (first | lia | omega)) (DecQ.soft (by decide) ?_))
    intro h12 tk12 at12 x12 r12
    obtain ⟨fl12, lu12, st12⟩ := St.afterDec (l := l) (ns₁ := [(ar, LO [] 0)]) (fl := fl) st11 rfl hfm x12
    have st13 := st12.addRep r12
    clear st12 st11 x12
    repeat' (walk_at "M.x")
    refine Later.mk ?_
    rename St w (envR L) base ((Str.ofString "told", _) :: _) _ _ _ => st14
    refine r_consL ?_
    refine (r_whileE (fun n' h' => ∃ (ds : List (Nat × Int)) (items : List Value) (m bg : Nat) (tb : Tok) (at' : Addr) (fl' : List (Addr × Obj)), St w (envR L) base [("told", .ref at'), ("row", .ref ar), ("begin", .int (bg : Int) tb), ("octets", .bytes octs.toArray t5), ("text", .str (S tx) t), ("bias", .int b u), ("behind", .ref ab)] ((ar, LO items m) :: fl')
        ((.ref at', dOut (dec b ((octs.map (·.toNat)).drop bg) bg 0 0 1)) :: items.zip (ds.map dNum)) h' ∧ LedUp fl fl' ∧ ds ++ cntGo b (tx.drop bg) [] bg = cntGo b tx [] 0 ∧ items.length = ds.length ∧ ds.length ≤ bg ∧ bg ≤ tx.length ∧ n' = (cntGo b (tx.drop bg) [] bg).length)
      (cntGo b (tx.drop 0) [] 0).length ⟨[], [], 0, 0, _, at12, fl12, by simpa using st14, lu12, by simp, rfl, Nat.zero_le _, Nat.zero_le _, rfl⟩ ?_)
    clear st13 st14 lu12
    rintro n' h15 tk15 Q1 E1 hQn hQr hE1 hQb ⟨ds, items, m15, bg, tb, at', fl', st15, lu15, f1, f2, f3, f4, rfl⟩
    have hrep := st15.rep _ (.head _)
    have hcase := hat bg f4
    repeat' (walk_at "M.x")
    cases hc : cntGo b (tx.drop bg) [] bg with
    | nil =>
      rw [hc] at hcase f1
      simp only at hcase
      rw [hcase] at hrep
      obtain ⟨te, hT⟩ := rep_end hrep
      refine r_itemT (k := 1) (items := [_, _]) hT rfl (by simp) (by kernel_rfl!) (fun _ => by kernel_rfl!) ?_
      repeat' (walk_at "M.x")
      refine r_isNotNN ?_
      repeat' (walk_at "M.x")
      refine ⟨fun h => absurd h (by decide), fun _ => ⟨fun h => absurd h (by decide), fun _ => r_nil (hQb _ ?_)⟩⟩
      refine Later.mk ?_
      repeat' (walk_at "M.x")
      refine r_lenS (by rw [S_len]; (first | lia | omega)) ?_
      intro t16 tk16
      rw [S_len]
      repeat' (walk_at "M.x")
      refine ⟨_, _, rfl, by simp, ?_⟩
      intro h17 a17 k17 hT17
      have st17 := st15.ext k17
      rw [show (tx.length : Int) + 1 = ((tx.length + 1 : Nat) : Int) from rfl] at hT17
      refine r_eqEnd (Nat.lt_trans (show (A.deeper (envR L)).units < 9000 by have := hrm'.2; (first | lia | omega)) (by decide)) (hT.keeps k17) hT17 ?_
      repeat' (walk_at "M.x")
      refine ⟨fun _ => ?_, fun h => absurd h (by decide)⟩
      refine r_cons (PySem.wpAny_Try_except ?_)
      refine r_cons (r_expr (by kernel_rfl!) (by kernel_rfl!) ?_)
      repeat' (walk_at "M.x")
      refine can_f okD (St.kph ‹_›) (dec_call (p := bg) (n := n) (St.kph ‹_›) (hffR st17 lu15) hfr' hA' (hrm'.less (by (first | lia | omega))) (by (first | lia | omega)) (by (first | lia | omega)) ?_)
      rw [hcase]
      refine DecQ.hard (base := base) rfl (by split; exact .inr ⟨_, rfl⟩; exact .inl ⟨_, rfl⟩) st17.keep (fun L' hL' => ?_) ?_
      · rw [fsOf_cons (env := envR L) rfl] at hL'
        rcases List.mem_cons.mp hL' with rfl | hL'
        · exact st17.old
        · exact hbn _ hL'
      intro h30 tk30 x30 a30 sl30 f30
      obtain ⟨fl30, lu30, st30⟩ := St.afterDec (l := l) (ns₁ := [(ar, LO items m15)]) (fl := fl') st17 rfl (hmemfl lu15) sl30
      have nf30 : ∀ p ∈ [(ar, LO items m15)] ++ fl30, ∀ vs, p.2.data ≠ .fields vs := fun p hp vs e => by
        rcases List.mem_append.mp hp with hp | hp
        · rw [List.mem_singleton.mp hp] at e; cases e
        · exact (lu15.trans lu30).nf hnf p hp vs e
      refine wpAny_looks_onW (s := Sh c h30 tk30) hfr' rfl f30 fun h31 hh31 u31 => ?_
      obtain ⟨ns31, lu31, st31⟩ := st30.upTo hh31.1 u31 nf30
      refine flight2 hh31 fun h32 f32 u32 _ => ?_
      obtain ⟨ns32, lu32, st32⟩ := st31.upTo f32.1 u32 (lu31.nf nf30)
      refine land (L := 0) st32 f32 udeIsExc udeNotTuple udeSelf rfl (by unfold builtL; walk_at "M.mem") (by kernel_rfl!) ((lu31.trans lu32).nf nf30) ?_
      intro h33 ns33 lu33 st33 f33 u33
      obtain ⟨slr, fl33, rfl, luf⟩ := (((lu31.trans lu32).trans lu33)).uncons
      refine r_cons ?_
      repeat' (walk_at "M.x")
      rw [List.append_nil] at f1
      subst f1
      have har := st33.led _ (.head _)
      refine q _ _ _ _ _ _ (slots_of st33.drop1 ((lu15.trans lu30).trans luf) (fun p hp => (hfl p hp).1) hfm hbo) ?_ har.1 rfl rfl (Reps_of (by rw [List.length_map]; exact f2) fun r hr => st33.rep r (.tail _ hr))
      by_cases hm : ar ∈ fsOf l
      · have d := (List.nodup_cons.mp (List.nodup_cons.mp st15.dis).2).1
        exact absurd (by rw [hmemfl lu15]; exact hm) d
      · rw [← hbo ar hm]; exact har.2
    | cons p rest =>
      obtain ⟨e, nn⟩ := p
      rw [hc] at hcase f1
      simp only at hcase
      obtain ⟨g1, g2, g3, g4⟩ := hcase
      rw [g1] at hrep
      obtain ⟨te, tn, hT⟩ := rep_num hrep
      refine r_itemT (k := 1) (items := [_, _]) hT rfl (by simp) (by kernel_rfl!) (fun _ => by kernel_rfl!) ?_
      repeat' (walk_at "M.x")
      refine r_isNotIN ?_
      repeat' (walk_at "M.x")
      refine ⟨fun _ => ?_, fun h => absurd h (by decide)⟩
      repeat' (walk_at "M.x")
      refine r_lenL (lo_isList (st15.led _ (.head _)).1) (by (first | lia | omega)) ?_
      intro t16 tk16
      repeat' (walk_at "M.x")
      refine r_lenS (by rw [S_len]; (first | lia | omega)) ?_
      intro t17 tk17
      rw [S_len]
      repeat' (walk_at "M.x")
      refine ⟨fun _ => ?_, fun h => by rw [decide_eq_false_iff_not] at h; exact absurd (by (first | lia | omega)) h⟩
      repeat' (walk_at "M.x")
      refine ⟨fun _ => ?_, fun h => absurd h (by decide)⟩
      refine r_consL (r_expr (by kernel_rfl!) (by kernel_rfl!) (r_method (by kernel_rfl!) rfl ?_))
      repeat' (walk_at "M.x")
      refine r_gmL PySem.F.slot_list_append PySem.F.type_list_append (st15.led _ (.head _)).1 ?_
      repeat' (walk_at "M.x")
      refine r_append (st15.led _ (.head _)).1 (by (first | lia | omega)) fun h18 m18 hs18 hg18 => ?_
      have st18 := st15.write .here hs18 hg18 (noTup_of (st15.led _ (.head _)).1 (show Value.type "list" ≠ .type "tuple" by decide))
      have hrep18 := st18.rep _ (.head _)
      rw [g1] at hrep18
      obtain ⟨te', tn', hT'⟩ := rep_num hrep18
      refine Later.mk ?_
      repeat' (walk_at "M.x")
      refine r_itemT (k := 0) (items := [_, _]) hT' rfl (by simp) (by kernel_rfl!) (fun _ => by kernel_rfl!) ?_
      repeat' (walk_at "M.x")
      refine Later.mk ?_
      rename St w (envR L) base (_ :: _ :: ((Str.ofString "begin", Value.int (e : Int) _)) :: _) _ _ _ => st19
      repeat' (walk_at "M.x")
      refine can_f okD (St.kph ‹_›) (dec_call (p := e) (n := n) (St.kph ‹_›) (hffR st19 lu15) hfr' hA' (hrm'.less (by (first | lia | omega))) (by (first | lia | omega)) (by (first | lia | omega)) (DecQ.soft (by decide) ?_))
      intro h20 tk20 a20 x20 r20
      obtain ⟨fl20, lu20, st20⟩ := St.afterDec (l := l) (ns₁ := [(ar, LO (items ++ [.ref at']) m18)]) (fl := fl') st19 rfl (hmemfl lu15) x20
      have st21 := st20.addRep r20
      repeat' (walk_at "M.x")
      rename St w (envR L) base ((Str.ofString "told", Value.ref a20) :: _) _ _ _ => st22
      have hz : ∀ r ∈ (Value.ref a20, dOut (dec b ((octs.map (·.toNat)).drop e) e 0 0 1)) :: (items ++ [Value.ref at']).zip ((ds ++ [(e, nn)]).map dNum), r ∈ (Value.ref a20, dOut (dec b ((octs.map (·.toNat)).drop e) e 0 0 1)) :: (Value.ref at', dOut (dec b ((octs.map (·.toNat)).drop bg) bg 0 0 1)) :: items.zip (ds.map dNum) := by
        intro r hr
        rcases List.mem_cons.mp hr with rfl | hr
        · exact .head _
        · rw [List.map_append, List.zip_append (by rw [List.length_map]; exact f2)] at hr
          rcases List.mem_append.mp hr with hr | hr
          · exact .tail _ (.tail _ hr)
          · rw [List.mem_singleton.mp hr, g1]; exact .tail _ (.head _)
      have st23 := st22.repSub hz
      refine hQn rest.length _ _ ⟨ds ++ [(e, nn)], items ++ [Value.ref at'], m18, e, te', a20, fl20, st23, lu15.trans lu20, ?_, ?_, ?_, g3, ?_⟩ (by first | (rw [hc]; exact Nat.lt_succ_self _) | exact Nat.lt_succ_self _)
      · rw [List.append_assoc, ← f1, ← g4]; rfl
      · rw [List.length_append, List.length_append, f2]; rfl
      · rw [List.length_append, List.length_singleton]; (first | lia | omega)
      · rw [← g4]
end
end
section
theorem lookup_of_memA {α : Type} {x : Str} {v : α} : ∀ {l : List (Str × α)}, (x, v) ∈ l → (l.map (·.1)).Nodup → l.lookup x = some v
  | (y, u) :: l, hm, hn => by
    have n := List.nodup_cons.mp hn
    rcases List.mem_cons.mp hm with e | hm
    · cases e; simp [List.lookup]
    · have : x ≠ y := fun e => n.1 (by rw [← e]; exact List.mem_map_of_mem (f := (·.1)) hm)
      rw [List.lookup_cons, beq_eq_false_iff_ne.mpr this]
      exact lookup_of_memA hm n.2
noncomputable abbrev CellW (o : Obj) (v : Option Value) : Obj := { o with data := .cell v }
theorem noTup_cell {h : Heap} {a : Addr} {o : Obj} {v : Option Value} (ho : h.get? a = some (CellW o v)) : ∀ items, ¬ IsTup h a items := fun items ⟨o', ho', _, k, hd⟩ => by
  rw [ho] at ho'; cases ho'; cases hd
section
variable {w : World} {env : Env} {h₀ h h' : Heap} {vs : List (Str × Value)} {ns ns' : List (Addr × Obj)} {rs : List (Value × D)} {A : Around} {E : Value → Shared → Prop} {c : Shared} {tk : Nat} {x : Str}
theorem St.get {a : Addr} {o : Obj} (st : St w env h₀ vs ns rs h) (hm : (a, o) ∈ ns) : h.get? a = some o := (st.led _ hm).1
theorem r_cellLoad {a : Addr} {o : Obj} {v : Value} {Q : Value → Shared → Prop} (st : St w env h₀ vs ns rs h) (hl : env.kindOf x = some .cell) (ha : env.cells.lookup x = some a) (hm : (a, CellW o (some v)) ∈ ns) (q : Q v (Sh c h tk)) :
    wpAny (MM w) A (loadName env x) Q E (Sh c h tk) := wpAny_loadName_cell st.fk hl ha ⟨_, (st.led _ hm).1, rfl⟩ q
theorem r_cell {a : Addr} {o : Obj} {v : Value} {p : Pos} {Q : Value → Shared → Prop} (st : St w env h₀ vs ns rs h) (hl : env.kindOf x = some .cell) (ha : env.cells.lookup x = some a) (hm : (a, CellW o (some v)) ∈ ns) (hd : (x == ("__debug__" : Str)) = false) (q : Q v (Sh c h tk)) :
    wpAny (MM w) A (eval (.Name x p) env) Q E (Sh c h tk) := wpAny_Name (r_cellLoad st hl ha hm q) hd
theorem r_freeLoad {a : Addr} {o : Obj} {v : Value} {Q : Value → Shared → Prop} (st : St w env h₀ vs ns rs h) (hl : env.kindOf x = some .free) (ha : env.cells.lookup x = some a) (hg : h.get? a = some (CellW o (some v))) (hn : (x == ("__classdict__" : Str)) = false) (q : Q v (Sh c h tk)) :
    wpAny (MM w) A (loadName env x) Q E (Sh c h tk) := wpAny_loadName_free st.fk hl ha ⟨_, hg, rfl⟩ q hn
theorem r_free {a : Addr} {o : Obj} {v : Value} {p : Pos} {Q : Value → Shared → Prop} (st : St w env h₀ vs ns rs h) (hl : env.kindOf x = some .free) (ha : env.cells.lookup x = some a) (hg : h.get? a = some (CellW o (some v))) (hn : (x == ("__classdict__" : Str)) = false) (hd : (x == ("__debug__" : Str)) = false) (q : Q v (Sh c h tk)) :
    wpAny (MM w) A (eval (.Name x p) env) Q E (Sh c h tk) := wpAny_Name (r_freeLoad st hl ha hg hn q) hd
theorem r_cellB {a : Addr} {o : Obj} {v : Value} {p : Pos} {Q : Value → Shared → Prop} (st : St w env h₀ vs ns rs h) (hl : env.kindOf x = some .cell) (ha : env.cells.lookup x = some a) (hg : h₀.get? a = some (CellW o (some v))) (hd : (x == ("__debug__" : Str)) = false) (q : Q v (Sh c h tk)) :
    wpAny (MM w) A (eval (.Name x p) env) Q E (Sh c h tk) := wpAny_Name (wpAny_loadName_cell st.fk hl ha ⟨_, st.keep _ _ hg, rfl⟩ q) hd
theorem r_cellStore {a : Addr} {o : Obj} {v0 : Option Value} {v : Value} {Q : Unit → Shared → Prop} (st : St w env h₀ vs ns rs h) (hl : env.kindOf x = some .cell) (ha : env.cells.lookup x = some a) (hp : PutA a (CellW o v0) (CellW o (some v)) ns ns')
    (q : ∀ h', St w env h₀ vs ns' rs h' → Q () (Sh c h' tk)) : wpAny (MM w) A (storeName env x v) Q E (Sh c h tk) := by
  have hg : h.get? a = some (CellW o v0) := (st.led _ hp.mem).1
  delta storeName
  rw [hl, st.fk]
  refine wpAny_bind (wpAny_cellOf ha ?_)
  delta cellSet
  refine wpAny_bind (wpAny_load (s := Sh c h tk) hg ?_)
  have e : (h.update a fun o => { o with data := .cell (some v) }).get? a = some (CellW o (some v)) := by
    rw [Heap.get?_update_self (fun o => { o with data := .cell (some v) }) hg rfl]
  exact wpAny_update (s := Sh c h tk) hg (q _ (st.write hp (Heap.SameBut.update ..) e (noTup_cell hg)))
end
section
variable {w : World} {A : Around} {E : Value → Shared → Prop} {c : Shared} {h : Heap} {tk : Nat}
theorem enterCC {fd : FuncData} {a : Addr} {body : List Stmt} {pos : List Value} {binds : List (Str × Value)} {Q : Value → Shared → Prop} (ok : FnOk a fd) (hb : fd.body = .stmts body) (kp : KeepR w h) (hbind : BindsTo (Sh c h tk) fd ⟨pos, []⟩ binds)
    (hloc : ∀ L, (binds.all fun x => fd.scope.names.lookup x.1 == some .local || (fd.scope.names.lookup x.1 == some .cell && ((cellsFrom (L + 1) fd.scope.names []).lookup x.1).isSome)) = true) (hd : A.depth < 900)
    (k : ∀ L h₁ tk₁, InCallC (Sh c h tk) L (bindL (callEnvC fd L a).kindOf binds fun _ => none) (callEnvC fd L a).cells (bindC (callEnvC fd L a).kindOf binds fun _ => none) (Sh c h₁ tk₁) → h.get? L = none →
      wpC (MM w) (A.deeper (callEnvC fd L a)) (execs body (callEnvC fd L a)) (fun f s' => Q (retV f) s') NoE (Sh c h₁ tk₁)) :
    wpC (MM w) A (call (.ref a) pos []) Q E (Sh c h tk) := by
  refine wpC_callDef ok hb kp hbind hd ?_
  rw [ok.clos]
  refine wpAny_newFunctionEnv_cells ok.kind (fun x hx => ?_) (fun env he s' x => ?_)
  · rcases Bool.or_eq_true_iff.mp (List.all_eq_true.mp (hloc h.objs.size) x hx) with h1 | h1
    · exact .inl (eq_of_beq h1)
    · exact .inr ((Bool.and_eq_true_iff.mp h1).imp_left eq_of_beq)
  · subst he
    obtain ⟨h₁, tk₁, e1⟩ := x.toInCall.same
    subst e1
    exact ⟨((hh_nolimit w.params).keeps kp).keeps x.toInCall.keep, k h.objs.size h₁ tk₁ x fresh_none⟩
theorem InCallC.st {fd : FuncData} {a L : Addr} {m cm : Str → Option Value} {h₁ : Heap} {tk₁ : Nat} (ok : FnOk a fd) (kp : KeepR w h) (x : InCallC (Sh c h tk) L m (callEnvC fd L a).cells cm (Sh c h₁ tk₁)) (hL : h.get? L = none)
    (hnd : ((callEnvC fd L a).cells.map (·.1)).Nodup) :
    ∃ ob : Addr → Obj, St w (callEnvC fd L a) h [] ((callEnvC fd L a).cells.map fun p => (p.2, CellW (ob p.2) (cm p.1))) [] h₁ := by
  have key : ∀ p ∈ (callEnvC fd L a).cells, ∃ o, h₁.get? p.2 = some (CellW o (cm p.1)) := fun p hp => by
    have hlk : (callEnvC fd L a).cells.lookup p.1 = some p.2 := lookup_of_memA (x := p.1) (v := p.2) hp hnd
    obtain ⟨o, ho, hd⟩ := x.cell _ _ hlk
    obtain ⟨c1, c2, c3, c4⟩ := o
    simp only at hd
    subst hd
    exact ⟨⟨c1, c2, .cell none, c4⟩, ho⟩
  refine ⟨fun b => match h₁.get? b with | some o => o | none => default, kp, x.toInCall.keep, ok.kind, ok.glob, ok.blt, ⟨m, x.toInCall.ns, fun p hp => nomatch hp⟩, by simp, hL, fun p hp => ?_, ?_, fun r hr => nomatch hr⟩
  · obtain ⟨q, hq, rfl⟩ := List.mem_map.mp hp
    obtain ⟨o, ho⟩ := key q hq
    refine ⟨by simp only [ho], ?_⟩
    cases e : h.get? q.2 with
    | none => rfl
    | some o' =>
      have h1 := Heap.lt_size e
      have h2 := x.above q.1 q.2 hq
      have h3 := x.toInCall.fresh
      exact absurd (Nat.lt_of_lt_of_le h1 (show h.objs.size ≤ L from h3)) (Nat.not_lt.mpr (Nat.le_of_lt h2))
  · rw [List.map_map]
    refine List.nodup_cons.mpr ⟨fun hm => ?_, ?_⟩
    · obtain ⟨q, hq, e⟩ := List.mem_map.mp hm
      have := x.above q.1 q.2 hq
      have e' : q.2 = L := e
      rw [e'] at this
      exact Nat.lt_irrefl _ this
    · have hp := x.apart
      exact List.Pairwise.map _ (fun a b h => h) hp
end
noncomputable abbrev Cl (L : Addr) (ob : Addr → Obj) (k : Nat) (v : Option Value) : Addr × Obj := (L + k, CellW (ob (L + k)) v)
theorem PutA.cell {L : Addr} {ob : Addr → Obj} {k : Nat} {v v' : Option Value} {r : List (Addr × Obj)} : PutA (L + k) (CellW (ob (L + k)) v) (CellW (ob (L + k)) v') (Cl L ob k v :: r) (Cl L ob k v' :: r) := .here
end
section
noncomputable def sliceL {α : Type} (zs : List α) (lo hi st : Option Int) : List α :=
  (sliceRange (sliceBounds lo hi st zs.length).1 (sliceBounds lo hi st zs.length).2.1 (sliceBounds lo hi st zs.length).2.2).filterMap (zs[·]?)
theorem pick_eq {us : List Value} {lo hi st : Option Int} : slicePick us.toArray lo hi st = (sliceL us lo hi st).toArray := by
  unfold slicePick sliceL
  simp
theorem slice_ints {us : List Value} {zs : List Int} (hi : IntsAre us zs) (lo up st : Option Int) : IntsAre (sliceL us lo up st) (sliceL zs lo up st) := by
  unfold sliceL
  rw [hi.length]
  generalize sliceRange _ _ _ = ks
  induction ks with
  | nil => exact .nil
  | cons k ks ih =>
    rw [List.filterMap_cons, List.filterMap_cons]
    rcases Nat.lt_or_ge k zs.length with h | h
    · obtain ⟨t, ht⟩ := ints_at hi (List.getElem?_eq_getElem h)
      rw [ht, List.getElem?_eq_getElem h]
      exact .cons _ _ ih
    · rw [List.getElem?_eq_none h, List.getElem?_eq_none (by rw [hi.length]; exact h)]
      exact ih
theorem fresh_get {h : Heap} {a : Addr} (ha : h.objs.size ≤ a) : h.get? a = none := by
  cases e : h.get? a with
  | none => rfl
  | some o => exact absurd (Heap.lt_size e) (Nat.not_lt.mpr ha)
section
variable {w : World} {env : Env} {h₀ h h' : Heap} {vs : List (Str × Value)} {ns : List (Addr × Obj)} {rs : List (Value × D)} {A : Around} {E : Value → Shared → Prop} {c : Shared} {tk : Nat}
theorem r_slice3 {lower upper : Option Expr} {step : Expr} {p : Pos} {Q : Value → Shared → Prop} (q : wpAny (MM w) A (evalPart lower env) (fun l s₁ => wpAny (MM w) A (evalPart upper env) (fun u s₂ => wpAny (MM w) A (eval step env) (fun st s₃ => ∃ h₂ tk₂, s₃ = Sh c h₂ tk₂ ∧ Q (.ref h₂.objs.size) (Sh c (h₂.push { cls := .type "slice", data := .fields #[l, u, st] }) tk₂)) E s₂) E s₁) E (Sh c h tk)) :
    wpAny (MM w) A (eval (.Slice lower upper (some step) p) env) Q E (Sh c h tk) := by
  refine wpAny_Slice (wpAny_mono q (fun l s₁ q₁ => wpAny_mono q₁ (fun u s₂ q₂ => wpAny_mono q₂ (fun st s₃ q₃ => ?_) fun _ _ x => x) fun _ _ x => x) fun _ _ x => x)
  obtain ⟨h₂, tk₂, rfl, q⟩ := q₃
  exact q
theorem r_sliceL {value slice : Expr} {l : Addr} {us : List Value} {vl vu : Value} {lo hi : Option Int} {Q : Value → Shared → Prop} (st : St w env h₀ vs ns rs h) (hl : h.IsList l us.toArray) (pl : IsPart vl lo) (pu : IsPart vu hi) (hsz : us.length < 100000)
    (hs : subscripted slice false (.ref l) (.ref h.objs.size) = operate [.ref h.objs.size, .ref l] (getItem (.ref l) (.ref h.objs.size)))
    (q : ∀ a h', St w env h₀ vs ((a, LO (sliceL us lo hi none) 0) :: ns) rs h' → Q (.ref a) (Sh c h' tk)) :
    wpAny (MM w) A (subscriptTail value slice (.ref l) (.ref h.objs.size)) Q E (Sh c (h.push { cls := .type "slice", data := .fields #[vl, vu, .none] }) tk) := by
  obtain ⟨m, hb, F, N⟩ := st.fr
  refine r_any (PyProof.Rows.slice_list (s := Sh c h tk) F N hl pl pu (fun h' F' N' => ?_) hs (fun _ => rfl) (by rw [sizeLine_eq, List.size_toArray]; (first | lia | omega)))
  rw [pick_eq] at N'
  exact q _ h' (st.ofFr1 hb F' N' (fresh_get (Nat.le_succ _)))
theorem r_sliceL3 {value slice : Expr} {l : Addr} {us : List Value} {vl vu vk : Value} {lo hi k : Option Int} {Q : Value → Shared → Prop} (st : St w env h₀ vs ns rs h) (hl : h.IsList l us.toArray) (pl : IsPart vl lo) (pu : IsPart vu hi) (pk : IsPart vk k) (h0 : k ≠ some 0) (hsz : us.length < 100000)
    (hs : subscripted slice false (.ref l) (.ref h.objs.size) = operate [.ref l, .ref h.objs.size] (getItem (.ref l) (.ref h.objs.size)))
    (q : ∀ a h', St w env h₀ vs ((a, LO (sliceL us lo hi k) 0) :: ns) rs h' → Q (.ref a) (Sh c h' tk)) :
    wpAny (MM w) A (subscriptTail value slice (.ref l) (.ref h.objs.size)) Q E (Sh c (h.push { cls := .type "slice", data := .fields #[vl, vu, vk] }) tk) := by
  obtain ⟨m, hb, F, N⟩ := st.fr
  refine r_any (PyProof.Rows.slice_list3 (s := Sh c h tk) F N hl pl pu pk h0 (fun h' F' N' => ?_) hs (fun _ => rfl) (by rw [sizeLine_eq, List.size_toArray]; (first | lia | omega)))
  rw [pick_eq] at N'
  exact q _ h' (st.ofFr1 hb F' N' (fresh_get (Nat.le_succ _)))
theorem r_sum {l : Addr} {us : List Value} {zs : List Int} {Q : Value → Shared → Prop} (st : St w env h₀ vs ns rs h) (hA : A.handled = none) (hl : h.IsList l us.toArray) (hi : IntsAre us zs)
    (q : ∀ h' t tk', St w env h₀ vs ns rs h' → Q (.int zs.sum t) (Sh c h' tk')) : wpAny (MM w) A (call (.builtin "sum") [.ref l] []) Q E (Sh c h tk) := by
  obtain ⟨m, hb, F, N⟩ := st.fr
  exact PyProof.Rows.LSm.sum_ints (s := Sh c h tk) F N hA hl hi fun h' tk' t' F' N' => q h' t' tk' (st.ofFr hb F' N')
end
end
section
theorem It.weaken {w : World} {A : Around} {I : Addr} {fx : List (Addr × Obj)} {n : Nat} {P P' : Nat → Value → Prop} {itP : Nat → Obj → Prop} (W : It w A I fx n P itP) (k : ∀ i v, P i v → P' i v) : It w A I fx n P' itP where
  ntup := W.ntup
  self := W.self
  item := fun i s o Q E hi ho hg hf q => W.item i s o Q E hi ho hg hf fun v h' tk o' p => q v h' tk o' (k _ _ p)
  done := W.done
theorem It.range0 {w : World} {A : Around} (hA : A.handled = none) {I : Addr} {n : Nat} : It w A I [] n (fun i v => ∃ u, v = .int (i : Int) u) (fun i o => o = RIt (0 + (i : Int) * 1) ((n : Int) - (i : Int)) 1) :=
  (It.range hA).weaken fun i v ⟨u, e⟩ => ⟨u, by rw [e]; congr 1; (first | lia | omega)⟩
theorem rep_at {h : Heap} : ∀ {ys : List Value} {ds : List D}, (∀ r ∈ ys.zip ds, Rep h r.1 r.2) → ys.length = ds.length → ∀ {k : Nat} {d : D}, ds[k]? = some d → ∃ v, ys[k]? = some v ∧ Rep h v d
  | [], [], _, _, k, d, e => by simp at e
  | y :: ys, x :: ds, hr, hl, 0, d, e => by
    simp only [List.getElem?_cons_zero, Option.some.injEq] at e
    exact ⟨y, rfl, by rw [← e]; exact hr (y, x) (.head _)⟩
  | y :: ys, x :: ds, hr, hl, k + 1, d, e => by
    simp only [List.getElem?_cons_succ] at e ⊢
    exact rep_at (ys := ys) (ds := ds) (fun r hm => hr r (.tail _ hm)) (by simpa using hl) e
section
variable {w : World} {env : Env} {h₀ h h' : Heap} {vs vs' : List (Str × Value)} {ns : List (Addr × Obj)} {rs : List (Value × D)} {A : Around} {E : Value → Shared → Prop} {c : Shared} {tk : Nat}
noncomputable def gz {α : Type} (l : List α) (pz : α → Bool) (i : Nat) : Bool := match l[i]? with | some x => pz x | none => false
noncomputable def gd {α : Type} (l : List α) (f : α → D) (i : Nat) : D := match l[i]? with | some x => f x | none => .none
theorem gz_gd {α : Type} (pz : α → Bool) (f : α → D) : ∀ l : List α, ((List.range l.length).filter (gz l pz)).map (gd l f) = (l.filter pz).map f
  | [] => rfl
  | x :: l => by
    have ih := gz_gd pz f l
    have e1 : ∀ L : List Nat, ((L.map Nat.succ).filter (gz (x :: l) pz)).map (gd (x :: l) f) = (L.filter (gz l pz)).map (gd l f) := fun L => by
      induction L with
      | nil => rfl
      | cons k L ih =>
        have g1 : gz (x :: l) pz k.succ = gz l pz k := rfl
        have g2 : gd (x :: l) f k.succ = gd l f k := rfl
        rw [List.map_cons, List.filter_cons, List.filter_cons, g1]
        cases gz l pz k with
        | true => simp only [if_true, List.map_cons, ih, g2]
        | false => simp only [Bool.false_eq_true, if_false, ih]
    rw [List.length_cons, List.range_succ_eq_map, List.filter_cons, List.filter_cons]
    have g0 : gz (x :: l) pz 0 = pz x := rfl
    have d0 : gd (x :: l) f 0 = f x := rfl
    rw [g0]
    cases pz x with
    | true => simp only [if_true, List.map_cons, e1, ih, d0]
    | false => simp only [Bool.false_eq_true, if_false, e1, ih]
theorem gz_len {α : Type} (pz : α → Bool) (f : α → D) (l : List α) : ((List.range l.length).filter (gz l pz)).length = (l.filter pz).length := by
  have := congrArg List.length (gz_gd pz f l)
  simpa using this
noncomputable def CompQ (w : World) (A : Around) (c : Shared) (env : Env) (scope : Scope) (cl : List (Str × Addr)) (xn : Str) (elt : Expr) (ifs : List Expr) (base : Heap) {α : Type} (l : List α) (V : α → Value → Prop) (pz : α → Bool) (f : α → D) : Prop :=
  ∀ x v C I oI D' ys m rs' h tk, x ∈ l → V x v → St w (compEnvC scope cl C env) base [(xn, v)] [(I, oI), (D', LO ys m)] rs' h →
    ∀ T : Bool → Shared → Prop, Imp (CmpT w A c (compEnvC scope cl C env) base xn v [(I, oI), (D', LO ys m)] rs' elt (pz x) (f x)) T → wpAny (MM w) A (Tests ifs (compEnvC scope cl C env)) T NoE (Sh c h tk)
theorem CompQ.T {scope : Scope} {cl : List (Str × Addr)} {xn : Str} {elt : Expr} {ifs : List Expr} {base : Heap} {α : Type} {l : List α} {V : α → Value → Prop} {pz : α → Bool} {f : α → D} (q : CompQ w A c env scope cl xn elt ifs base l V pz f) :
    CompT w A c env scope cl xn elt ifs base l.length (fun i v => ∃ x, l[i]? = some x ∧ V x v) (gz l pz) (gd l f) := fun i v C I oI D' ys m h tk hi hP st => by
  obtain ⟨x, hx, hv⟩ := hP
  have e1 : gz l pz i = pz x := by unfold gz; rw [hx]
  have e2 : gd l f i = f x := by unfold gd; rw [hx]
  rw [e1, e2]
  exact q x v C I oI D' ys m _ h tk (List.mem_of_getElem? hx) hv st
inductive CompI (w : World) (A : Around) (c : Shared) (env : Env) (h₀ : Heap) (vs : List (Str × Value)) (ns : List (Addr × Obj)) (rs : List (Value × D)) (scope : Scope) (cl : List (Str × Addr)) (xn : Str) (elt : Expr) (ifs : List Expr) {α : Type} (l : List α) (V : α → Value → Prop) (pz : α → Bool) (f : α → D) (Q : Value → Shared → Prop) (it : Value) (s₂ : Shared) : Prop
  | mk (base : Heap) (oI : Obj) (tk₂ : Nat) (fx : List (Addr × Obj)) (itP : Nat → Obj → Prop) (q0 : it = .ref base.objs.size) (q1 : s₂ = Sh c (base.push oI) tk₂) (q2 : It w A base.objs.size fx l.length (fun i v => ∃ x, l[i]? = some x ∧ V x v) itP) (q3 : itP 0 oI) (q4 : oI.isFreed = false) (q5 : (∀ p ∈ fx, base.get? p.1 = some p.2)) (q6 : St w env h₀ vs ns rs base) (q7 : CompQ w A c env scope cl xn elt ifs base l V pz f) (q8 : (∀ D' h' tk' ys m, St w env h₀ vs ((D', LO ys m) :: ns) (ys.zip ((l.filter pz).map f) ++ rs) h' → Ext base h' → base.get? D' = none → ys.length = (l.filter pz).length → Q (.ref D') (Sh c h' tk'))) : CompI w A c env h₀ vs ns rs scope cl xn elt ifs l V pz f Q it s₂
theorem r_compF {α : Type} (l : List α) (V : α → Value → Prop) (pz : α → Bool) (f : α → D) {xn : Str} {px : Pos} {elt iter : Expr} {ifs : List Expr} {scope : Scope} {cl : List (Str × Addr)} {pos : Pos} {Q : Value → Shared → Prop} {hx0 : Heap} (st0 : St w env h₀ vs ns rs hx0)
    (hclos : closureFor scope env = Pure.pure cl) (hcell : (scope.names.all fun y => y.2 != .cell) = true) (hkind : scope.kind = .function) (hnames : (scope.names.all fun y => y.2 != .local || scope.names.lookup y.1 == some .local) = true) (hx : scope.names.lookup xn = some .local)
    (hs : ∀ x, foldedSetIterable iter env x = Pure.pure x) (hn : l.length < 100000)
    (q : ∀ T : Value → Shared → Prop, Imp (CompI w A c env h₀ vs ns rs scope cl xn elt ifs l V pz f Q) T → wpAny (MM w) A (eval iter env) (fun xv s₁ => wpAny (MM w) A (pyIter xv) T E s₁) E (Sh c h tk)) :
    wpAny (MM w) A (eval (.ListComp elt [⟨.Name xn px, iter, ifs, 0⟩] scope pos) env) Q E (Sh c h tk) := by
  refine r_comp st0 hclos hcell hkind hnames hx hs (fun T i => wpAny_mono (q _ (Imp.refl _)) (fun xv s₁ q₁ => wpAny_mono q₁ (fun it s₂ q₂ => i.use _ _ ?_) fun _ _ x => x) fun _ _ x => x)
  obtain ⟨base, oI, tk₂, fx, itP, e1, e2, W, ho, hfr, hfx, st, turn, fin⟩ := q₂
  refine ⟨base, oI, tk₂, l.length, fx, _, itP, gz l pz, gd l f, e1, e2, W, ho, hfr, hfx, hn, st, turn.T, fun D' h' tk' ys m st' k hD hl => ?_⟩
  rw [gz_gd] at st'
  rw [gz_len pz f] at hl
  exact fin D' h' tk' ys m st' k hD hl
inductive CompIA (w : World) (A : Around) (c : Shared) (env : Env) (h₀ : Heap) (vs : List (Str × Value)) (ns : List (Addr × Obj)) (rs : List (Value × D)) (scope : Scope) (cl : List (Str × Addr)) (xn : Str) (y : Str) (elt : Expr) (ifs : List Expr) {α : Type} (l : List α) (V : α → Value → Prop) (pz : α → Bool) (f : α → D) (Q : Flow → Shared → Prop) (it : Value) (s₂ : Shared) : Prop
  | mk (base : Heap) (oI : Obj) (tk₂ : Nat) (fx : List (Addr × Obj)) (itP : Nat → Obj → Prop) (q0 : it = .ref base.objs.size) (q1 : s₂ = Sh c (base.push oI) tk₂) (q2 : It w A base.objs.size fx l.length (fun i v => ∃ x, l[i]? = some x ∧ V x v) itP) (q3 : itP 0 oI) (q4 : oI.isFreed = false) (q5 : (∀ p ∈ fx, base.get? p.1 = some p.2)) (q6 : St w env h₀ vs ns rs base) (q7 : CompQ w A c env scope cl xn elt ifs base l V pz f) (q8 : (∀ (D' : Addr) (h' : Heap) (ys : List Value) (m : Nat), St w env h₀ vs ((D', LO ys m) :: ns) (ys.zip ((l.filter pz).map f) ++ rs) h' → ys.length = (l.filter pz).length →
        ∃ vs', PutN y (.ref D') vs vs' ∧ ∀ h'' tk'', St w env h₀ vs' ((D', LO ys m) :: ns) (ys.zip ((l.filter pz).map f) ++ rs) h'' → Q .next (Sh c h'' tk''))) : CompIA w A c env h₀ vs ns rs scope cl xn y elt ifs l V pz f Q it s₂
theorem r_compFA {α : Type} (l : List α) (V : α → Value → Prop) (pz : α → Bool) (f : α → D) {xn y : Str} {px py : Pos} {elt iter : Expr} {ifs : List Expr} {scope : Scope} {cl : List (Str × Addr)} {pos spos : Pos} {Q : Flow → Shared → Prop} {hx0 : Heap} (st0 : St w env h₀ vs ns rs hx0)
    (hsw : swapsWith (.ListComp elt [⟨.Name xn px, iter, ifs, 0⟩] scope pos) (some (.Name y py)) spos.line env = Pure.pure true)
    (hclos : closureFor scope env = Pure.pure cl) (hcell : (scope.names.all fun y => y.2 != .cell) = true) (hkind : scope.kind = .function) (hnames : (scope.names.all fun y => y.2 != .local || scope.names.lookup y.1 == some .local) = true) (hx : scope.names.lookup xn = some .local)
    (hy : env.kindOf y = some .local) (hs : ∀ x, foldedSetIterable iter env x = Pure.pure x) (hn : l.length < 100000)
    (q : ∀ T : Value → Shared → Prop, Imp (CompIA w A c env h₀ vs ns rs scope cl xn y elt ifs l V pz f Q) T → wpAny (MM w) A (eval iter env) (fun xv s₁ => wpAny (MM w) A (pyIter xv) T E s₁) E (Sh c h tk)) :
    wpAny (MM w) A (exec (.Assign [.Name y py] (.ListComp elt [⟨.Name xn px, iter, ifs, 0⟩] scope pos) spos) env) Q E (Sh c h tk) := by
  refine r_compAssign st0 hsw hclos hcell hkind hnames hx hy hs (fun T i => wpAny_mono (q _ (Imp.refl _)) (fun xv s₁ q₁ => wpAny_mono q₁ (fun it s₂ q₂ => i.use _ _ ?_) fun _ _ x => x) fun _ _ x => x)
  obtain ⟨base, oI, tk₂, fx, itP, e1, e2, W, ho, hfr, hfx, st, turn, fin⟩ := q₂
  refine ⟨base, oI, tk₂, l.length, fx, _, itP, gz l pz, gd l f, e1, e2, W, ho, hfr, hfx, hn, st, turn.T, fun D' h' ys m st' hl => ?_⟩
  rw [gz_gd] at st'
  rw [gz_len pz f] at hl
  obtain ⟨vs', p, k⟩ := fin D' h' ys m st' hl
  refine ⟨vs', p, fun h'' tk'' st'' => k h'' tk'' ?_⟩
  rw [gz_gd] at st''
  exact st''
theorem it_list (hA : A.handled = none) {I a : Addr} {us : List Value} {m : Nat} {α : Type} {l : List α} {V : α → Value → Prop} (hl : us.length = l.length) (hv : ∀ (i : Nat) (x : α) (v : Value), l[i]? = some x → us[i]? = some v → V x v) :
    It w A I [(a, LO us m)] l.length (fun i v => ∃ x, l[i]? = some x ∧ V x v) (fun i o => o.cls = .type "list_iterator" ∧ o.data = .fields #[.ref a, .int i 0]) := by
  rw [← hl]
  refine (It.list hA rfl rfl).weaken fun i v e => ?_
  have hi : i < l.length := by rw [← hl]; exact (List.getElem?_eq_some_iff.mp e).1
  exact ⟨l[i], List.getElem?_eq_getElem hi, hv i _ v (List.getElem?_eq_getElem hi) e⟩
theorem it_range (hA : A.handled = none) {I : Addr} {n : Nat} :
    It w A I [] (List.range n).length (fun i v => ∃ x : Nat, (List.range n)[i]? = some x ∧ ∃ u, v = .int (x : Int) u) (fun i o => o = RIt (0 + (i : Int) * 1) ((n : Int) - (i : Int)) 1) := by
  have W := It.range0 (w := w) hA (I := I) (n := n)
  rw [List.length_range]
  exact ⟨W.ntup, W.self, fun i s o Q E hi ho hg hf q => W.item i s o Q E hi ho hg hf fun v h' tk o' ⟨u, e⟩ => q v h' tk o' ⟨i, by rw [List.getElem?_range hi], u, e⟩, W.done⟩
theorem v_ints {us : List Value} {zs : List Int} (hi : IntsAre us zs) : ∀ (i : Nat) (x : Int) (v : Value), zs[i]? = some x → us[i]? = some v → ∃ t, v = Value.int x t := fun i x v e1 e2 => by
  obtain ⟨t, e⟩ := ints_at hi e1
  rw [e] at e2; cases e2; exact ⟨t, rfl⟩
noncomputable abbrev LIt (a : Addr) : Obj := { cls := .type "list_iterator", data := .fields #[.ref a, .int 0 0] }
theorem r_iterL {a : Addr} {us : List Value} {m : Nat} {Q : Value → Shared → Prop} (hg : h.get? a = some (LO us m)) (q : Q (.ref h.objs.size) (Sh c (h.push (LIt a)) tk)) : wpAny (MM w) A (pyIter (.ref a)) Q E (Sh c h tk) :=
  wpAny_pyIter_list (s := Sh c h tk) ⟨_, hg, rfl, m, rfl⟩ q
theorem strs_of_reps : ∀ {h : Heap} {ys : List Value} {zs : List Str}, ys.length = zs.length → (∀ r ∈ ys.zip (zs.map D.str), Rep h r.1 r.2) → StrsAre ys zs
  | h, [], [], _, _ => .nil
  | h, y :: ys, z :: zs, hl, hr => by
    have h1 := hr (y, .str z) (.head _)
    have h2 := strs_of_reps (ys := ys) (zs := zs) (by simpa using hl) fun r hm => hr r (.tail _ hm)
    cases h1
    exact .cons _ _ h2
theorem filter_tt {α : Type} (l : List α) : l.filter (fun _ => true) = l := by simp
end
end
section
theorem triples_snoc {x y : Int} {t u : Tok} {c : Value} (l : List Value) (h : TriplesOk l) : TriplesOk (l ++ [.int x t, .int y u, c]) := by
  fun_induction TriplesOk l with
  | case1 => simp [TriplesOk]
  | case2 _ _ _ _ _ rest ih => exact ih h
  | case3 => exact h.elim
theorem among_snoc {pos : Pos} {x y : Int} {t u : Tok} {c v : Value} (l : List Value) (h : TriplesOk l) (e : codeAmong pos (l ++ [.int x t, .int y u, c]) = some v) : codeAmong pos l = some v ∨ v = c := by
  fun_induction TriplesOk l with
  | case1 =>
    simp only [List.nil_append, codeAmong] at e
    split at e
    · cases e; exact .inr rfl
    · cases e
  | case2 a b d f g rest ih =>
    simp only [List.cons_append, codeAmong] at e ⊢
    split at e
    · rename_i hc
      rw [if_pos hc]; exact .inl e
    · rename_i hc
      rw [if_neg hc]; exact ih h e
  | case3 => exact h.elim
noncomputable def CodeO (qual : Str) (oc : Obj) : Prop := ∃ vs t, oc.data = .fields vs ∧ vs[1]? = some (.str qual t)
noncomputable def TabOk (qual : Str) (ps : Array Value) (cs : List (Addr × Obj)) : Prop := TriplesOk ps.toList ∧ (∀ pos v, codeAmong pos ps.toList = some v → ∃ p ∈ cs, v = .ref p.1 ∧ CodeO qual p.2) ∧ ∀ p ∈ cs, CodeO qual p.2
theorem TabOk.nil {qual : Str} : TabOk qual #[] [] := ⟨trivial, (fun _ _ e => by cases e), fun _ hp => nomatch hp⟩
section
variable {w : World} {env : Env} {h₀ h h' : Heap} {vs vs' : List (Str × Value)} {ns ns' : List (Addr × Obj)} {rs : List (Value × D)} {A : Around} {E : Value → Shared → Prop} {c : Shared} {tk : Nat} {x : Str}
theorem enterLam {f : Addr} {fd : FuncData} {o : Obj} {body : Expr} {pos : List Value} {binds : List (Str × Value)} {Q : Value → Shared → Prop} (kp : KeepR w h) (ho : h.get? f = some o) (hdat : o.data = .func fd) (hb : fd.body = .expr body)
    (hcd : h.CodeRec fd.code fd.qualname) (hco : fd.scope.isCoroutine = false) (hgen : fd.scope.isGenerator = false) (hkind : fd.scope.kind = .function) (hglob : fd.globals = mainGlobals) (hblt : fd.builtins = builtinsNs) (hbind : BindsTo (Sh c h tk) fd ⟨pos, []⟩ binds)
    (hcell : (fd.scope.names.all fun x => x.2 != .cell) = true) (hloc : (binds.all fun x => fd.scope.names.lookup x.1 == some .local) = true) (hnd : keyB binds = true) (hd : A.depth < 900)
    (k : ∀ L h₁ tk₁, St w (callEnv fd L f) h binds [] [] h₁ → wpAny (MM w) (A.deeper (callEnv fd L f)) (eval body (callEnv fd L f)) Q NoE (Sh c h₁ tk₁)) :
    wpAny (MM w) A (call (.ref f) pos []) Q E (Sh c h tk) := by
  refine wpAny_call (kla_callFunE (fd := fd) (body := body) (by have : recursionLimit = 1000 := rfl; (first | lia | omega)) ho hdat hco hgen hb hcd (hbind _ _ _ _ (wpAny_newFunctionEnv (fun x hx => ?_) (fun x hx => ?_) (fun h₁ hns hsb => ?_) hkind)))
  · have := List.all_eq_true.mp hcell x hx
    simpa using this
  · have := List.all_eq_true.mp hloc x hx
    simpa using this
  · have hk : Ext h h₁ := fun b o e => hsb.extBut b o (Nat.ne_of_lt (Heap.lt_size e)) (Heap.get?_push_of_some _ e)
    refine ⟨((hh_nolimit w.params).keeps kp).keeps hk, kla_codeExpr (wpAny_mono (k _ h₁ _ ⟨kp, hk, hkind, hglob, hblt, ⟨_, hns, fun p hp => ?_⟩, keyB_nd hnd, ?_, fun _ hp => (nomatch hp), by simp, fun _ hr => (nomatch hr)⟩) (fun v s' q => q) fun _ _ y => y.elim)⟩
    · refine lookup_of_mem (by simpa using hp) ?_
      rw [List.map_reverse]
      exact List.pairwise_reverse.mpr (List.Pairwise.imp (fun h e => h e.symm) (keyB_nd hnd))
    · cases e : h.get? (callEnv fd (Sh c h tk).heap.objs.size f).locals with
      | none => rfl
      | some o' => exact absurd (Heap.lt_size e) (Nat.lt_irrefl _)
theorem hl_code (kp : KeepR w h) : CodeHd h codA tabA := by
  have e : h.get? codA = some (oG_186 w.params) := kp _ _ (by kernel_rfl!)
  refine ⟨_, _, _, _, _, _, _, _, _, e, rfl, rfl, rfl, rfl, rfl, rfl, rfl, rfl, by decide⟩
theorem hl_blt (kp : KeepR w h) : h.BuiltinsAt (fun x => nsFind (globE w.params) x) tabA := by
  refine ⟨_, _, (by kernel_rfl! : nsFind (globE w.params) (Str.ofString "__builtins__") = some (.ref 4)), by decide, by decide, by decide, kp 4 (boot_o_4 w.params) (by kernel_rfl!), ?_, ?_, ?_⟩ <;> kernel_rfl!
end
section
variable {w : World} {env : Env} {h₀ h h' : Heap} {vs vs' : List (Str × Value)} {ns ns' : List (Addr × Obj)} {rs : List (Value × D)} {A : Around} {E : Value → Shared → Prop} {c : Shared} {tk : Nat} {x : Str}
theorem St.writeX {a : Addr} {o o' : Obj} (st : St w env h₀ vs ns rs h) (p : PutA a o o' ns ns') (hs : Heap.ExtBut a h h') (hg : h'.get? a = some o') (hb : ∀ items, ¬ IsTup h a items) : St w env h₀ vs ns' rs h' := by
  have d := List.nodup_cons.mp st.dis
  have hm := p.mem
  have ha := st.led _ hm
  have hl : env.locals ≠ a := fun e => d.1 (e ▸ List.mem_map_of_mem (f := (·.1)) hm)
  obtain ⟨m, ml, mv⟩ := st.loc
  refine ⟨st.kp, fun b ob e => ?_, st.fk, st.eg, st.eb, ⟨m, ml.extBut hs hl, mv⟩, st.nd, st.old, fun q hq => ?_, ?_, fun r hr => (st.rep r hr).mono fun b items x => ?_⟩
  · have : b ≠ a := fun e' => by rw [e', ha.2] at e; cases e
    exact hs b ob this (st.keep b ob e)
  · rcases p.split d.2 q hq with rfl | ⟨e1, e2⟩
    · exact ⟨hg, ha.2⟩
    · exact ⟨hs _ _ e2 (st.led q e1).1, (st.led q e1).2⟩
  · rw [p.keys]; exact st.dis
  · have hba : b ≠ a := fun e => hb items (e ▸ x)
    obtain ⟨o1, h1, h2⟩ := x
    exact ⟨o1, hs _ _ hba h1, h2⟩
theorem St.admit {a : Addr} {o : Obj} (st : St w env h₀ vs ns rs h) (hg : h.get? a = some o) (h0 : h₀.get? a = none) (hl : env.locals ≠ a) (hn : a ∉ ns.map (·.1)) (hp : ns'.Perm ((a, o) :: ns)) : St w env h₀ vs ns' rs h := by
  have d := List.nodup_cons.mp st.dis
  refine { st with led := fun p hm => ?_, dis := ?_ }
  · rcases List.mem_cons.mp (hp.mem_iff.mp hm) with rfl | hm
    · exact ⟨hg, h0⟩
    · exact st.led p hm
  · have hq : (ns'.map (·.1)).Perm (a :: ns.map (·.1)) := hp.map _
    refine List.nodup_cons.mpr ⟨fun hm => ?_, hq.nodup_iff.mpr (List.nodup_cons.mpr ⟨hn, d.2⟩)⟩
    rcases List.mem_cons.mp (hq.mem_iff.mp hm) with e | hm
    · exact hl e
    · exact d.1 hm
theorem putA_app {a : Addr} {o o' : Obj} {r : List (Addr × Obj)} : ∀ pre : List (Addr × Obj), PutA a o o' (pre ++ (a, o) :: r) (pre ++ (a, o') :: r)
  | [] => .here
  | _ :: l => .there (putA_app l)
theorem r_lambda {params : Arguments} {body : Expr} {scope : Scope} {pos : Pos} {clos : List (Str × Addr)} {ps : Array Value} {cs : List (Addr × Obj)} {Q : Value → Shared → Prop} (pre : List (Addr × Obj)) (st : St w env h₀ vs (pre ++ (tabA, tabObj ps) :: cs) rs h)
    (T : TabOk (env.qual ++ Str.ofString "<lambda>") ps cs) (hcode : env.code = .ref codA) (hdef : defaultsOf params env = ([], [])) (hcl : closureFor scope env = Pure.pure clos)
    (q : ∀ f pm c' ctv oc ps' cs' h' tk', TabOk (env.qual ++ Str.ofString "<lambda>") ps' cs' → (c', oc) ∈ cs' → CodeO (env.qual ++ Str.ofString "<lambda>") oc →
      St w env h₀ vs ((f, kla_obj "<lambda>" (env.qual ++ Str.ofString "<lambda>") params body scope clos pm c' ctv) :: (pre ++ (tabA, tabObj ps') :: cs')) rs h' → Q (.ref f) (Sh c h' tk')) :
    wpAny (MM w) A (eval (.Lambda params body scope pos) env) Q E (Sh c h tk) := by
  refine kla_eval hdef ?_
  have hP : h.get? tabA = some (tabObj ps) := (st.led (tabA, tabObj ps) (List.mem_append_right _ (.head _))).1
  have hg := (hh_glob w.params).keeps st.kph
  cases hf : codeAmong pos ps.toList with
  | some cv =>
    refine kla_makeFunctionHit (s := Sh c h tk) hcl st.eg hg hcode (hl_code st.kph) hP T.1 hf (hl_blt st.kph) fun ctv h' tk' k _ => ?_
    obtain ⟨⟨c', oc⟩, hm, rfl, hco⟩ := T.2.1 pos cv hf
    exact q _ _ c' ctv oc ps cs _ _ T hm hco ((st.ext k).alloc rfl)
  | none =>
    refine kla_makeFunction (s := Sh c h tk) hcl st.eg hg hcode (hl_code st.kph) hP T.1 hf (by decide) (hl_blt st.kph) fun c' ctv h' tk' hx hge hlt hrec htb => ?_
    obtain ⟨c₂, oc, us, t, e2, hoc, hd, hv⟩ := hrec
    cases e2
    have hnt : ∀ items, ¬ IsTup h tabA items := noTup_of hP (fun e => by cases e)
    have st1 := st.writeX (putA_app pre) hx htb hnt
    have hc0 : h.get? c' = none := by
      cases e : h.get? c' with
      | none => rfl
      | some o => exact absurd (Heap.lt_size e) (Nat.not_lt.mpr hge)
    have st2 : St w env h₀ vs (pre ++ (tabA, tabObj (ps ++ #[rawInt pos.line, rawInt pos.col, .ref c'])) :: (c', oc) :: cs) rs h' := by
      refine st1.admit (a := c') (o := oc) hoc ?_ ?_ ?_ ?_
      · cases e : h₀.get? c' with
        | none => rfl
        | some o => rw [st.keep _ _ e] at hc0; cases hc0
      · intro e
        obtain ⟨m, ⟨o, _, _, ho, _⟩, _⟩ := st.loc
        rw [e, hc0] at ho; cases ho
      · intro hm
        have hk : (pre ++ (tabA, tabObj (ps ++ #[rawInt pos.line, rawInt pos.col, .ref c'])) :: cs).map (·.1) = (pre ++ (tabA, tabObj ps) :: cs).map (·.1) := by simp
        rw [hk] at hm
        obtain ⟨p, hp, e⟩ := List.mem_map.mp hm
        have := (st.led p hp).1
        rw [e, hc0] at this; cases this
      · refine (List.Perm.append_left pre (List.Perm.swap _ _ _)).trans ?_
        exact List.perm_middle
    have T' : TabOk (env.qual ++ Str.ofString "<lambda>") (ps ++ #[rawInt pos.line, rawInt pos.col, .ref c']) ((c', oc) :: cs) := by
      refine ⟨?_, fun pos' v e => ?_, fun p hp => ?_⟩
      · rw [Array.toList_append]; exact triples_snoc _ T.1
      · rw [Array.toList_append] at e
        rcases among_snoc _ T.1 e with e | rfl
        · obtain ⟨p, hp, r⟩ := T.2.1 pos' v e
          exact ⟨p, .tail _ hp, r⟩
        · exact ⟨_, .head _, rfl, us, t, hd, hv⟩
      · rcases List.mem_cons.mp hp with rfl | hp
        · exact ⟨us, t, hd, hv⟩
        · exact T.2.2 p hp
    exact q _ _ c' ctv oc _ _ _ _ T' (.head _) ⟨us, t, hd, hv⟩ (st2.alloc rfl)
end
inductive Part {α : Type} : List α → List α → List α → Prop
  | left {p : α} {r a b : List α} : Part r a b → Part (p :: r) (p :: a) b
  | right {p : α} {r a b : List α} : Part r a b → Part (p :: r) a (p :: b)
  | rest {r : List α} : Part r [] r
theorem Part.map {α β : Type} (f : α → β) {r a b : List α} (p : Part r a b) : Part (r.map f) (a.map f) (b.map f) := by
  induction p with
  | left _ ih => exact .left ih
  | right _ ih => exact .right ih
  | rest => exact .rest
theorem Part.memL {α : Type} {r a b : List α} (p : Part r a b) : ∀ x ∈ a, x ∈ r := by
  induction p with
  | left _ ih => exact fun x hx => (List.mem_cons.mp hx).elim (fun e => e ▸ .head _) fun hx => .tail _ (ih x hx)
  | right _ ih => exact fun x hx => .tail _ (ih x hx)
  | rest => exact fun x hx => nomatch hx
theorem Part.sub {α : Type} {r a b : List α} (p : Part r a b) : b.Sublist r := by
  induction p with
  | left _ ih => exact .cons _ ih
  | right _ ih => exact .cons₂ _ ih
  | rest => exact .refl _
theorem Part.disj {α : Type} {r a b : List α} (p : Part r a b) : r.Nodup → ∀ x ∈ a, x ∉ b := by
  induction p with
  | left p ih => exact fun n x hx hb => (List.mem_cons.mp hx).elim (fun e => (List.nodup_cons.mp n).1 (p.sub.subset (e ▸ hb))) fun hx => ih (List.nodup_cons.mp n).2 x hx hb
  | right p ih => exact fun n x hx hb => (List.mem_cons.mp hb).elim (fun e => (List.nodup_cons.mp n).1 (p.memL _ (e ▸ hx))) fun hb => ih (List.nodup_cons.mp n).2 x hx hb
  | rest => exact fun _ x hx => nomatch hx
noncomputable def NoT (o : Obj) : Prop := o.cls ≠ .type "tuple" ∨ ∀ vs n, o.data ≠ .seq vs n
theorem NoT.not {o : Obj} {h : Heap} {a : Addr} (x : NoT o) (hg : h.get? a = some o) : ∀ items, ¬ IsTup h a items := fun items ⟨o', ho', hc', k, hd⟩ => by
  rw [hg] at ho'; cases ho'
  rcases x with x | x
  · exact x hc'
  · exact x _ _ hd
theorem NoT.cell {o : Obj} {v : Option Value} : NoT (CellW o v) := .inr fun _ _ e => by cases e
theorem NoT.code {q : Str} {o : Obj} (x : CodeO q o) : NoT o := .inr fun _ _ e => by obtain ⟨vs, t, hd, _⟩ := x; rw [hd] at e; cases e
theorem NoT.list {us : List Value} {m : Nat} : NoT (LO us m) := .inl (show Value.type "list" ≠ .type "tuple" by decide)
section
variable {w : World} {env : Env} {h₀ h : Heap} {vs : List (Str × Value)} {ns mv ns' : List (Addr × Obj)} {rs : List (Value × D)}
theorem St.freeze (st : St w env h₀ vs ns rs h) (hp : Part ns mv ns') (hn : ∀ p ∈ ns', NoT p.2) :
    ∃ base, St w env base vs ns' rs h ∧ (∀ p ∈ mv, base.get? p.1 = some p.2) ∧ (∀ r ∈ rs, Rep base r.1 r.2) ∧ Ext h₀ base ∧ Ext base h := by
  obtain ⟨base, hb1, hb2⟩ := strip (env.locals :: ns'.map (·.1)) h
  have hs := hp.sub
  have d := List.nodup_cons.mp st.dis
  have hx : Ext base h := fun b o e => by
    by_cases hm : b ∈ env.locals :: ns'.map (·.1)
    · rw [hb1 b hm] at e; cases e
    · rw [← hb2 b hm]; exact e
  have h0 : Ext h₀ base := fun b o e => by
    have hm : b ∉ env.locals :: ns'.map (·.1) := fun hm => by
      rcases List.mem_cons.mp hm with rfl | hm
      · rw [st.old] at e; cases e
      · obtain ⟨p, hp, rfl⟩ := List.mem_map.mp hm
        rw [(st.led p (hs.subset hp)).2] at e; cases e
    rw [hb2 b hm]; exact st.keep b o e
  have hr : Tups h base := fun a items ht => by
    have hm : a ∉ env.locals :: ns'.map (·.1) := fun hm => by
      rcases List.mem_cons.mp hm with rfl | hm
      · obtain ⟨m, hl, _⟩ := st.loc
        exact ns_noTup hl items ht
      · obtain ⟨p, hp, rfl⟩ := List.mem_map.mp hm
        exact (hn p hp).not (st.led p (hs.subset hp)).1 items ht
    obtain ⟨o, ho, r⟩ := ht
    exact ⟨o, (hb2 a hm).trans ho, r⟩
  refine ⟨base, ⟨fun b o e => h0 b o (st.kp b o e), hx, st.fk, st.eg, st.eb, st.loc, st.nd, hb1 _ (.head _), fun p hp => ⟨(st.led p (hs.subset hp)).1, hb1 _ (.tail _ (List.mem_map_of_mem hp))⟩, ?_, st.rep⟩, fun p hm => ?_, fun r hm => (st.rep r hm).mono hr, h0, hx⟩
  · exact st.dis.sublist (.cons₂ _ (hs.map _))
  · have hk : p.1 ∉ env.locals :: ns'.map (·.1) := fun hk => by
      rcases List.mem_cons.mp hk with e | hk
      · exact d.1 (e ▸ List.mem_map_of_mem (hp.memL _ hm))
      · exact (hp.map (·.1)).disj d.2 p.1 (List.mem_map_of_mem hm) hk
    rw [hb2 _ hk]; exact (st.led p (hp.memL p hm)).1
end
section
variable {w : World} {env : Env} {A : Around} {E : Value → Shared → Prop}
theorem c_consD {st : Stmt} {Q : Flow → Shared → Prop} {s : Shared} (B : List Stmt) (K : Nat) (h : B[K]? = some st)
    (q : wpC (MM w) A (exec st env) (Flo (wpC (MM w) A (execs (B.drop (K + 1)) env) Q E) Q) E s) :
    wpC (MM w) A (execs (B.drop K) env) Q E s := by
  obtain ⟨hk, e⟩ := List.getElem?_eq_some_iff.mp h
  rw [List.drop_eq_getElem_cons hk, e]
  exact c_cons q
end
end
local macro_rules | `(tactic| walk_at "M.puta") => `(tactic| with_reducible first | exact PutA.cell | exact PutA.here | (apply PutA.there; walk_at "M.puta"))
local macro_rules | `(tactic| walk_at "M.e") => `(tactic| first
  | with_reducible first
    | (refine' is_name ?_; apply r_cell; assumption; kernel_rfl!; assumption; walk_at "M.mem"; kernel_rfl!)
    | (refine' is_store ?_; apply r_cellStore; assumption; kernel_rfl!; assumption; walk_at "M.puta"; intro _ _)
    | refine' r_slice3 ?_
  | ((with_reducible refine' is_name ?_); (with_reducible apply r_cellB); (with_reducible assumption); kernel_rfl!; assumption; (with_reducible assumption); kernel_rfl!)
  | fail)
section
noncomputable def fdLaw : FuncData := { name := (@PySem.Str.ofString "law"), qualname := (@PySem.Str.ofString "law"), params := prmAt 23, body := .stmts (bdyAt 23), scope := scpAt 23, globals := 3, closure := [], defaults := @PySem.Value.none, kwdefaults := @PySem.Value.none, doc := @PySem.Value.none, pyModule := (@PySem.Value.str (@PySem.Str.ofString "law_wb0081_01") 2311), annotations := (@Option.none @Nat), code := (@PySem.Value.ref 186), closureTuple := @PySem.Value.none, builtins := 0 }
theorem okLaw : FnOk 187 fdLaw := ⟨fun P => ⟨oG_187 P, by kernel_rfl!, rfl⟩, fun P => ⟨186, oG_186 P, _, _, rfl, by kernel_rfl!, rfl, rfl⟩, by kernel_rfl!, by kernel_rfl!, by kernel_rfl!, rfl, rfl, rfl⟩
noncomputable abbrev envL (L : Addr) : Env := callEnvC fdLaw L 187
theorem cellsL (L : Addr) : (envL L).cells = ([("turns", L + 11), ("states", L + 10), ("count", L + 9), ("done", L + 8), ("order", L + 7), ("amounts", L + 6), ("covers", L + 5), ("items", L + 4), ("k", L + 3), ("cells", L + 2), ("script", L + 1)] : List (Str × Addr)) := by kernel_rfl!
noncomputable abbrev CL (L : Addr) (ob : Addr → Obj) (v_turns v_states v_count v_done v_order v_amounts v_covers v_items v_k v_cells v_script : Option Value) (tl : List (Addr × Obj)) : List (Addr × Obj) := Cl L ob 11 v_turns:: Cl L ob 10 v_states:: Cl L ob 9 v_count:: Cl L ob 8 v_done:: Cl L ob 7 v_order:: Cl L ob 6 v_amounts:: Cl L ob 5 v_covers:: Cl L ob 4 v_items:: Cl L ob 3 v_k:: Cl L ob 2 v_cells:: Cl L ob 1 v_script :: tl
noncomputable abbrev AL (L : Addr) : Around := callerA.deeper (callEnvC fdLaw L 187)
theorem len_cons {α : Type} {n : Nat} {l : List α} (h : l.length = n + 1) : ∃ a r, l = a :: r ∧ r.length = n := by
  cases l with
  | nil => cases h
  | cons a r => exact ⟨a, r, rfl, Nat.succ.inj h⟩
section
variable {w : World} {c : Shared} {h : Heap} {tk : Nat}
theorem ph_a {l : Addr} {us : List Value} {zs : List Int} {Q : Value → Shared → Prop} (kp0 : KeepP w h) (hl0 : h.IsList l us.toArray) (hi : IntsAre us zs) (hn : zs.length ≤ 63)
    (k : ∀ L h' tk' ob a5 u5 m5 vl c0 c1 c2 c3 c4 c5 c6 c7, IntsAre u5 [c0, c1, c2, c3, c4, c5, c6, c7] → St w (envL L) (h.hide tabA) [] ((a5, LO u5 m5) :: CL L ob none none none none none none none none none (some (.ref a5)) (some vl) [(tabA, tabObj #[])]) [] h' →
      wpC (MM w) (AL L) (execs ((bdyAt 23).drop 2) (envL L)) (fun f s' => Q (retV f) s') NoE (Sh c h' tk')) : wpC (MM w) callerA (call (.ref 187) [.ref l] []) Q NoE (Sh c h tk) := by
  have kp := kp0.r
  refine enterCC (body := bdyAt 23) (binds := [("script", .ref l)]) okLaw rfl kp (BindsTo.of_eq (by kernel_rfl!)) (fun L => by kernel_rfl!) (by decide) ?_
  intro L h₁ tk₁ x hL
  obtain ⟨ob, st⟩ := InCallC.st okLaw kp x hL (by rw [cellsL]; simp only [List.map_cons, List.map_nil]; decide +kernel)
  have e : ((callEnvC fdLaw L 187).cells.map fun p => (p.2, CellW (ob p.2) (bindC (callEnvC fdLaw L 187).kindOf [(Str.ofString "script", Value.ref l)] (fun _ => none) p.1))) = CL L ob none none none none none none none none none none (some (.ref l)) [] := by kernel_rfl!
  rw [e] at st
  clear e x
  have hlt : l ≠ tabA := fun e => by
    obtain ⟨o, e1, e2, _⟩ := hl0
    rw [e, kp0.tab] at e1; cases e1; cases e2
  have hl : (h.hide tabA).IsList l us.toArray := let ⟨o, e1, e2⟩ := hl0; ⟨o, (Heap.hide_ne h hlt).trans e1, e2⟩
  have st := st.rebase kp0.hide (fun b o e => Heap.of_hide e) (fl := [(tabA, tabObj #[])]) (fun p hp => by rw [List.mem_singleton.mp hp]; exact ⟨kp0.tab, Heap.hide_self h tabA⟩) (by simp)
  replace st : St w (envL L) (h.hide tabA) [] (CL L ob none none none none none none none none none none (some (.ref l)) [(tabA, tabObj #[])]) [] _ := st
  have c_turns : (callEnvC fdLaw L 187).cells.lookup (Str.ofString "turns") = some (L + 11) := by kernel_rfl!
  have c_states : (callEnvC fdLaw L 187).cells.lookup (Str.ofString "states") = some (L + 10) := by kernel_rfl!
  have c_count : (callEnvC fdLaw L 187).cells.lookup (Str.ofString "count") = some (L + 9) := by kernel_rfl!
  have c_done : (callEnvC fdLaw L 187).cells.lookup (Str.ofString "done") = some (L + 8) := by kernel_rfl!
  have c_order : (callEnvC fdLaw L 187).cells.lookup (Str.ofString "order") = some (L + 7) := by kernel_rfl!
  have c_amounts : (callEnvC fdLaw L 187).cells.lookup (Str.ofString "amounts") = some (L + 6) := by kernel_rfl!
  have c_covers : (callEnvC fdLaw L 187).cells.lookup (Str.ofString "covers") = some (L + 5) := by kernel_rfl!
  have c_items : (callEnvC fdLaw L 187).cells.lookup (Str.ofString "items") = some (L + 4) := by kernel_rfl!
  have c_k : (callEnvC fdLaw L 187).cells.lookup (Str.ofString "k") = some (L + 3) := by kernel_rfl!
  have c_cells : (callEnvC fdLaw L 187).cells.lookup (Str.ofString "cells") = some (L + 2) := by kernel_rfl!
  have c_script : (callEnvC fdLaw L 187).cells.lookup (Str.ofString "script") = some (L + 1) := by kernel_rfl!
  have hA : (callerA.deeper (callEnvC fdLaw L 187)).handled = none := rfl
  refine c_consD (bdyAt 23) 0 rfl (wpC_of ?_)
  repeat' (walk_at "M.x")
  refine ⟨_, _, _, _, _, _, _, rfl, by simp, st, ?_⟩
  intro h2 a2 st2 k2
  repeat' (walk_at "M.x")
  obtain ⟨u1, hu1, st3⟩ : ∃ u1, IntsAre u1 [73644, 24989, 101202, 48043, 66236, 100, 25, 30] ∧ St w (callEnvC fdLaw L 187) (h.hide tabA) [] ((a2, LO u1 0) :: CL L ob none none none none none none none none none (some (.ref a2)) (some (.ref l)) [(tabA, tabObj #[])]) [] _ := ⟨_, .cons _ _ (.cons _ _ (.cons _ _ (.cons _ _ (.cons _ _ (.cons _ _ (.cons _ _ (.cons _ _ .nil))))))), ‹_›⟩
  have hus : us.length < 100000 := by rw [hi.length]; (first | lia | omega)
  refine c_consD (bdyAt 23) 1 rfl (wpC_of ?_)
  refine r_assign (by kernel_rfl!) ?_
  have hL8 : ([73644, 24989, 101202, 48043, 66236, 100, 25, 30] : List Int).length = 8 := rfl
  generalize hB8 : ([73644, 24989, 101202, 48043, 66236, 100, 25, 30] : List Int) = B8 at hu1 hL8
  refine r_compF (List.range 8) (fun i v => ∃ u, v = Value.int (i : Int) u) (fun _ => true) (fun i => .int (B8.getD i 0 + (sliceL zs (some (i : Int)) none (some 8)).sum)) (cl := [("script", L + 1), ("cells", L + 2)]) st3 (by kernel_rfl!) (by kernel_rfl!) (by kernel_rfl!) (by kernel_rfl!) (by kernel_rfl!) (fun _ => rfl) (by decide) ?_
  intro Tq iTq
  repeat' (walk_at "M.x")
  refine r_rng1 (n := 8) (by decide) fun h4 tk4 k4 => ?_
  have st4 := st3.ext k4
  have g_cells : h4.get? (L + 2) = some (CellW (ob (L + 2)) (some (.ref a2))) := st4.get (by walk_at "M.mem")
  have g_script : h4.get? (L + 1) = some (CellW (ob (L + 1)) (some (.ref l))) := st4.get (by walk_at "M.mem")
  have g_a2 : h4.get? a2 = some (LO u1 0) := st4.get (.head _)
  have n_cells : List.lookup (Str.ofString "cells") ([("script", L + 1), ("cells", L + 2)] : List (Str × Addr)) = some (L + 2) := by kernel_rfl!
  have n_script : List.lookup (Str.ofString "script") ([("script", L + 1), ("cells", L + 2)] : List (Str × Addr)) = some (L + 1) := by kernel_rfl!
  refine iTq.use _ _ ⟨_, _, _, [], _, rfl, rfl, it_range hA, RIt_0 _ _ _, rfl, (fun _ hp => nomatch hp), st4, ?_, ?_⟩
  · rintro i v C I oI D' ys m rs' h5 tk5 hi8 ⟨t6, rfl⟩ st5
    have hi8 : i < 8 := List.mem_range.mp hi8
    refine fun Tt iTt => t_none (iTt.use _ _ ⟨rfl, _, _, rfl, st5, fun _ Tv iTv => ?_⟩)
    repeat' (walk_at "M.x")
    have hk8 : B8[i]? = some (B8.getD i 0) := by
      rw [List.getD_eq_getElem?_getD, List.getElem?_eq_getElem (by (first | lia | omega))]; rfl
    refine r_itemI (k := i) (st5.keep _ _ g_a2) hu1 rfl hk8 (by (first | lia | omega)) (by kernel_rfl!) fun t7 => ?_
    repeat' (walk_at "M.x")
    refine ⟨_, _, rfl, ?_⟩
    refine r_sliceL3 (lo := some (i : Int)) (hi := none) (k := some 8) st5 (isList_ext (isList_ext hl st4.keep) st5.keep) (.int _ _) .none (.int _ _) (by decide) hus (by kernel_rfl!) fun a8 h8 st8 => ?_
    repeat' (walk_at "M.x")
    refine r_sum st8 hA (lo_isList (st8.led _ (.head _)).1) (slice_ints hi _ _ _) fun h9 t9 tk9 st9 => ?_
    repeat' (walk_at "M.x")
    exact iTv.use _ _ ⟨_, _, rfl, st9.drop1, .int _ _⟩
  intro a5 h5 tk5 u5 m5 st5 k5 hn5 hl5
  clear g_cells g_script g_a2 n_cells n_script
  rw [filter_tt] at st5 hl5
  obtain ⟨cs, hcs, hcl⟩ : ∃ cs : List Int, ((List.range 8).map fun i => D.int (B8.getD i 0 + (sliceL zs (some (i : Int)) none (some 8)).sum)) = cs.map D.int ∧ cs.length = 8 := ⟨(List.range 8).map fun i => B8.getD i 0 + (sliceL zs (some (i : Int)) none (some 8)).sum, by rw [List.map_map]; rfl, by simp⟩
  rw [hcs, List.append_nil] at st5
  have hu5 : IntsAre u5 cs := ints_of_reps (h := h5) (by rw [hl5, hcl]; rfl) st5.rep
  have st6 := st5.dropReps.ledSub (ns' := (a5, LO u5 m5) :: CL L ob none none none none none none none none none (some (.ref a2)) (some (.ref l)) [(tabA, tabObj #[])]) (.cons₂ _ (.cons _ (.refl _)))
  clear st5 st4 st3 hcs hu1 hL8 hB8 st2
  repeat' (walk_at "M.x")
  clear hl5
  obtain ⟨c0, c1, c2, c3, c4, c5, c6, c7, rfl⟩ : ∃ c0 c1 c2 c3 c4 c5 c6 c7, cs = [c0, c1, c2, c3, c4, c5, c6, c7] := by
    obtain ⟨c0, r0, rfl, e0⟩ := len_cons hcl
    obtain ⟨c1, r1, rfl, e1⟩ := len_cons e0
    obtain ⟨c2, r2, rfl, e2⟩ := len_cons e1
    obtain ⟨c3, r3, rfl, e3⟩ := len_cons e2
    obtain ⟨c4, r4, rfl, e4⟩ := len_cons e3
    obtain ⟨c5, r5, rfl, e5⟩ := len_cons e4
    obtain ⟨c6, r6, rfl, e6⟩ := len_cons e5
    obtain ⟨c7, r7, rfl, e7⟩ := len_cons e6
    rw [List.eq_nil_of_length_eq_zero e7]
    exact ⟨_, _, _, _, _, _, _, _, rfl⟩
  rename_i st7
  exact k L _ _ ob _ _ _ _ _ _ _ _ _ _ _ _ hu5 st7
end
end
section
section
variable {w : World} {c : Shared} {h : Heap} {tk : Nat}
theorem rmL (L : Addr) : Rm 60 (AL L) := by constructor <;> (show _ < _; unfold AL callerA Around.deeper; simp only [claimMargin]; decide)
noncomputable def dIt (d : Nat) : D := .tup [.str (S (typedF d).1), .str (S (typedF d).2)]
theorem ph_b {L : Addr} {ob : Addr → Obj} {a5 : Addr} {u5 : List Value} {m5 : Nat} {vl : Value} {tl : List (Addr × Obj)} {c0 c1 c2 c3 c4 c5 c6 c7 : Int} {Q : Flow → Shared → Prop} {h1 : Heap} (hu5 : IntsAre u5 [c0, c1, c2, c3, c4, c5, c6, c7])
    (st7 : St w (envL L) h [] ((a5, LO u5 m5) :: CL L ob none none none none none none none none none (some (.ref a5)) (some vl) tl) [] h1)
    (k : ∀ h' tk' (ds : List Nat) (x6 x7 : Int) aV uV mV aA uA mA aC uC mC aI uI mI a5 m5 vd ts, ds.length = 5 → (∀ d ∈ ds, d < 1000000) → 0 ≤ x6 → 0 ≤ x7 → ds.map (fun d => d / 33696 % 4) ++ [x6.toNat % 4, x7.toNat % 4] = ts →
      IntsAre uA [x6, x7] → StrsAre uC (ds.map fun d => S [unseenF (d / 1248 % 27)]) → uI.length = ds.length → IntsAre uV (ts.map fun n : Nat => (n : Int)) →
      St w (envL L) h [("drawn", vd)] ((aV, LO uV mV) :: (aA, LO uA mA) :: (aC, LO uC mC) :: (aI, LO uI mI) :: (a5, LO u5 m5) :: CL L ob (some (.ref aV)) none none none none (some (.ref aA)) (some (.ref aC)) (some (.ref aI)) none (some (.ref a5)) (some vl) tl) (uI.zip (ds.map dIt)) h' →
      wpC (MM w) (AL L) (execs ((bdyAt 23).drop 7) (envL L)) Q NoE (Sh c h' tk')) :
    wpC (MM w) (AL L) (execs ((bdyAt 23).drop 2) (envL L)) Q NoE (Sh c h1 tk) := by
  have c_turns : (callEnvC fdLaw L 187).cells.lookup (Str.ofString "turns") = some (L + 11) := by kernel_rfl!
  have c_states : (callEnvC fdLaw L 187).cells.lookup (Str.ofString "states") = some (L + 10) := by kernel_rfl!
  have c_count : (callEnvC fdLaw L 187).cells.lookup (Str.ofString "count") = some (L + 9) := by kernel_rfl!
  have c_done : (callEnvC fdLaw L 187).cells.lookup (Str.ofString "done") = some (L + 8) := by kernel_rfl!
  have c_order : (callEnvC fdLaw L 187).cells.lookup (Str.ofString "order") = some (L + 7) := by kernel_rfl!
  have c_amounts : (callEnvC fdLaw L 187).cells.lookup (Str.ofString "amounts") = some (L + 6) := by kernel_rfl!
  have c_covers : (callEnvC fdLaw L 187).cells.lookup (Str.ofString "covers") = some (L + 5) := by kernel_rfl!
  have c_items : (callEnvC fdLaw L 187).cells.lookup (Str.ofString "items") = some (L + 4) := by kernel_rfl!
  have c_k : (callEnvC fdLaw L 187).cells.lookup (Str.ofString "k") = some (L + 3) := by kernel_rfl!
  have c_cells : (callEnvC fdLaw L 187).cells.lookup (Str.ofString "cells") = some (L + 2) := by kernel_rfl!
  have c_script : (callEnvC fdLaw L 187).cells.lookup (Str.ofString "script") = some (L + 1) := by kernel_rfl!
  have hA : (AL L).handled = none := rfl
  have hrm : Rm 12 (AL L) := (rmL L).less (by decide)
  refine c_consD (bdyAt 23) 2 rfl (wpC_of ?_)
  refine r_compFA ([c0, c1, c2, c3, c4]) (fun z v => ∃ t, v = Value.int z t) (fun _ => true) (fun z => .int (z.fmod 1000000)) (cl := []) st7 (by kernel_rfl!) (by kernel_rfl!) (by kernel_rfl!) (by kernel_rfl!) (by kernel_rfl!) (by kernel_rfl!) (by kernel_rfl!) (fun _ => rfl) (by simp) ?_
  intro Tq iTq
  repeat' (walk_at "M.x")
  refine ⟨_, _, rfl, ?_⟩
  refine r_sliceL (lo := none) (hi := some 5) st7 (lo_isList (st7.led _ (.head _)).1) .none (.int _ _) (by rw [hu5.length]; simp) (by kernel_rfl!) fun a9 h9 st9 => ?_
  refine r_iterL (st9.led _ (.head _)).1 ?_
  have hs9 : IntsAre (sliceL u5 none (some 5) none) [c0, c1, c2, c3, c4] := slice_ints hu5 _ _ _
  refine iTq.use _ _ ⟨_, _, _, _, _, rfl, rfl, it_list hA hs9.length (v_ints hs9), ⟨rfl, rfl⟩, rfl, (fun p hp => by rw [List.mem_singleton.mp hp]; exact (st9.led _ (.head _)).1), st9.drop1, ?_, ?_⟩
  · rintro z v C I oI D' ys m rs' h5 tk5 - ⟨t6, rfl⟩ st5
    refine fun Tt iTt => t_none (iTt.use _ _ ⟨rfl, _, _, rfl, st5, fun _ Tv iTv => ?_⟩)
    repeat' (walk_at "M.x")
    exact iTv.use _ _ ⟨_, _, rfl, st5, .int _ _⟩
  rw [filter_tt]
  intro aD hD ud md stD hdl
  refine ⟨_, .new rfl, fun h10 tk10 st10 => ?_⟩
  obtain ⟨ds, hds, hd5, hdb⟩ : ∃ ds : List Nat, [c0, c1, c2, c3, c4].map (fun z : Int => D.int (z.fmod 1000000)) = (ds.map fun n : Nat => (n : Int)).map D.int ∧ ds.length = 5 ∧ ∀ d ∈ ds, d < 1000000 := by
    have hp : ∀ z : Int, ((z.fmod 1000000).toNat : Int) = z.fmod 1000000 ∧ (z.fmod 1000000).toNat < 1000000 := fun z => by
      have h1 := Int.fmod_nonneg_of_pos z (b := 1000000) (by decide)
      have h2 := Int.fmod_lt_of_pos z (b := 1000000) (by decide)
      (first | lia | omega)
    refine ⟨[c0, c1, c2, c3, c4].map fun z => (z.fmod 1000000).toNat, ?_, rfl, fun d hd => ?_⟩
    · simp only [List.map_cons, List.map_nil, (hp _).1]
    · obtain ⟨z, _, rfl⟩ := List.mem_map.mp hd
      exact (hp z).2
  rw [hds, List.append_nil] at st10
  have hud : IntsAre ud (ds.map fun n : Nat => (n : Int)) := ints_of_reps (h := h10) (by rw [hdl]; simp [hd5]) st10.rep
  have st11 := st10.dropReps
  clear stD st9 hs9 hds st10
  refine c_consD (bdyAt 23) 3 rfl (wpC_of ?_)
  refine r_assign (by kernel_rfl!) ?_
  refine r_compF ds (fun d v => ∃ t, v = Value.int (d : Int) t) (fun _ => true) dIt (cl := []) st11 (by kernel_rfl!) (by kernel_rfl!) (by kernel_rfl!) (by kernel_rfl!) (by kernel_rfl!) (fun _ => rfl) (by (first | lia | omega)) ?_
  intro Tq iTq
  repeat' (walk_at "M.x")
  refine r_iterL (st11.led _ (.head _)).1 ?_
  have hvd : ∀ (i : Nat) (x : Nat) (v : Value), ds[i]? = some x → ud[i]? = some v → ∃ t, v = Value.int (x : Int) t := fun i x v e1 e2 => v_ints hud i _ v (by rw [List.getElem?_map, e1]; rfl) e2
  have hudl : ud.length = ds.length := by rw [hud.length]; simp
  refine iTq.use _ _ ⟨_, _, _, _, _, rfl, rfl, it_list hA hudl hvd, ⟨rfl, rfl⟩, rfl, (fun p hp => by rw [List.mem_singleton.mp hp]; exact (st11.led _ (.head _)).1), st11, ?_, ?_⟩
  · rintro d v C I oI D' ys m rs' h5 tk5 hdm ⟨t6, rfl⟩ st5
    refine fun Tt iTt => t_none (iTt.use _ _ ⟨rfl, _, _, rfl, st5, fun _ Tv iTv => ?_⟩)
    repeat' (walk_at "M.x")
    refine can_f okTyped (St.kph ‹_›) (typed_call (n := 5) (St.kph ‹_›) (hrm.less (by decide)) (hdb _ hdm) ?_)
    intro h6 tk6 a6 t1 t2 k6 ht6
    exact iTv.use _ _ ⟨_, _, rfl, st5.ext k6, .tup ht6 (.cons (.str _ _) (.cons (.str _ _) .nil))⟩
  rw [filter_tt]
  intro aI hI tkI uI mI stI kI _ hIl
  repeat' (walk_at "M.x")
  rename_i st12
  rw [List.append_nil] at st12
  refine c_consD (bdyAt 23) 4 rfl (wpC_of ?_)
  refine r_assign (by kernel_rfl!) ?_
  refine r_compF ds (fun d v => ∃ t, v = Value.int (d : Int) t) (fun _ => true) (fun d => .str (S [unseenF (d / 1248 % 27)])) (cl := []) st12 (by kernel_rfl!) (by kernel_rfl!) (by kernel_rfl!) (by kernel_rfl!) (by kernel_rfl!) (fun _ => rfl) (by (first | lia | omega)) ?_
  intro Tq iTq
  repeat' (walk_at "M.x")
  refine r_iterL (st12.get (by walk_at "M.mem") : Heap.get? _ aD = some (LO ud md)) ?_
  refine iTq.use _ _ ⟨_, _, _, _, _, rfl, rfl, it_list hA hudl hvd, ⟨rfl, rfl⟩, rfl, (fun p hp => by rw [List.mem_singleton.mp hp]; exact st12.get (by walk_at "M.mem")), st12, ?_, ?_⟩
  · rintro d v C I oI D' ys m rs' h5 tk5 hdm ⟨t6, rfl⟩ st5
    refine fun Tt iTt => t_none (iTt.use _ _ ⟨rfl, _, _, rfl, st5, fun _ Tv iTv => ?_⟩)
    repeat' (walk_at "M.x")
    rw [show (d : Int).fdiv 1248 = ((d / 1248 : Nat) : Int) from fdiv_nat d 1248, show ((d / 1248 : Nat) : Int).fmod 27 = ((d / 1248 % 27 : Nat) : Int) from fmod_nat _ 27]
    refine can_f okUnseen (St.kph ‹_›) (unseen_call (n := 5) (St.kph ‹_›) (hrm.less (by decide)) (Nat.mod_lt _ (by decide)) ?_)
    intro h6 tk6 t1 k6
    exact iTv.use _ _ ⟨_, _, rfl, st5.ext k6, .str _ _⟩
  rw [filter_tt]
  intro aC hC tkC uC mC stC kC _ hCl
  repeat' (walk_at "M.x")
  rename_i st13
  have hCs : StrsAre uC (ds.map fun d => S [unseenF (d / 1248 % 27)]) := strs_of_reps (h := hC) (by rw [hCl]; simp) (fun r hr => stC.rep r (List.mem_append_left _ (by rw [List.map_map] at hr; exact hr)))
  have st13 := st13.repSub (rs' := uI.zip (ds.map dIt)) fun r hr => List.mem_append_right _ hr
  clear stC stI
  refine c_consD (bdyAt 23) 5 rfl (wpC_of ?_)
  refine r_assign (by kernel_rfl!) ?_
  repeat' (walk_at "M.x")
  refine r_itemI (k := 6) (st13.get (by walk_at "M.mem") : Heap.get? _ a5 = some (LO u5 m5)) hu5 rfl rfl (by simp) (by kernel_rfl!) fun t14 => ?_
  repeat' (walk_at "M.x")
  refine r_itemI (k := 7) (st13.get (by walk_at "M.mem") : Heap.get? _ a5 = some (LO u5 m5)) hu5 rfl rfl (by simp) (by kernel_rfl!) fun t15 => ?_
  repeat' (walk_at "M.x")
  refine ⟨_, _, _, _, _, _, _, rfl, by simp, st13, ?_⟩
  intro h14 aA st14 k14
  obtain ⟨uA, huA, st14⟩ : ∃ uA, IntsAre uA [if c6 < 0 then -c6 else c6, if c7 < 0 then -c7 else c7] ∧ St w (callEnvC fdLaw L 187) h _ ((aA, LO uA 0) :: _) _ _ := ⟨_, .cons _ _ (.cons _ _ .nil), st14⟩
  clear k14
  generalize hx6 : (if c6 < 0 then -c6 else c6) = x6 at huA
  generalize hx7 : (if c7 < 0 then -c7 else c7) = x7 at huA
  have x60 : 0 ≤ x6 := by rw [← hx6]; split <;> (first | lia | omega)
  have x70 : 0 ≤ x7 := by rw [← hx7]; split <;> (first | lia | omega)
  repeat' (walk_at "M.x")
  rename_i st15
  refine c_consD (bdyAt 23) 6 rfl (wpC_of ?_)
  refine r_assign (by kernel_rfl!) ?_
  refine r_binop ?_
  refine r_compF ds (fun d v => ∃ t, v = Value.int (d : Int) t) (fun _ => true) (fun d => .int ((d / 33696 % 4 : Nat) : Int)) (cl := []) st15 (by kernel_rfl!) (by kernel_rfl!) (by kernel_rfl!) (by kernel_rfl!) (by kernel_rfl!) (fun _ => rfl) (by (first | lia | omega)) ?_
  intro Tq iTq
  repeat' (walk_at "M.x")
  refine r_iterL (st15.get (by walk_at "M.mem") : Heap.get? _ aD = some (LO ud md)) ?_
  refine iTq.use _ _ ⟨_, _, _, _, _, rfl, rfl, it_list hA hudl hvd, ⟨rfl, rfl⟩, rfl, (fun p hp => by rw [List.mem_singleton.mp hp]; exact st15.get (by walk_at "M.mem")), st15, ?_, ?_⟩
  · rintro d v C I oI D' ys m rs' h5 tk5 hdm ⟨t6, rfl⟩ st5
    refine fun Tt iTt => t_none (iTt.use _ _ ⟨rfl, _, _, rfl, st5, fun _ Tv iTv => ?_⟩)
    repeat' (walk_at "M.x")
    refine iTv.use _ _ ⟨_, _, rfl, st5, ?_⟩
    rw [show (d : Int).fdiv 33696 = ((d / 33696 : Nat) : Int) from fdiv_nat d 33696, show ((d / 33696 : Nat) : Int).fmod 4 = ((d / 33696 % 4 : Nat) : Int) from fmod_nat _ 4]
    exact .int _ _
  rw [filter_tt]
  intro aT hT tkT uT mT stT kT _ hTl
  have hTi : IntsAre uT ((ds.map fun d => d / 33696 % 4).map fun n : Nat => (n : Int)) := ints_of_reps (h := hT) (by rw [hTl]; simp) (fun r hr => stT.rep r (List.mem_append_left _ (by rw [List.map_map, List.map_map] at hr; exact hr)))
  have st16 := stT.repSub (rs' := uI.zip (ds.map dIt)) fun r hr => List.mem_append_right _ hr
  clear stT kT st15 st14
  refine r_compF [x6, x7] (fun z v => ∃ t, v = Value.int z t) (fun _ => true) (fun z => .int (z.fmod 4)) (cl := []) st16 (by kernel_rfl!) (by kernel_rfl!) (by kernel_rfl!) (by kernel_rfl!) (by kernel_rfl!) (fun _ => rfl) (by simp) ?_
  intro Tq iTq
  repeat' (walk_at "M.x")
  refine r_iterL (st16.get (by walk_at "M.mem") : Heap.get? _ aA = some (LO uA 0)) ?_
  refine iTq.use _ _ ⟨_, _, _, _, _, rfl, rfl, it_list hA huA.length (v_ints huA), ⟨rfl, rfl⟩, rfl, (fun p hp => by rw [List.mem_singleton.mp hp]; exact st16.get (by walk_at "M.mem")), st16, ?_, ?_⟩
  · rintro z v C I oI D' ys m rs' h5 tk5 - ⟨t6, rfl⟩ st5
    refine fun Tt iTt => t_none (iTt.use _ _ ⟨rfl, _, _, rfl, st5, fun _ Tv iTv => ?_⟩)
    repeat' (walk_at "M.x")
    exact iTv.use _ _ ⟨_, _, rfl, st5, .int _ _⟩
  rw [filter_tt]
  intro aU hU tkU uU mU stU kU _ hUl
  have hUi : IntsAre uU ([x6.toNat % 4, x7.toNat % 4].map fun n : Nat => (n : Int)) := ints_of_reps (h := hU) (by rw [hUl]; simp) (fun r hr => stU.rep r (List.mem_append_left _ (by
    have e : ∀ z : Int, 0 ≤ z → ((z.toNat % 4 : Nat) : Int) = z.fmod 4 := fun z hz => by rw [← fmod_nat, Int.toNat_of_nonneg hz]; rfl
    simpa only [List.map_cons, List.map_nil, e _ x60, e _ x70] using hr)))
  have st17 := stU.repSub (rs' := uI.zip (ds.map dIt)) fun r hr => List.mem_append_right _ hr
  clear stU kU st16
  refine r_addLL st17 (lo_isList (st17.get (by walk_at "M.mem") : Heap.get? _ aT = some (LO uT mT))) (lo_isList (st17.get (by walk_at "M.mem") : Heap.get? _ aU = some (LO uU mU))) (by rw [hTl, hUl]; simp [hd5]) fun aV hV stV => ?_
  have hVi : IntsAre (uT ++ uU) ((ds.map (fun d => d / 33696 % 4) ++ [x6.toNat % 4, x7.toNat % 4]).map fun n : Nat => (n : Int)) := by
    rw [List.map_append]; exact IntsAre.append hTi hUi
  generalize hts : (ds.map (fun d => d / 33696 % 4) ++ [x6.toNat % 4, x7.toNat % 4]) = ts at hVi
  have hts7 : ts.length = 7 := by rw [← hts]; simp [hd5]
  have st18 := stV.ledSub (ns' := (aV, LO (uT ++ uU) 0) :: (aA, LO uA 0) :: (aC, LO uC mC) :: (aI, LO uI mI) :: (a5, LO u5 m5) :: CL L ob none none none none none (some (.ref aA)) (some (.ref aC)) (some (.ref aI)) none (some (.ref a5)) (some vl) tl) (.cons₂ _ (.cons _ (.cons _ (.cons₂ _ (.cons₂ _ (.cons₂ _ (.cons _ (.refl _))))))))
  clear stV st17 st13 st12 st11
  repeat' (walk_at "M.x")
  rename_i st19
  exact k _ _ ds x6 x7 _ _ _ _ _ _ _ _ _ _ _ _ _ _ _ ts hd5 hdb x60 x70 hts huA hCs hIl hVi st19
end
end
section
noncomputable def ocode (ts : List Nat) (a : Nat) : Int := 20 * ((ts.getD a 0 : Nat) : Int) + (if a % 2 = 0 then (a : Int) else -(a : Int))
noncomputable def OrdInv (ts : List Nat) (i : Nat) (zs : List Nat) : Prop := zs.Perm (List.range i) ∧ zs.Pairwise fun a b => ocode ts a < ocode ts b
theorem ordInv_zero (ts : List Nat) : OrdInv ts 0 [] := ⟨.nil, .nil⟩
theorem OrdInv.length {ts : List Nat} {i : Nat} {zs : List Nat} (h : OrdInv ts i zs) : zs.length = i := by rw [h.1.length_eq, List.length_range]
theorem OrdInv.lt {ts : List Nat} {i : Nat} {zs : List Nat} (h : OrdInv ts i zs) : ∀ a ∈ zs, a < i := fun a ha => List.mem_range.mp (h.1.mem_iff.mp ha)
theorem pairwise_ins {α : Type} {R : α → α → Prop} {zs : List α} {x : α} {r : Nat} (h : zs.Pairwise R) (h1 : ∀ a ∈ zs.take r, R a x) (h2 : ∀ b ∈ zs.drop r, R x b) : (zs.take r ++ x :: zs.drop r).Pairwise R := by
  have h' := h
  rw [← List.take_append_drop r zs, List.pairwise_append] at h'
  refine List.pairwise_append.mpr ⟨h'.1, List.pairwise_cons.mpr ⟨h2, h'.2.1⟩, fun a ha b hb => ?_⟩
  rcases List.mem_cons.mp hb with rfl | hb
  · exact h1 a ha
  · exact h'.2.2 a ha b hb
theorem perm_ins {i : Nat} {zs : List Nat} {r : Nat} (h : zs.Perm (List.range i)) : (zs.take r ++ i :: zs.drop r).Perm (List.range (i + 1)) := by
  refine List.perm_middle.trans ?_
  rw [List.take_append_drop, List.range_succ]
  exact (List.Perm.cons i h).trans (List.perm_append_singleton i _).symm
theorem ord_mono {ts : List Nat} {i : Nat} {zs : List Nat} (hi : i ≤ 7) (h : OrdInv ts i zs) {j k a b : Nat} (hjk : j ≤ k) (ha : zs[j]? = some a) (hb : zs[k]? = some b) : ts.getD a 0 ≤ ts.getD b 0 := by
  rcases Nat.eq_or_lt_of_le hjk with rfl | hlt
  · rw [ha] at hb; cases hb; exact Nat.le_refl _
  · obtain ⟨j1, e1⟩ := List.getElem?_eq_some_iff.mp ha
    obtain ⟨k1, e2⟩ := List.getElem?_eq_some_iff.mp hb
    have := List.pairwise_iff_getElem.mp h.2 j k j1 k1 hlt
    rw [e1, e2] at this
    have la := h.lt a (List.mem_of_getElem? ha)
    have lb := h.lt b (List.mem_of_getElem? hb)
    unfold ocode at this
    split at this <;> split at this <;> (first | lia | omega)
theorem ordR {ts : List Nat} {i : Nat} {zs : List Nat} {r : Nat} (hi : i < 7) (he : i % 2 = 0) (h : OrdInv ts i zs) {q : Nat → Bool} (hq : ∀ j a, zs[j]? = some a → q j = decide (ts.getD i 0 < ts.getD a 0)) (hc : Cut q 0 zs.length r) : OrdInv ts (i + 1) (zs.take r ++ i :: zs.drop r) := by
  refine ⟨perm_ins h.1, pairwise_ins h.2 (fun a ha => ?_) fun b hb => ?_⟩
  · obtain ⟨j, hj⟩ := List.getElem?_of_mem ha
    have hjr : j < r := by
      have := (List.getElem?_eq_some_iff.mp hj).1
      rw [List.length_take] at this; (first | lia | omega)
    rw [List.getElem?_take_of_lt hjr] at hj
    have h1 := hc.no j (Nat.zero_le _) hjr
    rw [hq j a hj, decide_eq_false_iff_not] at h1
    have la := h.lt a (List.mem_of_getElem? hj)
    unfold ocode
    rw [if_pos he]
    split <;> (first | lia | omega)
  · obtain ⟨j, hj⟩ := List.getElem?_of_mem hb
    rw [List.getElem?_drop] at hj
    have h1 := hc.yes (r + j) (by (first | lia | omega)) (List.getElem?_eq_some_iff.mp hj).1
    rw [hq _ b hj, decide_eq_true_eq] at h1
    have lb := h.lt b (List.mem_of_getElem? hj)
    unfold ocode
    rw [if_pos he]
    split <;> (first | lia | omega)
theorem ordL {ts : List Nat} {i : Nat} {zs : List Nat} {r : Nat} (hi : i < 7) (he : ¬ i % 2 = 0) (h : OrdInv ts i zs) {q : Nat → Bool} (hq : ∀ j a, zs[j]? = some a → (!q j) = decide (ts.getD a 0 < ts.getD i 0)) (hc : Cut q 0 zs.length r) : OrdInv ts (i + 1) (zs.take r ++ i :: zs.drop r) := by
  refine ⟨perm_ins h.1, pairwise_ins h.2 (fun a ha => ?_) fun b hb => ?_⟩
  · obtain ⟨j, hj⟩ := List.getElem?_of_mem ha
    have hjr : j < r := by
      have := (List.getElem?_eq_some_iff.mp hj).1
      rw [List.length_take] at this; (first | lia | omega)
    rw [List.getElem?_take_of_lt hjr] at hj
    have h1 := hc.no j (Nat.zero_le _) hjr
    have h2 := hq j a hj
    rw [h1] at h2
    have h3 := (decide_eq_true_eq.mp h2.symm)
    have la := h.lt a (List.mem_of_getElem? hj)
    unfold ocode
    rw [if_neg he]
    split <;> (first | lia | omega)
  · obtain ⟨j, hj⟩ := List.getElem?_of_mem hb
    rw [List.getElem?_drop] at hj
    have h1 := hc.yes (r + j) (by (first | lia | omega)) (List.getElem?_eq_some_iff.mp hj).1
    have h2 := hq _ b hj
    rw [h1] at h2
    have h3 := (decide_eq_false_iff_not.mp h2.symm)
    have lb := h.lt b (List.mem_of_getElem? hj)
    unfold ocode
    rw [if_neg he]
    split <;> (first | lia | omega)
theorem ord_uniq {α : Type} {R : α → α → Prop} (hirr : ∀ a b, R a b → ¬ R b a) : ∀ {xs ys : List α}, xs.Perm ys → xs.Pairwise R → ys.Pairwise R → xs = ys
  | [], ys, p, _, _ => p.nil_eq
  | x :: xs, [], p, _, _ => absurd p.length_eq (by simp)
  | x :: xs, y :: ys, p, hx, hy => by
    have hx' := List.pairwise_cons.mp hx
    have hy' := List.pairwise_cons.mp hy
    have e : x = y := by
      rcases List.mem_cons.mp (p.mem_iff.mp (List.mem_cons_self (a := x))) with e | e
      · exact e
      · rcases List.mem_cons.mp (p.mem_iff.mpr (List.mem_cons_self (a := y))) with e' | e'
        · exact e'.symm
        · exact absurd (hx'.1 y e') (hirr _ _ (hy'.1 x e))
    subst e
    rw [ord_uniq hirr (p.cons_inv) hx'.2 hy'.2]
theorem ints_take : ∀ {us : List Value} {zs : List Int} (k : Nat), IntsAre us zs → IntsAre (us.take k) (zs.take k)
  | _, _, 0, _ => .nil
  | _, _, _ + 1, .nil => .nil
  | _, _, k + 1, .cons n t h => .cons n t (ints_take k h)
theorem ints_drop : ∀ {us : List Value} {zs : List Int} (k : Nat), IntsAre us zs → IntsAre (us.drop k) (zs.drop k)
  | _, _, 0, h => h
  | _, _, _ + 1, .nil => .nil
  | _, _, k + 1, .cons n t h => ints_drop k h
theorem ints_ins {us : List Value} {zs : List Nat} {r i : Nat} {t : Tok} (h : IntsAre us (zs.map fun n : Nat => (n : Int))) : IntsAre (us.take r ++ .int (i : Int) t :: us.drop r) ((zs.take r ++ i :: zs.drop r).map fun n : Nat => (n : Int)) := by
  rw [List.map_append, List.map_cons, List.map_take, List.map_drop]
  exact IntsAre.append (ints_take r h) (.cons _ _ (ints_drop r h))
inductive TT (key : Nat → Int) (N : Nat) {α : Type} (Q : α → Prop) : KasT α → Prop
  | ret {a : α} : Q a → TT key N Q (.ret a)
  | ask {i j : Nat} {k : Bool → KasT α} : i < N → j < N → TT key N Q (k (decide (key i < key j))) → TT key N Q (.ask i j k)
theorem TT.mono {key : Nat → Int} {N : Nat} {α : Type} {Q Q' : α → Prop} (hq : ∀ a, Q a → Q' a) {t : KasT α} (x : TT key N Q t) : TT key N Q' t := by
  induction x with
  | ret h => exact .ret (hq _ h)
  | ask a b _ ih => exact .ask a b ih
theorem TT.bind {key : Nat → Int} {N : Nat} {α β : Type} {Q : β → Prop} {f : α → KasT β} {t : KasT α} (x : TT key N (fun a => TT key N Q (f a)) t) : TT key N Q (t.bind f) := by
  induction x with
  | ret h => exact h
  | ask a b _ ih => exact .ask a b ih
theorem TT.wp {key : Nat → Int} {N : Nat} {α : Type} {cmp : Nat → Nat → (Bool → Shared → Prop) → Shared → Prop} {I : Shared → Prop} (hc : ∀ i j (C : Bool → Shared → Prop) s, i < N → j < N → I s → (∀ s', I s' → C (decide (key i < key j)) s') → cmp i j C s) {Q : α → Prop} {R : α → Shared → Prop}
    (hq : ∀ a s, Q a → I s → R a s) {t : KasT α} (x : TT key N Q t) : ∀ s, I s → t.kasWp cmp R s := by
  induction x with
  | ret h => exact fun s hs => hq _ s h hs
  | @ask i j k a b _ ih => exact fun s hs => hc i j _ s a b hs fun s' hs' => ih s' hs'
section
variable {key : Nat → Int} {N : Nat} (hinj : ∀ i j, i < N → j < N → i ≠ j → key i ≠ key j)
structure PO (N : Nat) (p : Array Nat) : Prop where
  perm : p.Perm (List.range N).toArray
theorem PO.size {p : Array Nat} (h : PO N p) : p.size = N := by have := h.perm.size_eq; simpa using this
theorem PO.lt {p : Array Nat} (h : PO N p) (hN : 0 < N) (i : Nat) : p.getD i 0 < N := by
  rw [Array.getD_eq_getD_getElem?]
  by_cases hi : i < p.size
  · rw [Array.getElem?_eq_getElem hi]
    have : p[i] ∈ p := Array.getElem_mem hi
    have := h.perm.mem_iff.mp this
    simpa using this
  · rw [Array.getElem?_eq_none (by (first | lia | omega))]; exact hN
theorem PO.ne {p : Array Nat} (h : PO N p) {i j : Nat} (hi : i < N) (hj : j < N) (hij : i ≠ j) : p.getD i 0 ≠ p.getD j 0 := by
  have hp : p.toList.Nodup := (Array.perm_iff_toList_perm.mp h.perm).nodup_iff.mpr (by simpa using List.nodup_range)
  have hs := h.size
  rw [Array.getD_eq_getD_getElem?, Array.getD_eq_getD_getElem?, Array.getElem?_eq_getElem (by (first | lia | omega)), Array.getElem?_eq_getElem (by (first | lia | omega))]
  intro e
  have e' : p.toList[i]'(by simp; (first | lia | omega)) = p.toList[j]'(by simp; (first | lia | omega)) := by simpa using e
  exact hij ((List.getElem_inj hp).mp e')
noncomputable def Asc (key : Nat → Int) (p : Array Nat) (m : Nat) : Prop := ∀ i j, i < j → j < m → key (p.getD i 0) < key (p.getD j 0)
noncomputable def Desc (key : Nat → Int) (p : Array Nat) (m : Nat) : Prop := ∀ i j, i < j → j < m → key (p.getD j 0) < key (p.getD i 0)
theorem Asc.snoc {p : Array Nat} {m : Nat} (h : Asc key p m) (h1 : 1 ≤ m) (h2 : key (p.getD (m - 1) 0) < key (p.getD m 0)) : Asc key p (m + 1) := fun i j hij hj => by
  rcases Nat.lt_or_ge j m with hlt | hge
  · exact h i j hij hlt
  · obtain rfl : j = m := by (first | lia | omega)
    rcases Nat.lt_or_ge i (j - 1) with h3 | h3
    · exact Int.lt_trans (h i (j - 1) h3 (by (first | lia | omega))) h2
    · obtain rfl : i = j - 1 := by (first | lia | omega)
      exact h2
theorem Desc.snoc {p : Array Nat} {m : Nat} (h : Desc key p m) (h1 : 1 ≤ m) (h2 : key (p.getD m 0) < key (p.getD (m - 1) 0)) : Desc key p (m + 1) := fun i j hij hj => by
  rcases Nat.lt_or_ge j m with hlt | hge
  · exact h i j hij hlt
  · obtain rfl : j = m := by (first | lia | omega)
    rcases Nat.lt_or_ge i (j - 1) with h3 | h3
    · exact Int.lt_trans h2 (h i (j - 1) h3 (by (first | lia | omega)))
    · obtain rfl : i = j - 1 := by (first | lia | omega)
      exact h2
include hinj in
theorem tt_asc {p : Array Nat} (hp : PO N p) : ∀ (f n : Nat), 1 ≤ n → n + f ≤ N → Asc key p n → TT key N (fun m => Asc key p m ∧ n ≤ m ∧ m ≤ n + f ∧ (m < n + f → key (p.getD m 0) < key (p.getD (m - 1) 0))) (kas_asc p f n)
  | 0, n, h1, hN, h => .ret ⟨h, by omega, by omega, fun x => by omega⟩
  | f + 1, n, h1, hN, h => by
    refine .ask (hp.lt (by omega) _) (hp.lt (by omega) _) ?_
    by_cases hc : key (p.getD n 0) < key (p.getD (n - 1) 0)
    · rw [decide_eq_true hc, if_pos rfl]
      exact .ret ⟨h, by omega, by omega, fun _ => hc⟩
    · rw [decide_eq_false hc, if_neg (by simp)]
      have hne := hinj _ _ (hp.lt (by omega) n) (hp.lt (by omega) (n - 1)) (hp.ne (i := n) (j := n - 1) (by omega) (by omega) (by omega))
      refine (tt_asc hp f (n + 1) (by omega) (by omega) (h.snoc h1 (by omega))).mono fun m ⟨a, b, c, d⟩ => ⟨a, by omega, by omega, fun x => d (by omega)⟩
include hinj in
theorem tt_desc {p : Array Nat} (hp : PO N p) : ∀ (f n : Nat), 1 ≤ n → n + f ≤ N → Desc key p n → TT key N (fun r => r.1 = p ∧ r.2.2 = 0 ∧ Desc key p r.2.1 ∧ n ≤ r.2.1 ∧ r.2.1 ≤ n + f) (kas_desc f p n 0)
  | 0, n, h1, hN, h => .ret ⟨rfl, rfl, h, Nat.le_refl _, Nat.le_refl _⟩
  | f + 1, n, h1, hN, h => by
    have hne := hinj _ _ (hp.lt (by (first | lia | omega)) n) (hp.lt (by (first | lia | omega)) (n - 1)) (hp.ne (i := n) (j := n - 1) (by (first | lia | omega)) (by (first | lia | omega)) (by (first | lia | omega)))
    refine .ask (hp.lt (by (first | lia | omega)) _) (hp.lt (by (first | lia | omega)) _) ?_
    by_cases hc : key (p.getD n 0) < key (p.getD (n - 1) 0)
    · rw [decide_eq_true hc, if_pos rfl, if_neg (by (first | lia | omega))]
      exact (tt_desc hp f (n + 1) (by (first | lia | omega)) (by (first | lia | omega)) (h.snoc h1 hc)).mono fun r ⟨a, b, c, d, e⟩ => ⟨a, b, c, by (first | lia | omega), by (first | lia | omega)⟩
    · rw [decide_eq_false hc, if_neg (by simp)]
      refine .ask (hp.lt (by (first | lia | omega)) _) (hp.lt (by (first | lia | omega)) _) ?_
      rw [decide_eq_true (by (first | lia | omega)), if_pos rfl]
      exact .ret ⟨rfl, rfl, h, Nat.le_refl _, by show n ≤ n + (f + 1); (first | lia | omega)⟩
theorem rev_get {p : Array Nat} {n i : Nat} (hn : n ≤ p.size) (hi : i < n) : (kas_rev p 0 n).getD i 0 = p.getD (n - 1 - i) 0 := by
  unfold kas_rev
  rw [Array.getD_eq_getD_getElem?, Array.getD_eq_getD_getElem?, getElem?_mirror_all hn, if_pos ⟨Nat.zero_le _, hi⟩, show 0 + n - 1 - i = n - 1 - i by (first | lia | omega)]
theorem PO.rev {p : Array Nat} (h : PO N p) (i j : Nat) : PO N (kas_rev p i j) := ⟨(mirror_perm _ _ _ _).trans h.perm⟩
include hinj in
theorem tt_tail3 {p : Array Nat} (hp : PO N p) {n : Nat} (h1 : 1 ≤ n) (hn : n ≤ N) (h : Desc key p n) : TT key N (fun r => PO N r.2 ∧ Asc key r.2 r.1 ∧ 1 ≤ r.1 ∧ r.1 ≤ N) (kas_tail3 n N p) := by
  refine .bind ((tt_asc hinj (hp.rev 0 n) (N - n) n h1 (by omega) fun i j hij hj => ?_).mono fun m ⟨a, b, c, d⟩ => .ret ⟨hp.rev 0 n, a, by show 1 ≤ m; omega, by show m ≤ N; omega⟩)
  rw [rev_get (by rw [hp.size]; omega) (by omega), rev_get (by rw [hp.size]; omega) hj]
  exact h _ _ (by omega) (by omega)
include hinj in
theorem tt_count {p : Array Nat} (hp : PO N p) (hN : 2 ≤ N) : TT key N (fun r => PO N r.2 ∧ Asc key r.2 r.1 ∧ 1 ≤ r.1 ∧ r.1 ≤ N) (kas_count N p) := by
  refine .bind ((tt_asc hinj hp (N - 1) 1 (by (first | lia | omega)) (by (first | lia | omega)) fun i j hij hj => by (first | lia | omega)).mono fun n ⟨h, h1, hn, hd⟩ => ?_)
  by_cases e : n = N
  · rw [if_pos (by simp [e])]
    exact .ret ⟨hp, h, h1, by show n ≤ N; (first | lia | omega)⟩
  · rw [if_neg (by simp [e])]
    by_cases h2 : n > 1
    · rw [if_pos h2]
      refine .ask (hp.lt (by (first | lia | omega)) _) (hp.lt (by (first | lia | omega)) _) ?_
      rw [decide_eq_true (h 0 (n - 1) (by (first | lia | omega)) (by (first | lia | omega))), if_pos rfl]
      exact .ret ⟨hp, h, h1, by show n ≤ N; (first | lia | omega)⟩
    · rw [if_neg h2]
      obtain rfl : n = 1 := by (first | lia | omega)
      have hk := hd (by (first | lia | omega))
      refine .bind ((tt_desc hinj hp (N - (1 + 1)) (1 + 1) (by (first | lia | omega)) (by (first | lia | omega)) fun i j hij hj => ?_).mono fun r ⟨a, b, c, d, e'⟩ => ?_)
      · obtain rfl : i = 0 := by (first | lia | omega)
        obtain rfl : j = 1 := by (first | lia | omega)
        exact hk
      · rw [a, b, if_neg (by (first | lia | omega))]
        exact tt_tail3 hinj hp (by (first | lia | omega)) (by (first | lia | omega)) c
include hinj in
theorem tt_place {p : Array Nat} (hp : PO N p) {k : Nat} (hk : k < N) (ha : Asc key p k) : ∀ (f l r : Nat), l ≤ r → r ≤ k → r - l ≤ f → (∀ i, i < l → key (p.getD i 0) < key (p.getD k 0)) → (∀ i, r ≤ i → i < k → key (p.getD k 0) < key (p.getD i 0)) →
    TT key N (fun m => m ≤ k ∧ (∀ i, i < m → key (p.getD i 0) < key (p.getD k 0)) ∧ (∀ i, m ≤ i → i < k → key (p.getD k 0) < key (p.getD i 0))) (kas_place p k f l r)
  | 0, l, r, hlr, hr, hf, h1, h2 => .ret ⟨by (first | lia | omega), h1, fun i hi => h2 i (by (first | lia | omega))⟩
  | f + 1, l, r, hlr, hr, hf, h1, h2 => by
    unfold kas_place
    by_cases hge : l ≥ r
    · rw [if_pos hge]
      exact .ret ⟨by (first | lia | omega), h1, fun i hi => h2 i (by (first | lia | omega))⟩
    · rw [if_neg hge]
      refine .ask (hp.lt (by (first | lia | omega)) _) (hp.lt (by (first | lia | omega)) _) ?_
      have hm : (l + r) / 2 < r ∧ l ≤ (l + r) / 2 := by (first | lia | omega)
      generalize (l + r) / 2 = m at hm
      by_cases hc : key (p.getD k 0) < key (p.getD m 0)
      · rw [decide_eq_true hc, if_pos rfl]
        refine tt_place hp hk ha f l m (by (first | lia | omega)) (by (first | lia | omega)) (by (first | lia | omega)) h1 fun i hi hik => ?_
        rcases Nat.eq_or_lt_of_le hi with rfl | hlt
        · exact hc
        · exact Int.lt_trans hc (ha m i hlt hik)
      · rw [decide_eq_false hc, if_neg (by simp)]
        have hne := hinj _ _ (hp.lt (by (first | lia | omega)) k) (hp.lt (by (first | lia | omega)) m) (hp.ne (i := k) (j := m) (by (first | lia | omega)) (by (first | lia | omega)) (by (first | lia | omega)))
        refine tt_place hp hk ha f (m + 1) r (by (first | lia | omega)) (by (first | lia | omega)) (by (first | lia | omega)) (fun i hi => ?_) h2
        rcases Nat.eq_or_lt_of_le (Nat.le_of_lt_succ hi) with rfl | hlt
        · (first | lia | omega)
        · exact Int.lt_trans (ha i m hlt (by (first | lia | omega))) (by (first | lia | omega))
include hinj in
theorem tt_bin : ∀ (f k : Nat) {p : Array Nat}, PO N p → k + f = N → Asc key p k → TT key N (fun p' => PO N p' ∧ Asc key p' N) (kas_bin f p k)
  | 0, k, p, hp, hk, ha => .ret ⟨hp, by rw [← hk]; exact ha⟩
  | f + 1, k, p, hp, hk, ha => by
    refine .bind ((tt_place hinj hp (by (first | lia | omega)) ha k 0 k (by (first | lia | omega)) (by (first | lia | omega)) (by (first | lia | omega)) (fun i hi => by (first | lia | omega)) fun i hi hik => by (first | lia | omega)).mono fun l ⟨hl, h1, h2⟩ => ?_)
    have hs := hp.size
    have hget : ∀ i, (bubble p k (k - l)).getD i 0 = if i = l then p.getD k 0 else if l < i ∧ i ≤ k then p.getD (i - 1) 0 else p.getD i 0 := fun i => by
      rw [Array.getD_eq_getD_getElem?, getElem?_bubble (by (first | lia | omega)) _ (by (first | lia | omega)), show k - (k - l) = l by (first | lia | omega)]
      repeat' split
      all_goals rw [Array.getD_eq_getD_getElem?]
    refine tt_bin f (k + 1) ⟨(bubble_perm _ _ _).trans hp.perm⟩ (by (first | lia | omega)) fun i j hij hj => ?_
    rw [hget, hget]
    repeat' split
    all_goals first
      | (exfalso; (first | lia | omega))
      | exact h2 _ (by (first | lia | omega)) (by (first | lia | omega))
      | exact h1 _ (by (first | lia | omega))
      | exact ha _ _ (by (first | lia | omega)) (by (first | lia | omega))
include hinj in
theorem tt_sort (hN : 2 ≤ N) : TT key N (fun p => PO N p ∧ Asc key p N) (kas_sort N) := by
  have hp : PO N (List.range N).toArray := ⟨.refl _⟩
  refine .bind ((tt_count hinj hp hN).mono fun r ⟨a, b, c, d⟩ => ?_)
  by_cases h : r.1 < N
  · rw [if_pos h]
    have hm : max r.1 1 = r.1 := by (first | lia | omega)
    rw [hm]
    exact tt_bin hinj _ _ a (by (first | lia | omega)) b
  · rw [if_neg h]
    exact .ret ⟨a, by have : r.1 = N := by (first | lia | omega)
                      rw [← this]; exact b⟩
theorem asc_list {p : Array Nat} (hp : PO N p) (h : Asc key p N) : p.toList.Perm (List.range N) ∧ p.toList.Pairwise fun a b => key a < key b := by
  refine ⟨by have := Array.perm_iff_toList_perm.mp hp.perm; simpa using this, List.pairwise_iff_getElem.mpr fun i j hi hj hij => ?_⟩
  have hs := hp.size
  have := h i j hij (by simp at hj; (first | lia | omega))
  rw [Array.getD_eq_getD_getElem?, Array.getD_eq_getD_getElem?, Array.getElem?_eq_getElem (by simpa using hi), Array.getElem?_eq_getElem (by simpa using hj)] at this
  simpa using this
end
end
section
section
variable {w : World} {c : Shared} {h : Heap} {tk : Nat} {A : Around}
noncomputable abbrev lamQ : Str := (envL 0).qual ++ Str.ofString "<lambda>"
theorem lam_turns {f aT aV : Addr} {o : Obj} {uV : List Value} {mV : Nat} {zs : List Int} {k : Nat} {z : Int} {t : Tok} {Q : Value → Shared → Prop} {params : Arguments} {scope : Scope} {clos : List (Str × Addr)} {pm ctv : Value} {c' : Addr} {p1 p2 p3 : Pos} {qual : Str} {n : Nat}
    (kp : KeepR w h) (ho : h.get? f = some (kla_obj (Str.ofString "<lambda>") qual params (.Subscript (.Name (Str.ofString "turns") p1) (.Name (Str.ofString "one") p2) p3) scope clos pm c' ctv)) (hcd : h.CodeRec (.ref c') qual) (hrm : Rm (n + 1) A)
    (hP : ∀ v, bindArgs (kla_fn (Str.ofString "<lambda>") qual params (.Subscript (.Name (Str.ofString "turns") p1) (.Name (Str.ofString "one") p2) p3) scope clos pm (.ref c') ctv) ⟨[v], []⟩ = Pure.pure [(Str.ofString "one", v)])
    (hco : scope.isCoroutine = false) (hgen : scope.isGenerator = false) (hkind : scope.kind = .function) (hcell : (scope.names.all fun x => x.2 != .cell) = true) (h1 : scope.names.lookup (Str.ofString "one") = some .local) (h2 : scope.names.lookup (Str.ofString "turns") = some .free)
    (hcl : clos.lookup (Str.ofString "turns") = some aT) (hg : h.get? aT = some (CellW o (some (.ref aV)))) (hV : h.get? aV = some (LO uV mV)) (hi : IntsAre uV zs) (hk : zs[k]? = some z) (hsz : zs.length < 100000)
    (q : ∀ h' tk' t, Ext h h' → Q (.int z t) (Sh c h' tk')) : wpAny (MM w) A (call (.ref f) [.int (k : Int) t] []) Q NoE (Sh c h tk) := by
  refine enterLam (fd := kla_fn (Str.ofString "<lambda>") qual params (.Subscript (.Name (Str.ofString "turns") p1) (.Name (Str.ofString "one") p2) p3) scope clos pm (.ref c') ctv) kp ho rfl rfl hcd hco hgen hkind rfl rfl (BindsTo.of_eq (hP _)) hcell (by simp [h1]) rfl hrm.lt ?_
  intro L h1 tk1 st
  refine r_subscr (r_free (a := aT) (o := o) (v := .ref aV) st (by assumption) hcl (st.keep _ _ hg) (by decide +kernel) (by decide +kernel) (r_local st (by assumption) (.head _) (by decide +kernel) ?_))
  refine r_itemI (st.keep _ _ hV) hi rfl hk hsz rfl fun t => ?_
  exact q _ _ _ st.keep
end
end
section
section
variable {w : World} {env : Env} {h₀ h h' : Heap} {vs : List (Str × Value)} {ns : List (Addr × Obj)} {rs : List (Value × D)} {A : Around} {E : Value → Shared → Prop} {c : Shared} {tk : Nat} {x : Str}
theorem r_freeB {a : Addr} {o : Obj} {v : Value} {p : Pos} {Q : Value → Shared → Prop} (st : St w env h₀ vs ns rs h) (hl : env.kindOf x = some .free) (ha : env.cells.lookup x = some a) (hg : h₀.get? a = some (CellW o (some v))) (hn : (x == ("__classdict__" : Str)) = false) (hd : (x == ("__debug__" : Str)) = false) (q : Q v (Sh c h tk)) :
    wpAny (MM w) A (eval (.Name x p) env) Q E (Sh c h tk) := r_free st hl ha (st.keep _ _ hg) hn hd q
theorem r_unary {op : UnaryOp} {e : Expr} {p : Pos} {Q : Value → Shared → Prop} (q : wpAny (MM w) A (eval e env) (XTh w A E (unaryOp op) Q) E (Sh c h tk)) : wpAny (MM w) A (eval (.UnaryOp op e p) env) Q E (Sh c h tk) := UnaryOp_ q
theorem x_neg {a : Int} {t : Tok} {Q : Value → Shared → Prop} (q : Q (.int (-a) tk) (Sh c h (tk + 1))) : wpAny (MM w) A (unaryOp .USub (.int a t)) Q E (Sh c h tk) := PyProof.Rows.neg_int q
end
theorem updF_of {a : Addr} {o : Obj} : ∀ {l : List (Addr × Obj)}, (a, o) ∈ l → (l.map (·.1)).Nodup → ∃ g, UpdF a o l g ∧ ∀ o' p, p ∈ g o' ↔ p = (a, o') ∨ (p ∈ l ∧ p.1 ≠ a)
  | (b, ob) :: l, hm, hn => by
    have n := List.nodup_cons.mp hn
    rcases List.mem_cons.mp hm with e | hm
    · cases e
      have off : ∀ p ∈ l, p.1 ≠ a := fun p hp e => n.1 (by rw [← e]; exact List.mem_map_of_mem (f := (·.1)) hp)
      refine ⟨_, .head off, fun o' p => ?_⟩
      rw [List.mem_cons, List.mem_cons]
      constructor
      · rintro (rfl | hp)
        · exact .inl rfl
        · exact .inr ⟨.inr hp, off p hp⟩
      · rintro (rfl | ⟨rfl | hp, hne⟩)
        · exact .inl rfl
        · exact absurd rfl hne
        · exact .inr hp
    · obtain ⟨g, U, hg⟩ := updF_of hm n.2
      have hba : b ≠ a := fun e => n.1 (by rw [e]; exact List.mem_map_of_mem (f := (·.1)) hm)
      refine ⟨_, .tail hba U, fun o' p => ?_⟩
      rw [List.mem_cons, List.mem_cons, hg]
      constructor
      · rintro (rfl | rfl | ⟨hp, hne⟩)
        · exact .inr ⟨.inl rfl, hba⟩
        · exact .inl rfl
        · exact .inr ⟨.inr hp, hne⟩
      · rintro (rfl | ⟨rfl | hp, hne⟩)
        · exact .inr (.inl rfl)
        · exact .inl rfl
        · exact .inr (.inr ⟨hp, hne⟩)
theorem allO_nodup {h : Heap} {L : Addr} : ((allO h L).map (·.1)).Nodup := by
  unfold allO
  refine List.Nodup.sublist (List.Sublist.map _ List.filter_sublist) ?_
  have : ∀ l : List Nat, l.Nodup → ((l.filterMap fun a => (h.get? a).map (a, ·)).map (·.1)).Nodup := fun l => by
    induction l with
    | nil => intro _; simp
    | cons a l ih =>
      intro hn
      have n := List.nodup_cons.mp hn
      rw [List.filterMap_cons]
      cases e : (h.get? a).map (a, ·) with
      | none => exact ih n.2
      | some p =>
        obtain ⟨o, _, rfl⟩ := Option.map_eq_some_iff.mp e
        refine List.nodup_cons.mpr ⟨fun hm => n.1 ?_, ih n.2⟩
        obtain ⟨q, hq, e'⟩ := List.mem_map.mp hm
        obtain ⟨b, hb, e2⟩ := List.mem_filterMap.mp hq
        obtain ⟨o2, _, rfl⟩ := Option.map_eq_some_iff.mp e2
        have e3 : b = a := e'
        exact e3 ▸ hb
  exact this _ List.nodup_range
section
variable {w : World} {env : Env} {h₀ h h' : Heap} {vs vs' : List (Str × Value)} {ns ns' : List (Addr × Obj)} {rs : List (Value × D)} {A : Around} {E : Value → Shared → Prop} {c : Shared} {tk : Nat} {x : Str}
theorem St.updX {m : Str → Option Value} {a : Addr} {o o' : Obj} (st : St w env h₀ vs ns rs h) (hb : ∀ p ∈ vs, m p.1 = some p.2) (hm0 : h.Ns env.locals m) (p : PutA a o o' ns ns') (hn : h'.Ns env.locals m) (hx : ∀ b ob, b ≠ env.locals → b ≠ a → h.get? b = some ob → h'.get? b = some ob) (hg : h'.get? a = some o') (hnt : ∀ items, ¬ IsTup h a items) :
    St w env h₀ vs ns' rs h' := by
  have d := List.nodup_cons.mp st.dis
  have hm := p.mem
  have ha := st.led _ hm
  have hl : env.locals ≠ a := fun e => d.1 (e ▸ List.mem_map_of_mem (f := (·.1)) hm)
  refine ⟨st.kp, fun b ob e => ?_, st.fk, st.eg, st.eb, ⟨m, hn, hb⟩, st.nd, st.old, fun q hq => ?_, ?_, fun r hr => (st.rep r hr).mono fun b items x => ?_⟩
  · exact hx b ob (fun e' => by rw [e', st.old] at e; cases e) (fun e' => by rw [e', ha.2] at e; cases e) (st.keep b ob e)
  · rcases p.split d.2 q hq with rfl | ⟨e1, e2⟩
    · exact ⟨hg, ha.2⟩
    · exact ⟨hx _ _ (fun e => d.1 (e ▸ List.mem_map_of_mem (f := (·.1)) e1)) e2 (st.led q e1).1, (st.led q e1).2⟩
  · rw [p.keys]; exact st.dis
  · have hba : b ≠ a := fun e => hnt items (e ▸ x)
    have hbl : b ≠ env.locals := fun e => ns_noTup hm0 items (e ▸ x)
    obtain ⟨o1, h1, h2⟩ := x
    exact ⟨o1, hx _ _ hbl hba h1, h2⟩
theorem St.ofX {m : Str → Option Value} {X : List (Addr × Obj)} (st : St w env h₀ vs ns rs h) (hb : ∀ p ∈ vs, m p.1 = some p.2) (hn : h'.Ns env.locals m) (hx : Heap.ExtBut env.locals h h') (hX : ∀ p ∈ X, h'.get? p.1 = some p.2 ∧ p.1 ≠ env.locals ∧ h.get? p.1 = none) (hnd : (X.map (·.1)).Nodup) :
    St w env h₀ vs (X ++ ns) rs h' := by
  have st' := st.but hb hn hx
  have d := List.nodup_cons.mp st.dis
  have old : ∀ a, h.get? a = none → h₀.get? a = none := fun a e => by
    cases e' : h₀.get? a with
    | none => rfl
    | some o' => rw [st.keep _ _ e'] at e; cases e
  refine { st' with led := fun p hp => ?_, dis := ?_ }
  · rcases List.mem_append.mp hp with hp | hp
    · exact ⟨(hX p hp).1, old _ (hX p hp).2.2⟩
    · exact st'.led p hp
  · rw [List.map_append]
    refine List.nodup_cons.mpr ⟨fun hm => ?_, List.nodup_append.mpr ⟨hnd, d.2, fun a ha b hb' e => ?_⟩⟩
    · rcases List.mem_append.mp hm with hm | hm
      · obtain ⟨p, hp, e⟩ := List.mem_map.mp hm
        exact (hX p hp).2.1 e
      · exact d.1 hm
    · obtain ⟨p, hp, e1⟩ := List.mem_map.mp ha
      obtain ⟨q, hq, e2⟩ := List.mem_map.mp hb'
      have h1 := (hX p hp).2.2
      have h2 := (st.led q hq).1
      rw [e2, ← e, ← e1, h1] at h2; cases h2
noncomputable abbrev dK (z : Int × Int) : D := .tup [.int z.1, .int z.2]
theorem led_ne {p : Addr × Obj} (st : St w env h₀ vs ns rs h) (hm : p ∈ ns) : p.1 ≠ env.locals := fun e => (List.nodup_cons.mp st.dis).1 (e ▸ List.mem_map_of_mem (f := (·.1)) hm)
theorem keys_loop {m : Str → Option Value} {kS D' : Addr} {e1 : Nat} {us : List Value} {kz : List (Int × Int)} {f : Value} {Fin : List Value → Nat → Shared → Prop} (hb : ∀ p ∈ vs, m p.1 = some p.2) (hkz : us.length = kz.length)
    (hkey : ∀ (j : Nat) (v : Value) (z : Int × Int) (h' : Heap) (tk' : Nat) (X : List (Addr × Obj)) (rs' : List (Value × D)) (Q : Value → Shared → Prop), us[j]? = some v → kz[j]? = some z → St w env h₀ vs (X ++ ns) rs' h' → (∀ a h'' tk'', Ext h' h'' → Rep h'' (.ref a) (dK z) → Q (.ref a) (Sh c h'' tk'')) → wpAny (MM w) A (call f [v]) Q NoE (Sh c h' tk'))
    (hfin : ∀ ks e h1 tk1, ks.length = us.length → h1.Ns env.locals m → St w env h₀ vs ((kS, LO ks e) :: (D', LO [] e1) :: ns) (ks.zip (kz.map dK) ++ rs) h1 → Fin ks e (Sh c h1 tk1)) :
    ∀ (r done ks : List Value) (e : Nat) (h1 : Heap) (tk1 : Nat), us = done ++ r → ks.length = done.length → h1.Ns env.locals m → St w env h₀ vs ((kS, LO ks e) :: (D', LO [] e1) :: ns) (ks.zip ((kz.take done.length).map dK) ++ rs) h1 →
      KatKeys pE w A hE env.locals m kS f Fin r ks e (Sh c h1 tk1)
  | [], done, ks, e, h1, tk1, hu, hl, hn, st => by
    rw [List.append_nil] at hu
    refine hfin ks e h1 tk1 (by rw [hl, hu]) hn ?_
    rw [← hu, hkz, List.take_length] at st
    exact st
  | v :: r, done, ks, e, h1, tk1, hu, hl, hn, st => by
    have hv : us[done.length]? = some v := by rw [hu]; simp
    have hlt : done.length < kz.length := by rw [← hkz, hu]; simp
    have hkS : (kS, LO ks e) ∈ allO h1 env.locals → True := fun _ => trivial
    refine KatKeys.cons (wpAny_mono (hkey done.length v kz[done.length] h1 tk1 [(kS, LO ks e), (D', LO [] e1)] _ _ hv (List.getElem?_eq_getElem hlt) st fun a h2 tk2 k2 hr => ?_) (fun _ _ x => x) fun _ _ x => x.elim)
    have st2 := st.ext k2
    have hn2 : h2.Ns env.locals m := hn.keeps k2
    have hg2 : h2.get? kS = some (LO ks e) := st2.get (.head _)
    obtain ⟨g, U, hg⟩ := updF_of (allO_mem.mpr ⟨hg2, led_ne st2 (.head _)⟩ : (kS, LO ks e) ∈ allO h2 env.locals) allO_nodup
    refine KatBack.intro (g := g) (news := allO h2 env.locals) ⟨hn2, fun b o e => (by rw [hE_get] at e; cases e), Nat.zero_le _⟩ (fun p hp => ⟨(allO_mem.mp hp).1, (allO_mem.mp hp).2, rfl⟩) U fun h3 c3 F3 N3 => ?_
    have hg3 : h3.get? kS = some (LO (ks ++ [.ref a]) c3) := (N3 (kS, _) ((hg _ _).mpr (.inl rfl))).1
    have hx3 : ∀ b ob, b ≠ env.locals → b ≠ kS → h2.get? b = some ob → h3.get? b = some ob := fun b ob h4 h5 h6 => (N3 (b, ob) ((hg _ _).mpr (.inr ⟨allO_mem.mpr ⟨h6, h4⟩, h5⟩))).1
    have st3 := (st2.addRep hr).updX hb hn2 (.here (a := kS) (o' := LO (ks ++ [.ref a]) c3)) F3.ns hx3 hg3 (noTup_of hg2 (show Value.type "list" ≠ .type "tuple" by decide))
    refine keys_loop hb hkz hkey hfin r (done ++ [v]) (ks ++ [.ref a]) c3 h3 tk2 (by rw [hu]; simp) (by simp [hl]) F3.ns ?_
    refine { st3 with rep := fun q hq => ?_ }
    rw [List.length_append, List.length_singleton, List.take_add_one, List.getElem?_eq_getElem hlt, Option.toList_some, List.map_append, List.zip_append (by rw [hl, List.length_map, List.length_take]; (first | lia | omega)), List.append_assoc] at hq
    rcases List.mem_append.mp hq with hq | hq
    · exact st3.rep q (.tail _ (List.mem_append_left _ hq))
    · rcases List.mem_append.mp hq with hq | hq
      · simp only [List.map_cons, List.map_nil, List.zip_cons_cons, List.zip_nil_right, List.mem_singleton] at hq
        rw [hq]; exact st3.rep _ (.head _)
      · exact st3.rep q (.tail _ (List.mem_append_right _ hq))
theorem rep_pair {a : Addr} {x : Int × Int} (r : Rep h (.ref a) (dK x)) : ∃ t1 t2, IsTup h a #[.int x.1 t1, .int x.2 t2] := by
  obtain ⟨us, ht, hr⟩ := rep_tup r
  cases hr with
  | cons a1 r1 => cases r1 with
    | cons a2 r1 => cases r1; cases a1; cases a2; exact ⟨_, _, ht⟩
theorem lt_pair {a b : Addr} {x y : Int × Int} {Q : Bool → Shared → Prop} (ha : Rep h (.ref a) (dK x)) (hb : Rep h (.ref b) (dK y)) (q : Q (decide (x.1 < y.1 ∨ (x.1 = y.1 ∧ x.2 < y.2))) (Sh c h tk)) : wpAny (MM w) A (keyLt' (tuples' true) (.ref a) (.ref b)) Q E (Sh c h tk) := by
  obtain ⟨t1, t2, o1, g1, c1, n1, d1⟩ := rep_pair ha
  obtain ⟨t3, t4, o2, g2, c2, n2, d2⟩ := rep_pair hb
  refine kat_lt (s := Sh c h tk) g1 d1 g2 d2 (kat_cons (wpAny_eqBool_int ?_))
  by_cases e : x.1 = y.1
  · rw [show (x.1 == y.1) = true by simp [e]]
    refine kat_yes (kat_cons (wpAny_eqBool_int ?_))
    by_cases e' : x.2 = y.2
    · rw [show (x.2 == y.2) = true by simp [e']]
      refine kat_yes (kat_nil ?_)
      rw [decide_eq_false (by omega)] at q
      exact q
    · rw [show (x.2 == y.2) = false by simp [e']]
      refine kat_no ?_
      refine kat_one _ _ (r_lt ?_)
      have : decide (x.2 < y.2) = decide (x.1 < y.1 ∨ (x.1 = y.1 ∧ x.2 < y.2)) := decide_eq_decide.mpr (by omega)
      rw [this]
      exact q
  · rw [show (x.1 == y.1) = false by simp [e]]
    refine kat_no ?_
    have : decide (x.1 < y.1) = decide (x.1 < y.1 ∨ (x.1 = y.1 ∧ x.2 < y.2)) := decide_eq_decide.mpr (by omega)
    refine kat_lt_int ?_
    rw [this]
    exact q
theorem kat_tups : ∀ {ks : List Value} {kz : List (Int × Int)}, ks.length = kz.length → (∀ r ∈ ks.zip (kz.map dK), Rep h r.1 r.2) → ∃ fs, KatTups h ks fs ∧ fs.length = ks.length ∧ ∀ v ∈ fs, ∃ i t, v = Value.int i t
  | [], [], _, _ => ⟨[], .nil, rfl, fun _ hv => nomatch hv⟩
  | k :: ks, z :: kz, hl, hr => by
    obtain ⟨fs, h1, h2, h3⟩ := kat_tups (ks := ks) (kz := kz) (by simpa using hl) fun r hm => hr r (.tail _ hm)
    have h0 := hr (k, dK z) (.head _)
    cases h0 with
    | tup ht hs =>
      obtain ⟨o, g, hc, n, hd⟩ := ht
      cases hs with
      | cons a1 r1 =>
        cases a1
        refine ⟨_, .cons g hc hd rfl h1, by simp [h2], fun v hv => ?_⟩
        rcases List.mem_cons.mp hv with rfl | hv
        · exact ⟨_, _, rfl⟩
        · exact h3 v hv
theorem r_sortedT {l : Addr} {f : Value} {us : List Value} {kz : List (Int × Int)} {key : Nat → Int} {kw : List (Str × Value)} {Q : Value → Shared → Prop} (st : St w env h₀ vs ns rs h) (hl : h.IsList l us.toArray) (h2 : 2 ≤ us.length) (h64 : us.length < 64) (hkz : us.length = kz.length)
    (ha1 : argsOk "sorted" ⟨[.ref l], kw⟩) (ha2 : ∀ x, argsOk "list.sort" ⟨[.ref x], kw⟩) (ht : ∀ x, Builtin.«list.sort» ⟨[.ref x], kw⟩ = ksk_tree x f false)
    (hinj : ∀ i j, i < us.length → j < us.length → i ≠ j → key i ≠ key j) (hlt : ∀ (i j : Nat) x y, kz[i]? = some x → kz[j]? = some y → (key i < key j ↔ (x.1 < y.1 ∨ (x.1 = y.1 ∧ x.2 < y.2))))
    (hkey : ∀ (j : Nat) (v : Value) (z : Int × Int) (h' : Heap) (tk' : Nat) (X : List (Addr × Obj)) (rs' : List (Value × D)) (Q : Value → Shared → Prop), us[j]? = some v → kz[j]? = some z → St w env h₀ vs (X ++ ns) rs' h' → (∀ a h'' tk'', Ext h' h'' → Rep h'' (.ref a) (dK z) → Q (.ref a) (Sh c h'' tk'')) → wpAny (MM w) A.in1.in1 (call f [v]) Q NoE (Sh c h' tk'))
    (q : ∀ D h' tk' (p : List Nat) m, p.Perm (List.range us.length) → p.Pairwise (fun a b => key a < key b) → St w env h₀ vs ((D, LO (p.map fun i => us.getD i .none) m) :: ns) rs h' → Q (.ref D) (Sh c h' tk')) :
    wpAny (MM w) A (call (.builtin "sorted") [.ref l] kw) Q E (Sh c h tk) := by
  obtain ⟨m, hb, F, N⟩ := st.fr
  refine kat_sortedK (s := Sh c h tk) F N hl h2 h64 ha1 ha2 ht fun D' kS e1 h1 F1 N1 hDk hnew => ?_
  have hDL := (N1 (D', _) (.tail _ (.head _))).2.1
  have hkL := (N1 (kS, _) (.head _)).2.1
  have hD0 : h.get? D' = none := new_of hnew hDL
  have hk0 : h.get? kS = none := new_of (fun q hq => Nat.lt_trans (hnew q hq) hDk) hkL
  have st1 : St w env h₀ vs ((kS, LO [] 0) :: (D', LO [] e1) :: ns) rs h1 := by
    refine st.ofX (X := [(kS, LO [] 0), (D', LO [] e1)]) hb F1.ns (News.but (X := [(kS, LO [] 0), (D', LO [] e1)]) N1) (fun p hp => ?_) ?_
    · rcases List.mem_cons.mp hp with rfl | hp
      · exact ⟨(N1 _ (.head _)).1, hkL, hk0⟩
      · rw [List.mem_singleton.mp hp]
        exact ⟨(N1 _ (.tail _ (.head _))).1, hDL, hD0⟩
    · simp only [List.map_cons, List.map_nil, List.nodup_cons, List.mem_singleton, List.not_mem_nil, not_false_eq_true, List.nodup_nil, and_true]
      exact Nat.ne_of_gt hDk
  refine keys_loop (us := us) (kz := kz) hb hkz hkey (fun ks e h3 tk3 hkl hn3 st3 => ?_) us [] [] 0 h1 tk rfl rfl F1.ns (by simpa using st1)
  have hrep : ∀ r ∈ ks.zip (kz.map dK), Rep h3 r.1 r.2 := fun r hr => st3.rep r (List.mem_append_left _ hr)
  obtain ⟨fs, t1, t2, t3⟩ := kat_tups (by rw [hkl, hkz]) hrep
  refine kat_kind (s := Sh c h3 tk3) (T := .type "int") t1 (by (first | lia | omega)) (fun v hv => ?_) rfl ?_
  · obtain ⟨i, t, rfl⟩ := t3 v hv
    exact Looks.now
  · have hrk : katRev false ks = ks := rfl
    have hru : katRev false us = us := rfl
    rw [hrk, hru]
    refine TT.wp (key := key) (N := us.length) (I := fun s' => s' = Sh c h3 tk3) (fun i j C s hi hj hs k => ?_) (fun p s hp hs => ?_) (tt_sort hinj h2) _ rfl
    · subst hs
      obtain ⟨ri, e3, e4⟩ := rep_at hrep (by rw [hkl, hkz]; simp) (k := i) (d := dK (kz[i]'(by (first | lia | omega)))) (by rw [List.getElem?_map, List.getElem?_eq_getElem (by (first | lia | omega))]; rfl)
      obtain ⟨rj, e5, e6⟩ := rep_at hrep (by rw [hkl, hkz]; simp) (k := j) (d := dK (kz[j]'(by (first | lia | omega)))) (by rw [List.getElem?_map, List.getElem?_eq_getElem (by (first | lia | omega))]; rfl)
      show wpAny _ _ (keyLt' _ (ks.getD i Value.none) (ks.getD j Value.none)) _ _ _
      rw [List.getD_eq_getElem?_getD, List.getD_eq_getElem?_getD, e3, e5]
      dsimp only [Option.getD_some]
      obtain ⟨ai, rfl⟩ : ∃ a, ri = .ref a := by cases e4; exact ⟨_, rfl⟩
      obtain ⟨aj, rfl⟩ : ∃ a, rj = .ref a := by cases e6; exact ⟨_, rfl⟩
      refine lt_pair e4 e6 ?_
      have := k _ rfl
      rw [decide_eq_decide.mpr (hlt i j _ _ (List.getElem?_eq_getElem (by (first | lia | omega))) (List.getElem?_eq_getElem (by (first | lia | omega))))] at this
      exact this
    · subst hs
      have hg3 : h3.get? kS = some (LO ks e) := st3.get (.head _)
      obtain ⟨g, U, hg⟩ := updF_of (allO_mem.mpr ⟨hg3, led_ne st3 (.head _)⟩ : (kS, LO ks e) ∈ allO h3 env.locals) allO_nodup
      refine KatFin.intro (g := g) (news := allO h3 env.locals) ⟨hn3, fun b o e => (by rw [hE_get] at e; cases e), Nat.zero_le _⟩ (fun p hp => ⟨(allO_mem.mp hp).1, (allO_mem.mp hp).2, rfl⟩) U fun h4 c4 F4 N4 => ?_
      have hg4 : h4.get? kS = some (LO [] c4) := (N4 (kS, _) ((hg _ _).mpr (.inl rfl))).1
      have hx4 : ∀ b ob, b ≠ env.locals → b ≠ kS → h3.get? b = some ob → h4.get? b = some ob := fun b ob h4 h5 h6 => (N4 (b, ob) ((hg _ _).mpr (.inr ⟨allO_mem.mpr ⟨h6, h4⟩, h5⟩))).1
      have st4 := st3.updX hb hn3 (.here (a := kS) (o' := LO [] c4)) F4.ns hx4 hg4 (noTup_of hg3 (show Value.type "list" ≠ .type "tuple" by decide))
      have hgD : h4.get? D' = some (LO [] e1) := st4.get (.tail _ (.head _))
      obtain ⟨g', U', hg'⟩ := updF_of (allO_mem.mpr ⟨hgD, led_ne st4 (.tail _ (.head _))⟩ : (D', LO [] e1) ∈ allO h4 env.locals) allO_nodup
      refine KasFin.intro (g := g') (news := allO h4 env.locals) ⟨F4.ns, fun b o e => (by rw [hE_get] at e; cases e), Nat.zero_le _⟩ (fun p hp => ⟨(allO_mem.mp hp).1, (allO_mem.mp hp).2, rfl⟩) U' fun h5 c5 F5 N5 => ?_
      have hg5 : h5.get? D' = some (LO (p.toList.map fun i => us.getD i .none) c5) := (N5 (D', _) ((hg' _ _).mpr (.inl rfl))).1
      have hx5 : ∀ b ob, b ≠ env.locals → b ≠ D' → h4.get? b = some ob → h5.get? b = some ob := fun b ob h4 h5 h6 => (N5 (b, ob) ((hg' _ _).mpr (.inr ⟨allO_mem.mpr ⟨h6, h4⟩, h5⟩))).1
      have st5 := st4.updX hb F4.ns (.there (.here (a := D') (o' := LO (p.toList.map fun i => us.getD i .none) c5))) F5.ns hx5 hg5 (noTup_of hgD (show Value.type "list" ≠ .type "tuple" by decide))
      obtain ⟨hp1, hp2⟩ := asc_list hp.1 hp.2
      exact q D' h5 tk3 p.toList c5 hp1 hp2 (st5.drop1.repSub fun r hr => List.mem_append_right _ hr)
end
end
local macro_rules | `(tactic| walk_at "M.e") => `(tactic| first
  | with_reducible first | refine' r_isNotNN ?_ | refine' r_isNotRN ?_ | refine' r_isNotSN ?_ | refine' r_isNotIN ?_ | refine' r_unary ?_ | refine' x_neg ?_
  | ((with_reducible refine' is_name ?_); (with_reducible apply r_freeB); (with_reducible assumption); kernel_rfl!; (first | assumption | exact rfl); (with_reducible assumption); kernel_rfl!; kernel_rfl!)
  | fail)
section
section
variable {w : World} {c : Shared} {h : Heap} {tk : Nat} {A : Around}
theorem ph_c {L : Addr} {ob : Addr → Obj} {aV aA aC aI a5 : Addr} {uV uA uC uI u5 : List Value} {mV mA mC mI m5 : Nat} {vl : Value} {ts : List Nat} {vd : Value} {rs : List (Value × D)} {Q : Flow → Shared → Prop} {h1 : Heap} (hts : ts.length = 7) (hVi : IntsAre uV (ts.map fun n : Nat => (n : Int)))
    (st0 : St w (envL L) h [("drawn", vd)] ((aV, LO uV mV) :: (aA, LO uA mA) :: (aC, LO uC mC) :: (aI, LO uI mI) :: (a5, LO u5 m5) :: CL L ob (some (.ref aV)) none none none none (some (.ref aA)) (some (.ref aC)) (some (.ref aI)) none (some (.ref a5)) (some vl) [(tabA, tabObj #[])]) rs h1)
    (k : ∀ h' tk' aO uO mO zs ps cs, OrdInv ts 7 zs → IntsAre uO (zs.map fun n : Nat => (n : Int)) → TabOk ((envL L).qual ++ Str.ofString "<lambda>") ps cs →
      St w (envL L) h [] ((aO, LO uO mO) :: (aV, LO uV mV) :: (aA, LO uA mA) :: (aC, LO uC mC) :: (aI, LO uI mI) :: (a5, LO u5 m5) :: CL L ob (some (.ref aV)) none none none (some (.ref aO)) (some (.ref aA)) (some (.ref aC)) (some (.ref aI)) none (some (.ref a5)) (some vl) ((tabA, tabObj ps) :: cs)) rs h' →
      wpC (MM w) (AL L) (execs ((bdyAt 23).drop 9) (envL L)) Q NoE (Sh c h' tk')) :
    wpC (MM w) (AL L) (execs ((bdyAt 23).drop 7) (envL L)) Q NoE (Sh c h1 tk) := by
  have c_turns : (callEnvC fdLaw L 187).cells.lookup (Str.ofString "turns") = some (L + 11) := by kernel_rfl!
  have c_states : (callEnvC fdLaw L 187).cells.lookup (Str.ofString "states") = some (L + 10) := by kernel_rfl!
  have c_count : (callEnvC fdLaw L 187).cells.lookup (Str.ofString "count") = some (L + 9) := by kernel_rfl!
  have c_done : (callEnvC fdLaw L 187).cells.lookup (Str.ofString "done") = some (L + 8) := by kernel_rfl!
  have c_order : (callEnvC fdLaw L 187).cells.lookup (Str.ofString "order") = some (L + 7) := by kernel_rfl!
  have c_amounts : (callEnvC fdLaw L 187).cells.lookup (Str.ofString "amounts") = some (L + 6) := by kernel_rfl!
  have c_covers : (callEnvC fdLaw L 187).cells.lookup (Str.ofString "covers") = some (L + 5) := by kernel_rfl!
  have c_items : (callEnvC fdLaw L 187).cells.lookup (Str.ofString "items") = some (L + 4) := by kernel_rfl!
  have c_k : (callEnvC fdLaw L 187).cells.lookup (Str.ofString "k") = some (L + 3) := by kernel_rfl!
  have c_cells : (callEnvC fdLaw L 187).cells.lookup (Str.ofString "cells") = some (L + 2) := by kernel_rfl!
  have c_script : (callEnvC fdLaw L 187).cells.lookup (Str.ofString "script") = some (L + 1) := by kernel_rfl!
  have hA : (AL L).handled = none := rfl
  have hrm : Rm 12 (AL L) := (rmL L).less (by decide)
  refine c_consD (bdyAt 23) 7 rfl (wpC_of ?_)
  refine r_assign (by kernel_rfl!) ?_
  repeat' (walk_at "M.x")
  refine ⟨_, _, _, _, _, _, _, rfl, by simp, st0.sub (vs' := []) .nil rfl, ?_⟩
  intro h2 aO st2 k2
  repeat' (walk_at "M.x")
  rename_i st3
  refine c_consD (bdyAt 23) 8 rfl (wpC_of ?_)
  refine r_for (h₀ := h) (X := List Nat × List Value × Nat × Array Value × List (Addr × Obj)) (fun _ _ => []) (fun _ x => (aO, LO x.2.1 x.2.2.1) :: (aV, LO uV mV) :: (aA, LO uA mA) :: (aC, LO uC mC) :: (aI, LO uI mI) :: (a5, LO u5 m5) :: CL L ob (some (.ref aV)) none none none (some (.ref aO)) (some (.ref aA)) (some (.ref aC)) (some (.ref aI)) none (some (.ref a5)) (some vl) ((tabA, tabObj x.2.2.2.1) :: x.2.2.2.2)) (fun _ _ => rs)
    (fun i x => OrdInv ts i x.1 ∧ IntsAre x.2.1 (x.1.map fun n : Nat => (n : Int)) ∧ TabOk ((envL L).qual ++ Str.ofString "<lambda>") x.2.2.2.1 x.2.2.2.2) (by kernel_rfl!) (fun _ => rfl) ?_
  intro Tq iTq
  repeat' (walk_at "M.x")
  refine r_rng1 (n := 7) (by decide) fun h4 tk4 k4 => ?_
  refine iTq.use _ _ ⟨_, _, _, _, 7, [], _, _, ([], [], 0, #[], []), rfl, rfl, It.range0 hA, RIt_0 _ _ _, (st3.ext k4).alloc rfl, ⟨ordInv_zero ts, .nil, .nil⟩, fun i x _ => rfl, (fun _ _ _ _ _ _ hp => nomatch hp), ?_, ?_⟩
  · rintro i v oI h5 tk5 ⟨zs, uO, mO, ps, cs⟩ Q1 E1 hi ⟨t6, rfl⟩ - ⟨hord, hO, hT⟩ st5 hQ1 hret -
    dsimp only at hord hO hT st5
    refine r_cons ?_
    repeat' (walk_at "M.x")
    have hfm : (i : Int).fmod 2 = ((i % 2 : Nat) : Int) := fmod_nat i 2
    have hlen := hord.length
    have htg : ∀ a, a < 7 → (ts.map fun n : Nat => (n : Int))[a]? = some ((ts.getD a 0 : Nat) : Int) := fun a ha => by
      rw [List.getElem?_map, List.getD_eq_getElem?_getD, List.getElem?_eq_getElem (by (first | lia | omega))]; rfl
    have hOl : uO.length = zs.length := by rw [hO.length]; simp
    have hOv : ∀ (j : Nat) (v : Value), uO[j]? = some v → ∃ a t, zs[j]? = some a ∧ v = Value.int (a : Int) t ∧ a < 7 := fun j v e => by
      have hj : j < zs.length := by rw [← hOl]; exact (List.getElem?_eq_some_iff.mp e).1
      obtain ⟨t, e'⟩ := ints_at hO (k := j) (z := (zs[j] : Int)) (by simp [hj])
      rw [e] at e'; cases e'
      exact ⟨zs[j], t, List.getElem?_eq_getElem hj, rfl, by have := hord.lt _ (List.getElem_mem hj); (first | lia | omega)⟩
    refine ⟨fun he => ?_, fun he => ?_⟩
    · have he2 : i % 2 = 0 := by
        have : (i : Int).fmod 2 = 0 := by simpa using he
        (first | lia | omega)
      refine r_cons ?_
      repeat' (walk_at "M.x")
      refine r_lambda [_, _, _, _, _, _, _, _, _, _, _, _, _, _, _, _, _, _] (clos := [(Str.ofString "turns", L + 11)]) st5 hT rfl (by kernel_rfl!) (by kernel_rfl!) ?_
      intro f pm c' ctv oc ps' cs' h6 tk6 hT' hoc hco st6
      repeat' (walk_at "M.x")
      simp only [List.cons_append, List.nil_append] at st6
      have hgf := st6.get (.head _)
      have hgO : Heap.get? h6 aO = some (LO uO mO) := st6.get (by walk_at "M.mem")
      have hgV : Heap.get? h6 aV = some (LO uV mV) := st6.get (by walk_at "M.mem")
      have hgT : Heap.get? h6 (L + 11) = some (CellW (ob (L + 11)) (some (.ref aV))) := st6.get (by walk_at "M.mem")
      have hgc : h6.CodeRec (.ref c') ((envL L).qual ++ Str.ofString "<lambda>") := by
        obtain ⟨us, t, e1, e2⟩ := hco
        exact ⟨c', oc, us, t, rfl, st6.get (by repeat' (first | exact hoc | apply List.mem_cons_of_mem)), e1, e2⟩
      have klam : ∀ A', Rm 10 A' → ∀ (a : Nat) t, a < 7 → ∀ h' tk' (Q : Value → Shared → Prop), Ext h6 h' → (∀ t h'' tk'', Ext h' h'' → Q (.int ((ts.getD a 0 : Nat) : Int) t) (Sh c h'' tk'')) → wpAny (MM w) A' (call (.ref f) [.int (a : Int) t] []) Q NoE (Sh c h' tk') := fun A' r a t ha h' tk' Q k qq =>
        lam_turns (n := 9) (fun b o e => k b o (st6.kph b o e)) (k _ _ hgf) (hgc.keeps k) r (fun _ => by kernel_rfl!) (by kernel_rfl!) (by kernel_rfl!) (by kernel_rfl!) (by kernel_rfl!) (by kernel_rfl!) (by kernel_rfl!) (by kernel_rfl!) (k _ _ hgT) (k _ _ hgV) hVi (htg a ha) (by simp [hts]) (fun h'' tk'' t k2 => qq t h'' tk'' k2)
      have hqa : ∀ j a, zs[j]? = some a → (fun j => decide (ts.getD i 0 < ts.getD (zs.getD j 0) 0)) j = decide (ts.getD i 0 < ts.getD a 0) := fun j a e => by
        simp only [List.getD_eq_getElem?_getD, e]; rfl
      refine can_f okIR (St.kph ‹_›) (ir_callK (n := 10) (q := fun j => decide (ts.getD i 0 < ts.getD (zs.getD j 0) 0)) (KX := fun kv _ => ∃ t, kv = Value.int ((ts.getD i 0 : Nat) : Int) t) (KV := fun j kv _ => ∃ a t, zs[j]? = some a ∧ kv = Value.int ((ts.getD a 0 : Nat) : Int) t) (St.kph ‹_›) hrm hgO (by (first | lia | omega)) ?_ ⟨_, _, hgf, rfl⟩ ?_ ?_ ?_ ?_)
      · intro j l _ hjl hl hqj
        rw [hOl] at hl
        have h1 := hqa j _ (List.getElem?_eq_getElem (by (first | lia | omega)))
        have h2 := hqa l _ (List.getElem?_eq_getElem hl)
        have := ord_mono (by (first | lia | omega)) hord hjl (List.getElem?_eq_getElem (by (first | lia | omega))) (List.getElem?_eq_getElem hl)
        dsimp only at h1 h2 hqj ⊢; rw [h1, decide_eq_true_eq] at hqj; rw [h2, decide_eq_true_eq]; (first | lia | omega)
      · intro A' r h' tk' Q k qq
        exact klam A' (r.less (by decide)) i t6 hi h' tk' Q k fun t h'' tk'' k2 => qq _ _ _ k2 ⟨t, rfl⟩
      · intro A' r j v hv _ _ h' tk' Q k qq
        obtain ⟨a, t, e1, rfl, ha⟩ := hOv j v hv
        exact klam A' r a t ha h' tk' Q k fun t h'' tk'' k2 => qq _ _ _ k2 ⟨a, t, e1, rfl⟩
      · intro A' r j kx kv _ _ h₀ h' tk' Q _ hx _ hv qq
        obtain ⟨t, rfl⟩ := hx
        obtain ⟨a, u, e1, rfl⟩ := hv
        refine r_lt ?_
        have := qq h' tk' (Ext.refl _)
        have e2 := hqa j a e1
        dsimp only at this e2
        rw [e2] at this
        simpa using this
      · intro r h7 h8 tk8 hcut k7 hs8 hg8
        have st8 := (st6.ext k7).write (.there (.there .here)) hs8 hg8 (noTup_of ((st6.ext k7).get (by walk_at "M.mem")) (show Value.type "list" ≠ .type "tuple" by decide))
        have st9 := st8.drop1
        clear st8 st6 st5 st3 st2 st0
        repeat' (walk_at "M.x")
        refine Later.mk ?_
        refine ⟨fun e => absurd e (by decide), fun _ => ?_⟩
        repeat' (walk_at "M.x")
        rename St w _ h _ _ _ _ => st10
        exact hQ1 (zs.take r ++ i :: zs.drop r, _, _, ps', cs') _ _ ⟨ordR hi he2 hord hqa (by rw [← hOl]; exact hcut), ints_ins hO, hT'⟩ (st10.sub (vs' := []) .nil rfl)
    · have he2 : ¬ i % 2 = 0 := by
        have : ¬ (i : Int).fmod 2 = 0 := by simpa using he
        (first | lia | omega)
      refine r_cons ?_
      repeat' (walk_at "M.x")
      refine r_lambda [_, _, _, _, _, _, _, _, _, _, _, _, _, _, _, _, _, _] (clos := [(Str.ofString "turns", L + 11)]) st5 hT rfl (by kernel_rfl!) (by kernel_rfl!) ?_
      intro f pm c' ctv oc ps' cs' h6 tk6 hT' hoc hco st6
      repeat' (walk_at "M.x")
      simp only [List.cons_append, List.nil_append] at st6
      have hgf := st6.get (.head _)
      have hgO : Heap.get? h6 aO = some (LO uO mO) := st6.get (by walk_at "M.mem")
      have hgV : Heap.get? h6 aV = some (LO uV mV) := st6.get (by walk_at "M.mem")
      have hgT : Heap.get? h6 (L + 11) = some (CellW (ob (L + 11)) (some (.ref aV))) := st6.get (by walk_at "M.mem")
      have hgc : h6.CodeRec (.ref c') ((envL L).qual ++ Str.ofString "<lambda>") := by
        obtain ⟨us, t, e1, e2⟩ := hco
        exact ⟨c', oc, us, t, rfl, st6.get (by repeat' (first | exact hoc | apply List.mem_cons_of_mem)), e1, e2⟩
      have klam : ∀ A', Rm 10 A' → ∀ (a : Nat) t, a < 7 → ∀ h' tk' (Q : Value → Shared → Prop), Ext h6 h' → (∀ t h'' tk'', Ext h' h'' → Q (.int ((ts.getD a 0 : Nat) : Int) t) (Sh c h'' tk'')) → wpAny (MM w) A' (call (.ref f) [.int (a : Int) t] []) Q NoE (Sh c h' tk') := fun A' r a t ha h' tk' Q k qq =>
        lam_turns (n := 9) (fun b o e => k b o (st6.kph b o e)) (k _ _ hgf) (hgc.keeps k) r (fun _ => by kernel_rfl!) (by kernel_rfl!) (by kernel_rfl!) (by kernel_rfl!) (by kernel_rfl!) (by kernel_rfl!) (by kernel_rfl!) (by kernel_rfl!) (k _ _ hgT) (k _ _ hgV) hVi (htg a ha) (by simp [hts]) (fun h'' tk'' t k2 => qq t h'' tk'' k2)
      have hqa : ∀ j a, zs[j]? = some a → (!(fun j => !decide (ts.getD (zs.getD j 0) 0 < ts.getD i 0)) j) = decide (ts.getD a 0 < ts.getD i 0) := fun j a e => by
        simp only [List.getD_eq_getElem?_getD, e]; simp
      refine can_f okIL (St.kph ‹_›) (il_callK (n := 10) (q := fun j => !decide (ts.getD (zs.getD j 0) 0 < ts.getD i 0)) (KX := fun kv _ => ∃ t, kv = Value.int ((ts.getD i 0 : Nat) : Int) t) (KV := fun j kv _ => ∃ a t, zs[j]? = some a ∧ kv = Value.int ((ts.getD a 0 : Nat) : Int) t) (St.kph ‹_›) hrm hgO (by (first | lia | omega)) ?_ ⟨_, _, hgf, rfl⟩ ?_ ?_ ?_ ?_)
      · intro j l _ hjl hl hqj
        rw [hOl] at hl
        have h1 := hqa j _ (List.getElem?_eq_getElem (by (first | lia | omega)))
        have h2 := hqa l _ (List.getElem?_eq_getElem hl)
        have := ord_mono (by (first | lia | omega)) hord hjl (List.getElem?_eq_getElem (by (first | lia | omega))) (List.getElem?_eq_getElem hl)
        simp only [Bool.not_not] at h1 h2; dsimp only at hqj ⊢; rw [h1] at hqj; rw [h2]; simp only [Bool.not_eq_true', decide_eq_false_iff_not] at hqj ⊢; (first | lia | omega)
      · intro A' r h' tk' Q k qq
        exact klam A' (r.less (by decide)) i t6 hi h' tk' Q k fun t h'' tk'' k2 => qq _ _ _ k2 ⟨t, rfl⟩
      · intro A' r j v hv _ _ h' tk' Q k qq
        obtain ⟨a, t, e1, rfl, ha⟩ := hOv j v hv
        exact klam A' r a t ha h' tk' Q k fun t h'' tk'' k2 => qq _ _ _ k2 ⟨a, t, e1, rfl⟩
      · intro A' r j kx kv _ _ h₀ h' tk' Q _ hx _ hv qq
        obtain ⟨t, rfl⟩ := hx
        obtain ⟨a, u, e1, rfl⟩ := hv
        refine r_lt ?_
        have := qq h' tk' (Ext.refl _)
        have e2 := hqa j a e1
        dsimp only at this e2
        rw [e2] at this
        simpa using this
      · intro r h7 h8 tk8 hcut k7 hs8 hg8
        have st8 := (st6.ext k7).write (.there (.there .here)) hs8 hg8 (noTup_of ((st6.ext k7).get (by walk_at "M.mem")) (show Value.type "list" ≠ .type "tuple" by decide))
        have st9 := st8.drop1
        clear st8 st6 st5 st3 st2 st0
        repeat' (walk_at "M.x")
        refine Later.mk ?_
        refine ⟨fun e => absurd e (by decide), fun _ => ?_⟩
        repeat' (walk_at "M.x")
        rename St w _ h _ _ _ _ => st10
        exact hQ1 (zs.take r ++ i :: zs.drop r, _, _, ps', cs') _ _ ⟨ordL hi he2 hord hqa (by rw [← hOl]; exact hcut), ints_ins hO, hT'⟩ (st10.sub (vs' := []) .nil rfl)
  · rintro ⟨zs, uO, mO, ps, cs⟩ h5 tk5 ⟨hord, hO, hT⟩ st5
    exact k _ _ aO uO mO zs ps cs hord hO hT st5
end
end
section
section
variable {w : World} {c : Shared} {h : Heap} {tk : Nat} {A : Around}
theorem ph_d {L : Addr} {ob : Addr → Obj} {aV aA aC aI a5 : Addr} {uV uA uC uI u5 : List Value} {mV mA mC mI m5 : Nat} {vl : Value} {ts : List Nat} {rs : List (Value × D)} {Q : Flow → Shared → Prop} {h1 : Heap} {aO : Addr} {uO : List Value} {mO : Nat} {zs : List Nat} {ps : Array Value} {cs : List (Addr × Obj)} (hts : ts.length = 7) (hVi : IntsAre uV (ts.map fun n : Nat => (n : Int)))
    (hord : OrdInv ts 7 zs) (hO : IntsAre uO (zs.map fun n : Nat => (n : Int))) (hT : TabOk ((envL L).qual ++ Str.ofString "<lambda>") ps cs)
    (st0 : St w (envL L) h [] ((aO, LO uO mO) :: (aV, LO uV mV) :: (aA, LO uA mA) :: (aC, LO uC mC) :: (aI, LO uI mI) :: (a5, LO u5 m5) :: CL L ob (some (.ref aV)) none none none (some (.ref aO)) (some (.ref aA)) (some (.ref aC)) (some (.ref aI)) none (some (.ref a5)) (some vl) ((tabA, tabObj ps) :: cs)) rs h1)
    (k : ∀ h' tk' ps cs, TabOk ((envL L).qual ++ Str.ofString "<lambda>") ps cs →
      St w (envL L) h [] ((aO, LO uO mO) :: (aV, LO uV mV) :: (aA, LO uA mA) :: (aC, LO uC mC) :: (aI, LO uI mI) :: (a5, LO u5 m5) :: CL L ob (some (.ref aV)) none none none (some (.ref aO)) (some (.ref aA)) (some (.ref aC)) (some (.ref aI)) none (some (.ref a5)) (some vl) ((tabA, tabObj ps) :: cs)) rs h' →
      wpC (MM w) (AL L) (execs ((bdyAt 23).drop 10) (envL L)) Q NoE (Sh c h' tk')) :
    wpC (MM w) (AL L) (execs ((bdyAt 23).drop 9) (envL L)) Q NoE (Sh c h1 tk) := by
  have c_turns : (callEnvC fdLaw L 187).cells.lookup (Str.ofString "turns") = some (L + 11) := by kernel_rfl!
  have c_states : (callEnvC fdLaw L 187).cells.lookup (Str.ofString "states") = some (L + 10) := by kernel_rfl!
  have c_count : (callEnvC fdLaw L 187).cells.lookup (Str.ofString "count") = some (L + 9) := by kernel_rfl!
  have c_done : (callEnvC fdLaw L 187).cells.lookup (Str.ofString "done") = some (L + 8) := by kernel_rfl!
  have c_order : (callEnvC fdLaw L 187).cells.lookup (Str.ofString "order") = some (L + 7) := by kernel_rfl!
  have c_amounts : (callEnvC fdLaw L 187).cells.lookup (Str.ofString "amounts") = some (L + 6) := by kernel_rfl!
  have c_covers : (callEnvC fdLaw L 187).cells.lookup (Str.ofString "covers") = some (L + 5) := by kernel_rfl!
  have c_items : (callEnvC fdLaw L 187).cells.lookup (Str.ofString "items") = some (L + 4) := by kernel_rfl!
  have c_k : (callEnvC fdLaw L 187).cells.lookup (Str.ofString "k") = some (L + 3) := by kernel_rfl!
  have c_cells : (callEnvC fdLaw L 187).cells.lookup (Str.ofString "cells") = some (L + 2) := by kernel_rfl!
  have c_script : (callEnvC fdLaw L 187).cells.lookup (Str.ofString "script") = some (L + 1) := by kernel_rfl!
  have hA : (AL L).handled = none := rfl
  have hrm : Rm 12 (AL L) := (rmL L).less (by decide)
  have htg : ∀ a, a < 7 → (ts.map fun n : Nat => (n : Int))[a]? = some ((ts.getD a 0 : Nat) : Int) := fun a ha => by
    rw [List.getElem?_map, List.getD_eq_getElem?_getD, List.getElem?_eq_getElem (by (first | lia | omega))]; rfl
  refine c_consD (bdyAt 23) 9 rfl (wpC_of ?_)
  repeat' (walk_at "M.x")
  refine ⟨_, _, _, _, _, _, _, rfl, by simp, st0, ?_⟩
  intro h2 a2 st2 k2
  repeat' (walk_at "M.x")
  obtain ⟨u2, hu2, st2⟩ : ∃ u2, IntsAre u2 ((List.range 7).map fun n : Nat => (n : Int)) ∧ St w (callEnvC fdLaw L 187) h _ ((a2, LO u2 0) :: _) _ h2 := ⟨_, .cons _ _ (.cons _ _ (.cons _ _ (.cons _ _ (.cons _ _ (.cons _ _ (.cons _ _ .nil)))))), st2⟩
  refine r_lambda [_, _, _, _, _, _, _, _, _, _, _, _, _, _, _, _, _, _] (clos := [(Str.ofString "turns", L + 11)]) st2 hT rfl (by kernel_rfl!) (by kernel_rfl!) ?_
  intro f pm c' ctv oc ps' cs' h6 tk6 hT' hoc hco st6
  simp only [List.cons_append, List.nil_append] at st6
  repeat' (walk_at "M.x")
  have hul : u2.length = 7 := by rw [hu2.length]; simp
  have hgf := st6.get (.head _)
  have hgc : h6.CodeRec (.ref c') ((envL L).qual ++ Str.ofString "<lambda>") := by
    obtain ⟨us, t, e1, e2⟩ := hco
    exact ⟨c', oc, us, t, rfl, st6.get (by repeat' (first | exact hoc | apply List.mem_cons_of_mem)), e1, e2⟩
  refine r_sortedT (us := u2) (kz := (List.range 7).map fun j => (((ts.getD j 0 : Nat) : Int), if j % 2 = 0 then (j : Int) else -(j : Int))) (key := ocode ts) (f := .ref f) st6 (lo_isList (st6.get (.tail _ (.head _)))) (by (first | lia | omega)) (by (first | lia | omega)) (by rw [hul]; simp) (ksk_s1 _ _) (fun _ => ksk_l1 _ _) (fun _ => ksk_t1 _ _) ?_ ?_ ?_ ?_
  · intro i j hi hj hij
    unfold ocode
    split <;> split <;> (first | lia | omega)
  · intro i j x y hx hy
    rw [List.getElem?_map] at hx hy
    obtain ⟨i', hi', rfl⟩ := Option.map_eq_some_iff.mp hx
    obtain ⟨j', hj', rfl⟩ := Option.map_eq_some_iff.mp hy
    obtain ⟨i1, i2⟩ := List.getElem?_eq_some_iff.mp hi'
    obtain ⟨j1, j2⟩ := List.getElem?_eq_some_iff.mp hj'
    simp only [List.getElem_range] at i2 j2
    subst i2 j2
    simp only [List.length_range] at i1 j1
    unfold ocode
    try dsimp only
    split <;> split <;> (first | lia | omega)
  · intro j v z h' tk' X rs' Q' hv hz st qq
    have hj : j < 7 := by have := (List.getElem?_eq_some_iff.mp hv).1; (first | lia | omega)
    rw [List.getElem?_map, List.getElem?_range hj] at hz
    cases hz
    obtain ⟨t, ht⟩ := ints_at hu2 (k := j) (z := (j : Int)) (by rw [List.getElem?_map, List.getElem?_range hj]; rfl)
    rw [ht] at hv; cases hv
    have hgT : Heap.get? h' (L + 11) = some (CellW (ob (L + 11)) (some (.ref aV))) := st.get (List.mem_append_right _ (by walk_at "M.mem"))
    have hgV : Heap.get? h' aV = some (LO uV mV) := st.get (List.mem_append_right _ (by walk_at "M.mem"))
    have hgf : Heap.get? h' f = _ := st.get (List.mem_append_right _ (.head _))
    have hgc : Heap.CodeRec h' (.ref c') ((envL L).qual ++ Str.ofString "<lambda>") := by
      obtain ⟨us, t, e1, e2⟩ := hco
      exact ⟨c', oc, us, t, rfl, st.get (List.mem_append_right _ (by repeat' (first | exact hoc | apply List.mem_cons_of_mem))), e1, e2⟩
    refine enterLam (fd := kla_fn _ _ _ _ _ _ _ _ _) st.kph hgf rfl rfl hgc (by kernel_rfl!) (by kernel_rfl!) (by kernel_rfl!) rfl rfl (binds := [(Str.ofString "one", .int (j : Int) t)]) (BindsTo.of_eq (by kernel_rfl!)) (by kernel_rfl!) (by kernel_rfl!) rfl ?_ ?_
    · show (AL L).depth < 900; have := hrm.1; (first | lia | omega)
    · intro L2 h8 tk8 st8
      repeat' (walk_at "M.x")
      refine r_itemI (k := j) (st8.keep _ _ hgV) hVi rfl (htg j hj) (by simp [hts]) (by kernel_rfl!) fun t9 => ?_
      have hfm : (j : Int).fmod 2 = ((j % 2 : Nat) : Int) := fmod_nat j 2
      repeat' (walk_at "M.x")
      refine ⟨fun he => ?_, fun he => ?_⟩
      · have he2 : j % 2 = 0 := by
          have : (j : Int).fmod 2 = 0 := by simpa using he
          (first | lia | omega)
        simp only [if_pos he2] at qq
        repeat' (walk_at "M.x")
        refine ⟨_, _, rfl, by simp, fun h9 a9 k9 ht9 => ?_⟩
        exact qq a9 _ _ (st8.keep.trans k9) (.tup ht9 (.cons (.int _ _) (.cons (.int _ _) .nil)))
      · have he2 : ¬ j % 2 = 0 := by
          have : ¬ (j : Int).fmod 2 = 0 := by simpa using he
          (first | lia | omega)
        simp only [if_neg he2] at qq
        repeat' (walk_at "M.x")
        refine ⟨_, _, rfl, by simp, fun h9 a9 k9 ht9 => ?_⟩
        exact qq a9 _ _ (st8.keep.trans k9) (.tup ht9 (.cons (.int _ _) (.cons (.int _ _) .nil)))
  · intro aD hD tkD p mD hp hpw stD
    rw [hul] at hp
    have hpz : p = zs := ord_uniq (R := fun a b => ocode ts a < ocode ts b) (fun a b h1 h2 => by (first | lia | omega)) (hp.trans hord.1.symm) hpw hord.2
    subst hpz
    have hID : IntsAre (p.map fun i => u2.getD i .none) (p.map fun n : Nat => (n : Int)) := by
      have : ∀ l : List Nat, (∀ a ∈ l, a < 7) → IntsAre (l.map fun i => u2.getD i .none) (l.map fun n : Nat => (n : Int)) := fun l => by
        induction l with
        | nil => intro _; exact .nil
        | cons a l ih =>
          intro hl
          obtain ⟨t, ht⟩ := ints_at hu2 (k := a) (z := (a : Int)) (by rw [List.getElem?_map, List.getElem?_range (hl a (.head _))]; rfl)
          rw [List.map_cons, List.map_cons, List.getD_eq_getElem?_getD, ht]
          exact .cons _ _ (ih fun b hb => hl b (.tail _ hb))
      exact this p hord.lt
    refine ke_ne_ints (s := Sh c hD tkD) (lo_isList (stD.get (by walk_at "M.mem") : Heap.get? hD aO = some (LO uO mO))) (lo_isList (stD.get (.head _))) hO hID (by have := hrm.2; show _ < 9900; (first | lia | omega)) ?_
    rw [decide_eq_true rfl]
    repeat' (walk_at "M.x")
    refine ⟨fun e => absurd e (by decide), fun _ => ?_⟩
    repeat' (walk_at "M.x")
    have st9 := stD.drop1.drop1.drop1
    exact @k hD _ ps' cs' hT' st9
end
end
section
noncomputable def besL : List Nat := [172, 174, 846, 848, 6149, 6151, 6154, 6158, 8202, 8206, 8287, 8289, 65023, 65040, 65278, 65280, 7296, 43888]
noncomputable def behs : List (List Int) := [[45], [47], [58], [64], [91], [97], [122], []]
structure KB (h base : Heap) (L : Addr) (ob : Addr → Obj) (ds : List Nat) (x6 x7 c5 : Int) (zs : List Nat) (aB : Addr) : Prop where
  ext : Ext h base
  ord : ∃ a us m, base.get? (L + 7) = some (CellW (ob (L + 7)) (some (.ref a))) ∧ base.get? a = some (LO us m) ∧ IntsAre us (zs.map fun n : Nat => (n : Int))
  amt : ∃ a us m, base.get? (L + 6) = some (CellW (ob (L + 6)) (some (.ref a))) ∧ base.get? a = some (LO us m) ∧ IntsAre us [x6, x7]
  cov : ∃ a us m, base.get? (L + 5) = some (CellW (ob (L + 5)) (some (.ref a))) ∧ base.get? a = some (LO us m) ∧ StrsAre us (ds.map fun d => S [unseenF (d / 1248 % 27)])
  itm : ∃ a us m, base.get? (L + 4) = some (CellW (ob (L + 4)) (some (.ref a))) ∧ base.get? a = some (LO us m) ∧ us.length = ds.length ∧ ∀ r ∈ us.zip (ds.map dIt), Rep base r.1 r.2
  cel : ∃ a us m, ∃ c0 c1 c2 c3 c4 c6 c7 : Int, base.get? (L + 2) = some (CellW (ob (L + 2)) (some (.ref a))) ∧ base.get? a = some (LO us m) ∧ IntsAre us [c0, c1, c2, c3, c4, c5, c6, c7]
  beh : ∃ us m, base.get? aB = some (LO us m) ∧ us.length = 8 ∧ ∀ (j : Nat) bh, behs[j]? = some bh → ∃ a ub mb, us[j]? = some (.ref a) ∧ base.get? a = some (LO ub mb) ∧ IntsAre ub bh
noncomputable abbrev C4 (L : Addr) (ob : Addr → Obj) (aS : Addr) (v_count v_done v_k : Option Value) (tl : List (Addr × Obj)) : List (Addr × Obj) := Cl L ob 10 (some (.ref aS)) :: Cl L ob 9 v_count :: Cl L ob 8 v_done :: Cl L ob 3 v_k :: tl
section
variable {w : World} {c : Shared} {h : Heap} {tk : Nat} {A : Around}
theorem ph_e {L : Addr} {ob : Addr → Obj} {aV aA aC aI a5 : Addr} {uV uA uC uI u5 : List Value} {mV mA mC mI m5 : Nat} {vl : Value} {ds : List Nat} {x6 x7 c0 c1 c2 c3 c4 c5 c6 c7 : Int} {Q : Flow → Shared → Prop} {h1 : Heap} {aO : Addr} {uO : List Value} {mO : Nat} {zs : List Nat} {ps : Array Value} {cs : List (Addr × Obj)}
    (hO : IntsAre uO (zs.map fun n : Nat => (n : Int))) (hT : TabOk ((envL L).qual ++ Str.ofString "<lambda>") ps cs) (h5 : IntsAre u5 [c0, c1, c2, c3, c4, c5, c6, c7]) (hAm : IntsAre uA [x6, x7]) (hCo : StrsAre uC (ds.map fun d => S [unseenF (d / 1248 % 27)])) (hIl : uI.length = ds.length)
    (st0 : St w (envL L) h [] ((aO, LO uO mO) :: (aV, LO uV mV) :: (aA, LO uA mA) :: (aC, LO uC mC) :: (aI, LO uI mI) :: (a5, LO u5 m5) :: CL L ob (some (.ref aV)) none none none (some (.ref aO)) (some (.ref aA)) (some (.ref aC)) (some (.ref aI)) none (some (.ref a5)) (some vl) ((tabA, tabObj ps) :: cs)) (uI.zip (ds.map dIt)) h1)
    (k : ∀ base h' tk' aB aS bs tb, KB h base L ob ds x6 x7 c5 zs aB → bs ∈ besL →
      St w (envL L) base [("behind", .ref aB), ("beside", .str (S [bs]) tb)] ((aS, LO [] 0) :: C4 L ob aS none none none ((tabA, tabObj ps) :: cs)) [] h' →
      wpC (MM w) (AL L) (execs ((bdyAt 23).drop 14) (envL L)) Q NoE (Sh c h' tk')) :
    wpC (MM w) (AL L) (execs ((bdyAt 23).drop 10) (envL L)) Q NoE (Sh c h1 tk) := by
  have c_turns : (callEnvC fdLaw L 187).cells.lookup (Str.ofString "turns") = some (L + 11) := by kernel_rfl!
  have c_states : (callEnvC fdLaw L 187).cells.lookup (Str.ofString "states") = some (L + 10) := by kernel_rfl!
  have c_count : (callEnvC fdLaw L 187).cells.lookup (Str.ofString "count") = some (L + 9) := by kernel_rfl!
  have c_done : (callEnvC fdLaw L 187).cells.lookup (Str.ofString "done") = some (L + 8) := by kernel_rfl!
  have c_order : (callEnvC fdLaw L 187).cells.lookup (Str.ofString "order") = some (L + 7) := by kernel_rfl!
  have c_amounts : (callEnvC fdLaw L 187).cells.lookup (Str.ofString "amounts") = some (L + 6) := by kernel_rfl!
  have c_covers : (callEnvC fdLaw L 187).cells.lookup (Str.ofString "covers") = some (L + 5) := by kernel_rfl!
  have c_items : (callEnvC fdLaw L 187).cells.lookup (Str.ofString "items") = some (L + 4) := by kernel_rfl!
  have c_k : (callEnvC fdLaw L 187).cells.lookup (Str.ofString "k") = some (L + 3) := by kernel_rfl!
  have c_cells : (callEnvC fdLaw L 187).cells.lookup (Str.ofString "cells") = some (L + 2) := by kernel_rfl!
  have c_script : (callEnvC fdLaw L 187).cells.lookup (Str.ofString "script") = some (L + 1) := by kernel_rfl!
  have hA : (AL L).handled = none := rfl
  refine c_cons ?_
  refine wpC_of ?_
  repeat' (walk_at "M.x")
  refine ⟨_, _, _, _, _, _, _, rfl, by simp, st0, ?_⟩
  intro h2 a2 st2 k2
  obtain ⟨u2, hu2, st2⟩ : ∃ u2, IntsAre u2 ([172, 174, 846, 848, 6149, 6151, 6154, 6158, 8202, 8206, 8287, 8289, 65023, 65040, 65278, 65280] : List Int) ∧ St w (callEnvC fdLaw L 187) h _ ((a2, LO u2 0) :: _) _ h2 := ⟨_, .cons _ _ (.cons _ _ (.cons _ _ (.cons _ _ (.cons _ _ (.cons _ _ (.cons _ _ (.cons _ _ (.cons _ _ (.cons _ _ (.cons _ _ (.cons _ _ (.cons _ _ (.cons _ _ (.cons _ _ (.cons _ _ .nil))))))))))))))), st2⟩
  repeat' (walk_at "M.x")
  rename St w _ h _ _ _ _ => st3
  refine c_cons ?_
  refine wpC_of ?_
  repeat' (walk_at "M.x")
  refine ⟨_, _, _, _, _, _, _, rfl, by simp, st3, ?_⟩
  intro h4 a4 st4 k4
  obtain ⟨u4, hu4, st4⟩ : ∃ u4, IntsAre u4 ([7296, 43888] : List Int) ∧ St w (callEnvC fdLaw L 187) h _ ((a4, LO u4 0) :: _) _ h4 := ⟨_, .cons _ _ (.cons _ _ .nil), st4⟩
  refine r_addLL st4 (lo_isList (st4.get (by walk_at "M.mem") : Heap.get? _ a2 = some (LO u2 0))) (lo_isList (st4.get (by walk_at "M.mem") : Heap.get? _ a4 = some (LO u4 0))) (by rw [hu2.length, hu4.length]; decide) fun a6 h6 st6 => ?_
  have hu6 : IntsAre (u2 ++ u4) (besL.map fun n : Nat => (n : Int)) := by
    rw [show (besL.map fun n : Nat => (n : Int)) = ([172, 174, 846, 848, 6149, 6151, 6154, 6158, 8202, 8206, 8287, 8289, 65023, 65040, 65278, 65280] : List Int) ++ [7296, 43888] by decide]
    exact IntsAre.append hu2 hu4
  generalize u2 ++ u4 = u6 at st6 hu6
  repeat' (walk_at "M.x")
  refine r_sum st6 hA (lo_isList (st6.get (by walk_at "M.mem") : Heap.get? _ a5 = some (LO u5 m5))) h5 fun h7 t7 tk7 st7 => ?_
  repeat' (walk_at "M.x")
  generalize List.sum [c0, c1, c2, c3, c4, c5, c6, c7] = sm
  obtain ⟨kk, hk, hk18⟩ : ∃ kk : Nat, sm.fmod 18 = (kk : Int) ∧ kk < 18 := by
    have h1 := Int.fmod_nonneg_of_pos sm (b := 18) (by decide)
    have h2 := Int.fmod_lt_of_pos sm (b := 18) (by decide)
    exact ⟨(sm.fmod 18).toNat, by (first | lia | omega), by (first | lia | omega)⟩
  rw [hk]
  have hbm : besL[kk]? = some (besL.getD kk 0) := by
    rw [List.getD_eq_getElem?_getD, List.getElem?_eq_getElem (show kk < besL.length from hk18)]; rfl
  refine r_itemI (k := kk) (z := ((besL.getD kk 0 : Nat) : Int)) (st7.get (.head _)) hu6 rfl (by rw [List.getElem?_map, hbm]; rfl) (by decide) (by kernel_rfl!) fun t8 => ?_
  have hbs : besL.getD kk 0 ∈ besL := List.mem_of_getElem? hbm
  generalize besL.getD kk 0 = bs at hbs
  have hlt : bs < 70000 := List.all_eq_true.mp (by decide : (besL.all fun b => decide (b < 70000)) = true) _ hbs |> of_decide_eq_true
  repeat' (walk_at "M.x")
  refine r_chr (by (first | lia | omega)) (by (first | lia | omega)) ?_
  rw [Int.toNat_natCast]
  intro t9 tk9
  have st7 := st7.drop1.drop1.drop1
  clear st6 st4 st3 st2 st0
  repeat' (walk_at "M.x")
  rename St w _ h _ _ _ _ => st8
  clear st7
  refine c_cons ?_
  refine wpC_of ?_
  walk_at "M.x"
  walk_at "M.x"
  refine r_args_cons ?_
  walk_at "M.x"
  repeat' (walk_at "M.x")
  refine ⟨_, _, _, _, _, _, _, rfl, by simp, st8, ?_⟩
  clear st8
  intro hb0 ab0 st8 kb0
  obtain ⟨ub0, hub0, st8⟩ : ∃ ub, IntsAre ub [45] ∧ St w (callEnvC fdLaw L 187) h _ ((ab0, LO ub 0) :: _) _ hb0 := ⟨_, .cons _ _ .nil, st8⟩
  refine r_args_cons ?_
  walk_at "M.x"
  repeat' (walk_at "M.x")
  refine ⟨_, _, _, _, _, _, _, rfl, by simp, st8, ?_⟩
  clear st8
  intro hb1 ab1 st8 kb1
  obtain ⟨ub1, hub1, st8⟩ : ∃ ub, IntsAre ub [47] ∧ St w (callEnvC fdLaw L 187) h _ ((ab1, LO ub 0) :: _) _ hb1 := ⟨_, .cons _ _ .nil, st8⟩
  refine r_args_cons ?_
  walk_at "M.x"
  repeat' (walk_at "M.x")
  refine ⟨_, _, _, _, _, _, _, rfl, by simp, st8, ?_⟩
  clear st8
  intro hb2 ab2 st8 kb2
  obtain ⟨ub2, hub2, st8⟩ : ∃ ub, IntsAre ub [58] ∧ St w (callEnvC fdLaw L 187) h _ ((ab2, LO ub 0) :: _) _ hb2 := ⟨_, .cons _ _ .nil, st8⟩
  refine r_args_cons ?_
  walk_at "M.x"
  repeat' (walk_at "M.x")
  refine ⟨_, _, _, _, _, _, _, rfl, by simp, st8, ?_⟩
  clear st8
  intro hb3 ab3 st8 kb3
  obtain ⟨ub3, hub3, st8⟩ : ∃ ub, IntsAre ub [64] ∧ St w (callEnvC fdLaw L 187) h _ ((ab3, LO ub 0) :: _) _ hb3 := ⟨_, .cons _ _ .nil, st8⟩
  refine r_args_cons ?_
  walk_at "M.x"
  repeat' (walk_at "M.x")
  refine ⟨_, _, _, _, _, _, _, rfl, by simp, st8, ?_⟩
  clear st8
  intro hb4 ab4 st8 kb4
  obtain ⟨ub4, hub4, st8⟩ : ∃ ub, IntsAre ub [91] ∧ St w (callEnvC fdLaw L 187) h _ ((ab4, LO ub 0) :: _) _ hb4 := ⟨_, .cons _ _ .nil, st8⟩
  refine r_args_cons ?_
  walk_at "M.x"
  repeat' (walk_at "M.x")
  refine ⟨_, _, _, _, _, _, _, rfl, by simp, st8, ?_⟩
  clear st8
  intro hb5 ab5 st8 kb5
  obtain ⟨ub5, hub5, st8⟩ : ∃ ub, IntsAre ub [97] ∧ St w (callEnvC fdLaw L 187) h _ ((ab5, LO ub 0) :: _) _ hb5 := ⟨_, .cons _ _ .nil, st8⟩
  refine r_args_cons ?_
  walk_at "M.x"
  repeat' (walk_at "M.x")
  refine ⟨_, _, _, _, _, _, _, rfl, by simp, st8, ?_⟩
  clear st8
  intro hb6 ab6 st8 kb6
  obtain ⟨ub6, hub6, st8⟩ : ∃ ub, IntsAre ub [122] ∧ St w (callEnvC fdLaw L 187) h _ ((ab6, LO ub 0) :: _) _ hb6 := ⟨_, .cons _ _ .nil, st8⟩
  refine r_args_cons ?_
  walk_at "M.x"
  repeat' (walk_at "M.x")
  refine ⟨_, _, _, _, _, _, _, rfl, by simp, st8, ?_⟩
  clear st8
  intro hb7 ab7 st8 kb7
  obtain ⟨ub7, hub7, st8⟩ : ∃ ub, IntsAre ub [] ∧ St w (callEnvC fdLaw L 187) h _ ((ab7, LO ub 0) :: _) _ hb7 := ⟨_, .nil, st8⟩
  refine r_args_nil ?_
  refine ⟨_, _, _, _, _, _, _, rfl, by simp, st8, ?_⟩
  clear st8
  intro hB aB st8 kB
  repeat' (walk_at "M.x")
  rename St w _ h _ _ _ _ => st9
  refine c_cons ?_
  refine wpC_of ?_
  repeat' (walk_at "M.x")
  refine ⟨_, _, _, _, _, _, _, rfl, by simp, st9, ?_⟩
  clear st9
  intro hS aS st9 kS
  repeat' (walk_at "M.x")
  rename St w _ h _ _ _ _ => st10
  obtain ⟨base, stF, hmv, hrp, x1, x2⟩ := st10.freeze (ns' := (aS, LO [] 0) :: C4 L ob aS none none none ((tabA, tabObj ps) :: cs)) (.right (.left (.left (.left (.left (.left (.left (.left (.left (.left (.left (.left (.left (.left (.left (.left (.left (.right (.right (.right (.left (.left (.left (.left (.right (.left (.left .rest))))))))))))))))))))))))))) (fun p hp => by
    rcases List.mem_cons.mp hp with rfl | hp
    · exact .list
    rcases List.mem_cons.mp hp with rfl | hp
    · exact .cell
    rcases List.mem_cons.mp hp with rfl | hp
    · exact .cell
    rcases List.mem_cons.mp hp with rfl | hp
    · exact .cell
    rcases List.mem_cons.mp hp with rfl | hp
    · exact .cell
    rcases List.mem_cons.mp hp with rfl | hp
    · exact .inl (fun e => by cases e)
    · exact .code (hT.2.2 p hp))
  have gt : ∀ {a o}, (a, o) ∈ _ → Heap.get? base a = some o := fun {a o} hm => hmv (a, o) hm
  refine @k base _ _ aB aS bs _ ⟨x1, ⟨aO, uO, mO, gt (by walk_at "M.mem"), gt (by walk_at "M.mem"), hO⟩, ⟨aA, uA, mA, gt (by walk_at "M.mem"), gt (by walk_at "M.mem"), hAm⟩, ⟨aC, uC, mC, gt (by walk_at "M.mem"), gt (by walk_at "M.mem"), hCo⟩, ⟨aI, uI, mI, gt (by walk_at "M.mem"), gt (by walk_at "M.mem"), hIl, hrp⟩,
    ⟨a5, u5, m5, c0, c1, c2, c3, c4, c6, c7, gt (by walk_at "M.mem"), gt (by walk_at "M.mem"), h5⟩, ⟨_, _, gt (a := aB) (by walk_at "M.mem"), by simp, ?_⟩⟩ hbs stF.dropReps
  intro j bh hj
  match j, hj with
  | 0, hj => cases hj; exact ⟨ab0, ub0, _, rfl, gt (by walk_at "M.mem"), hub0⟩
  | 1, hj => cases hj; exact ⟨ab1, ub1, _, rfl, gt (by walk_at "M.mem"), hub1⟩
  | 2, hj => cases hj; exact ⟨ab2, ub2, _, rfl, gt (by walk_at "M.mem"), hub2⟩
  | 3, hj => cases hj; exact ⟨ab3, ub3, _, rfl, gt (by walk_at "M.mem"), hub3⟩
  | 4, hj => cases hj; exact ⟨ab4, ub4, _, rfl, gt (by walk_at "M.mem"), hub4⟩
  | 5, hj => cases hj; exact ⟨ab5, ub5, _, rfl, gt (by walk_at "M.mem"), hub5⟩
  | 6, hj => cases hj; exact ⟨ab6, ub6, _, rfl, gt (by walk_at "M.mem"), hub6⟩
  | 7, hj => cases hj; exact ⟨ab7, ub7, _, rfl, gt (by walk_at "M.mem"), hub7⟩
  | j + 8, hj => cases hj
end
end
section
section
open PySem.AutoSeq1 (wpAny_loadPart')
open PySem.SeqAt (EqAt)
noncomputable def RcO (op : CmpOp) (A : Around) (s : Shared) (y x : Value) (b : Bool) : Prop :=
  ∀ (prog : Program) (w : World) (E : Value → Shared → Prop) (Q : Value → Shared → Prop), Q (.bool b) s → wpAny (model prog w) A (richCompare op y x) Q E s
noncomputable def cmpRes (e r : Nat → Bool) (fin : Bool) : List Nat → Bool
  | [] => fin
  | j :: js => if e j then cmpRes e r fin js else r j
theorem cmpRes_nil {e r : Nat → Bool} {fin : Bool} : cmpRes e r fin [] = fin := rfl
theorem cmpRes_cons {e r : Nat → Bool} {fin : Bool} {j : Nat} {js : List Nat} : cmpRes e r fin (j :: js) = if e j then cmpRes e r fin js else r j := rfl
theorem tup_ltM (l b : Addr) (items items2 : Array Value) (n n2 : Nat) (dd dd2 : Option Addr) (sl sl2 : Array (Option Value)) (e r : Nat → Bool) (fn : Bool) (hfn : Builtin.Tuple.tupleCompareSizes .Lt items.size items2.size = .bool fn) :
    Meets (Builtin.«tuple.__lt__» ⟨[.ref l, .ref b], []⟩)
      (fun A R s => s.heap.get? l = some { cls := .type "tuple", dict := dd, data := .seq items n, slots := sl } ∧ s.heap.get? b = some { cls := .type "tuple", dict := dd2, data := .seq items2 n2, slots := sl2 } ∧
        (∀ j (h1 : j < items.size) (h2 : j < items2.size), EqAt A.in1 s items[j] items2[j] (e j) ∧ RcO .Lt A.in1 s items[j] items2[j] (r j)) ∧
        R (.ok (.ret (.bool (cmpRes e r fn (List.range (min items.size items2.size)))))) s) :=
  .of_wp fun prog w A R s h => by
    obtain ⟨hp, g, d, tk, os⟩ := s; obtain ⟨hl, hb, he, h⟩ := h
    have f2 := AutoSeq1.sub_tuple_tuple
    have hZ : (items.toList.zip items2.toList).length = min items.size items2.size := by simp
    wp_walk using wpAny_loadPart' hl, wpAny_loadPart' hb, wpAny_forIn_list _ (fun rest b s' => b.1 = none ∧ s' = ⟨hp, g, d, tk, os⟩ ∧ ∃ i, rest = (items.toList.zip items2.toList).drop i ∧
      R (.ok (.ret (.bool (cmpRes e r fn ((List.range (min items.size items2.size)).drop i))))) ⟨hp, g, d, tk, os⟩) _
    case turn =>
      rintro ⟨y, x⟩ rest b s' ⟨hb', rfl, i, hz, hR⟩
      have hlt : i < (items.toList.zip items2.toList).length := by
        rcases Nat.lt_or_ge i (items.toList.zip items2.toList).length with h' | h'
        · exact h'
        · rw [List.drop_of_length_le h'] at hz; cases hz
      have hm : i < min items.size items2.size := hZ ▸ hlt
      have h1 : i < items.size := Nat.lt_of_lt_of_le hm (Nat.min_le_left _ _)
      have h2 : i < items2.size := Nat.lt_of_lt_of_le hm (Nat.min_le_right _ _)
      rw [List.drop_eq_getElem_cons hlt] at hz
      injection hz with hyx hrest
      have hy : y = items[i] := by have := congrArg Prod.fst hyx; simpa using this
      have hx : x = items2[i] := by have := congrArg Prod.snd hyx; simpa using this
      subst hy hx
      have hd : (List.range (min items.size items2.size)).drop i = i :: (List.range (min items.size items2.size)).drop (i + 1) := by simp [List.drop_eq_getElem_cons, hm]
      rw [hd, cmpRes_cons] at hR
      refine wpAny_bind ((he i h1 h2).1 prog w _ _ ?_)
      cases hy : e i with
      | true =>
        rw [hy] at hR
        wp_walk
        exact ⟨rfl, rfl, i + 1, hrest, by simpa using hR⟩
      | false =>
        rw [hy] at hR
        refine wpAny_bind (wpAny_rule (wpAny_bind ((he i h1 h2).2 prog w _ _ (wpAny_bind (wpAny_pure (wpAny_pure ?_))))))
        exact wpAny_pure ⟨_, rfl, by simpa using hR⟩
    case fin =>
      rintro ⟨b1, b2⟩ s' ⟨hb', rfl, i, hz, hR⟩
      simp only at hb'
      subst hb'
      have hge : min items.size items2.size ≤ i := by
        rcases Nat.lt_or_ge i (items.toList.zip items2.toList).length with h' | h'
        · rw [List.drop_eq_getElem_cons h'] at hz; cases hz
        · exact hZ ▸ h'
      rw [List.drop_of_length_le (by simpa using hge)] at hR
      wp_walk
      exact ⟨_, rfl, by rw [hfn]; simpa [cmpRes_nil] using hR⟩
    case h =>
      exact ⟨rfl, rfl, 0, rfl, by simpa using h⟩
theorem r_ltT {w : World} {A : Around} {E : Value → Shared → Prop} {c : Shared} {h : Heap} {tk : Nat} {a b : Addr} {x y x' y' : Int} {t u t' u' : Tok} {Q : Value → Shared → Prop} (ha : IsTup h a #[.int x t, .int y u]) (hb : IsTup h b #[.int x' t', .int y' u']) (hu : A.units < cLine)
    (q : Q (.bool (decide (x < x' ∨ (x = x' ∧ y < y')))) (Sh c h tk)) : wpAny (MM w) A (compareOp .Lt (.ref a) (.ref b)) Q E (Sh c h tk) := by
  obtain ⟨⟨cls, dd, data, sl⟩, ho, hc, n, hd⟩ := id ha
  obtain ⟨⟨cls2, dd2, data2, sl2⟩, ho2, hc2, n2, hd2⟩ := id hb
  simp only at hc hd hc2 hd2
  subst hc hd hc2 hd2
  refine richCompare_meets_room (op := .Lt) ⟨_, ho, rfl⟩ ⟨_, ho2, rfl⟩ F.slot_tuple_lt F.entry_tuple_lt (F.args_tuple_lt_2 _ _) (tup_ltM a b _ _ n n2 dd dd2 sl sl2 (fun j => if j = 0 then x == x' else y == y') (fun j => if j = 0 then decide (x < x') else decide (y < y')) false rfl)
    ⟨ho, ho2, fun j h1 h2 => ?_, (fun z => nomatch z), ?_⟩ hu
  · have hj : j = 0 ∨ j = 1 := by have : j < 2 := h1; (first | lia | omega)
    rcases hj with rfl | rfl
    · exact ⟨fun prog w E Q q => wpAny_eqBool_int q, fun prog w E Q q => PySem.P.lt_int q⟩
    · exact ⟨fun prog w E Q q => wpAny_eqBool_int q, fun prog w E Q q => PySem.P.lt_int q⟩
  · rw [show cmpRes (fun j => if j = 0 then x == x' else y == y') (fun j => if j = 0 then decide (x < x') else decide (y < y')) false (List.range (min (#[Value.int x t, Value.int y u] : Array Value).size (#[Value.int x' t', Value.int y' u'] : Array Value).size)) = decide (x < x' ∨ (x = x' ∧ y < y')) from ?_]
    · exact q
    · show cmpRes _ _ _ [0, 1] = _
      simp only [cmpRes_cons, cmpRes_nil, if_pos, if_neg (show ¬ (1 : Nat) = 0 by decide)]
      by_cases e1 : x = x'
      · by_cases e2 : y = y'
        · simp [e1, e2]
        · simp [e1, e2]
      · simp only [beq_eq_false_iff_ne.mpr e1, Bool.false_eq_true, if_false, decide_eq_decide]
        (first | lia | omega)
theorem tup_leM (l b : Addr) (items items2 : Array Value) (n n2 : Nat) (dd dd2 : Option Addr) (sl sl2 : Array (Option Value)) (e r : Nat → Bool) (fn : Bool) (hfn : Builtin.Tuple.tupleCompareSizes .LtE items.size items2.size = .bool fn) :
    Meets (Builtin.«tuple.__le__» ⟨[.ref l, .ref b], []⟩)
      (fun A R s => s.heap.get? l = some { cls := .type "tuple", dict := dd, data := .seq items n, slots := sl } ∧ s.heap.get? b = some { cls := .type "tuple", dict := dd2, data := .seq items2 n2, slots := sl2 } ∧
        (∀ j (h1 : j < items.size) (h2 : j < items2.size), EqAt A.in1 s items[j] items2[j] (e j) ∧ RcO .LtE A.in1 s items[j] items2[j] (r j)) ∧
        R (.ok (.ret (.bool (cmpRes e r fn (List.range (min items.size items2.size)))))) s) :=
  .of_wp fun prog w A R s h => by
    obtain ⟨hp, g, d, tk, os⟩ := s; obtain ⟨hl, hb, he, h⟩ := h
    have f2 := AutoSeq1.sub_tuple_tuple
    have hZ : (items.toList.zip items2.toList).length = min items.size items2.size := by simp
    wp_walk using wpAny_loadPart' hl, wpAny_loadPart' hb, wpAny_forIn_list _ (fun rest b s' => b.1 = none ∧ s' = ⟨hp, g, d, tk, os⟩ ∧ ∃ i, rest = (items.toList.zip items2.toList).drop i ∧
      R (.ok (.ret (.bool (cmpRes e r fn ((List.range (min items.size items2.size)).drop i))))) ⟨hp, g, d, tk, os⟩) _
    case turn =>
      rintro ⟨y, x⟩ rest b s' ⟨hb', rfl, i, hz, hR⟩
      have hlt : i < (items.toList.zip items2.toList).length := by
        rcases Nat.lt_or_ge i (items.toList.zip items2.toList).length with h' | h'
        · exact h'
        · rw [List.drop_of_length_le h'] at hz; cases hz
      have hm : i < min items.size items2.size := hZ ▸ hlt
      have h1 : i < items.size := Nat.lt_of_lt_of_le hm (Nat.min_le_left _ _)
      have h2 : i < items2.size := Nat.lt_of_lt_of_le hm (Nat.min_le_right _ _)
      rw [List.drop_eq_getElem_cons hlt] at hz
      injection hz with hyx hrest
      have hy : y = items[i] := by have := congrArg Prod.fst hyx; simpa using this
      have hx : x = items2[i] := by have := congrArg Prod.snd hyx; simpa using this
      subst hy hx
      have hd : (List.range (min items.size items2.size)).drop i = i :: (List.range (min items.size items2.size)).drop (i + 1) := by simp [List.drop_eq_getElem_cons, hm]
      rw [hd, cmpRes_cons] at hR
      refine wpAny_bind ((he i h1 h2).1 prog w _ _ ?_)
      cases hy : e i with
      | true =>
        rw [hy] at hR
        wp_walk
        exact ⟨rfl, rfl, i + 1, hrest, by simpa using hR⟩
      | false =>
        rw [hy] at hR
        refine wpAny_bind (wpAny_rule (wpAny_bind ((he i h1 h2).2 prog w _ _ (wpAny_bind (wpAny_pure (wpAny_pure ?_))))))
        exact wpAny_pure ⟨_, rfl, by simpa using hR⟩
    case fin =>
      rintro ⟨b1, b2⟩ s' ⟨hb', rfl, i, hz, hR⟩
      simp only at hb'
      subst hb'
      have hge : min items.size items2.size ≤ i := by
        rcases Nat.lt_or_ge i (items.toList.zip items2.toList).length with h' | h'
        · rw [List.drop_eq_getElem_cons h'] at hz; cases hz
        · exact hZ ▸ h'
      rw [List.drop_of_length_le (by simpa using hge)] at hR
      wp_walk
      exact ⟨_, rfl, by rw [hfn]; simpa [cmpRes_nil] using hR⟩
    case h =>
      exact ⟨rfl, rfl, 0, rfl, by simpa using h⟩
theorem r_leT {w : World} {A : Around} {E : Value → Shared → Prop} {c : Shared} {h : Heap} {tk : Nat} {a b : Addr} {x y x' y' : Int} {t u t' u' : Tok} {Q : Value → Shared → Prop} (ha : IsTup h a #[.int x t, .int y u]) (hb : IsTup h b #[.int x' t', .int y' u']) (hu : A.units < cLine)
    (q : Q (.bool (decide (x < x' ∨ (x = x' ∧ y ≤ y')))) (Sh c h tk)) : wpAny (MM w) A (compareOp .LtE (.ref a) (.ref b)) Q E (Sh c h tk) := by
  obtain ⟨⟨cls, dd, data, sl⟩, ho, hc, n, hd⟩ := id ha
  obtain ⟨⟨cls2, dd2, data2, sl2⟩, ho2, hc2, n2, hd2⟩ := id hb
  simp only at hc hd hc2 hd2
  subst hc hd hc2 hd2
  refine richCompare_meets_room (op := .LtE) ⟨_, ho, rfl⟩ ⟨_, ho2, rfl⟩ F.slot_tuple_le F.entry_tuple_le (F.args_tuple_le_2 _ _) (tup_leM a b _ _ n n2 dd dd2 sl sl2 (fun j => if j = 0 then x == x' else y == y') (fun j => if j = 0 then decide (x ≤ x') else decide (y ≤ y')) true rfl)
    ⟨ho, ho2, fun j h1 h2 => ?_, (fun z => nomatch z), ?_⟩ hu
  · have hj : j = 0 ∨ j = 1 := by have : j < 2 := h1; (first | lia | omega)
    rcases hj with rfl | rfl
    · exact ⟨fun prog w E Q q => wpAny_eqBool_int q, fun prog w E Q q => PySem.P.le_int q⟩
    · exact ⟨fun prog w E Q q => wpAny_eqBool_int q, fun prog w E Q q => PySem.P.le_int q⟩
  · rw [show cmpRes (fun j => if j = 0 then x == x' else y == y') (fun j => if j = 0 then decide (x ≤ x') else decide (y ≤ y')) true (List.range (min (#[Value.int x t, Value.int y u] : Array Value).size (#[Value.int x' t', Value.int y' u'] : Array Value).size)) = decide (x < x' ∨ (x = x' ∧ y ≤ y')) from ?_]
    · exact q
    · show cmpRes _ _ _ [0, 1] = _
      simp only [cmpRes_cons, cmpRes_nil, if_pos, if_neg (show ¬ (1 : Nat) = 0 by decide)]
      by_cases e1 : x = x'
      · by_cases e2 : y = y'
        · simp [e1, e2]
        · simp [e1, e2]
      · simp only [beq_eq_false_iff_ne.mpr e1, Bool.false_eq_true, if_false, decide_eq_decide]
        (first | lia | omega)
end
section
variable {w : World} {env : Env} {h₀ h h' : Heap} {vs : List (Str × Value)} {ns : List (Addr × Obj)} {rs : List (Value × D)} {A : Around} {E : Value → Shared → Prop} {c : Shared} {tk : Nat}
inductive ForCQ (w : World) (A : Around) (env : Env) (c : Shared) (h₀ : Heap) {X : Type} (xn : Str) (body : List Stmt) (V : Nat → X → List (Str × Value)) (N : Nat → X → Option Value → List (Addr × Obj)) (R : Nat → X → List (Value × D)) (F : Nat → X → Prop) (Q : Flow → Shared → Prop) (it : Value) (s₂ : Shared) : Prop
  | mk (I : Addr) (o : Obj) (h₂ : Heap) (tk₂ : Nat) (n : Nat) (fx : List (Addr × Obj)) (P : Nat → Value → Prop) (itP : Nat → Obj → Prop) (x0 : X) (cv0 : Option Value) (q0 : it = .ref I) (q1 : s₂ = Sh c h₂ tk₂) (q2 : It w A I fx n P itP) (q3 : itP 0 o) (q4 : St w env h₀ (V 0 x0) ((I, o) :: N 0 x0 cv0) (R 0 x0) h₂) (q5 : F 0 x0) (q6 : (∀ i x cv o h, St w env h₀ (V i x) ((I, o) :: N i x cv) (R i x) h → ∀ p ∈ fx, h.get? p.1 = some p.2)) (q7 : (∀ i v o h tk x (Q1 : Flow → Shared → Prop) (E1 : Value → Shared → Prop), i < n → P i v → itP (i + 1) o → F i x → St w env h₀ (V i x) ((I, o) :: N i x (some v)) (R i x) h →
        (∀ x' h' tk', F (i + 1) x' → St w env h₀ (V (i + 1) x') ((I, o) :: N (i + 1) x' (some v)) (R (i + 1) x') h' → Q1 .next (Sh c h' tk')) →
        wpAny (MM w) A (execs body env) Q1 NoE (Sh c h tk))) (q8 : (∀ x cv h tk, F n x → St w env h₀ (V n x) (N n x cv) (R n x) h → Q .next (Sh c h tk))) : ForCQ w A env c h₀ xn body V N R F Q it s₂
theorem r_forC {X : Type} {xn : Str} {px pos : Pos} {iter : Expr} {body : List Stmt} {Q : Flow → Shared → Prop} (ac : Addr) (oc : Obj) (V : Nat → X → List (Str × Value)) (N : Nat → X → Option Value → List (Addr × Obj)) (R : Nat → X → List (Value × D)) (F : Nat → X → Prop)
    (hk : env.kindOf xn = some .cell) (hc : env.cells.lookup xn = some ac) (hP : ∀ i x cv v, PutA ac (CellW oc cv) (CellW oc (some v)) (N i x cv) (N i x (some v))) (hs : ∀ x, foldedSetIterable iter env x = Pure.pure x)
    (q : ∀ T : Value → Shared → Prop, Imp (ForCQ w A env c h₀ xn body V N R F Q) T → wpAny (MM w) A (eval iter env) (fun xv s₁ => wpAny (MM w) A (pyIter xv) T E s₁) E (Sh c h tk)) :
    wpAny (MM w) A (exec (.For (.Name xn px) iter body [] pos) env) Q E (Sh c h tk) := by
  refine wpAny_For (wpAny_mono (q _ (Imp.refl _)) (fun xv s₁ q₁ => wpAny_mono q₁ (fun it s₂ q₂ => ?_) fun _ _ x => x) fun _ _ x => x) hs
  obtain ⟨I, o, h₂, tk₂, n, fx, P, itP, x0, cv0, rfl, rfl, W, ho, st, hF, hfx, turn, fin⟩ := q₂
  refine codeAny_forLoop (fun k s => ∃ i x cv o h tk, s = Sh c h tk ∧ k = n - i ∧ i ≤ n ∧ itP i o ∧ F i x ∧ St w env h₀ (V i x) ((I, o) :: N i x cv) (R i x) h) ?_ n ⟨0, x0, cv0, o, h₂, tk₂, rfl, rfl, Nat.zero_le _, ho, hF, st⟩
  rintro k s ⟨i, x, cv, o, h, tk, rfl, rfl, hi, ho, hF, st⟩
  rcases Nat.lt_or_ge i n with hlt | hge
  · refine W.item i _ o _ _ hlt ho (st.led _ List.mem_cons_self).1 (hfx i x cv o h st) fun v h' tk' o' hP' hsb hg ho' => ?_
    have st' := st.write .here hsb hg (noTup_of (st.led _ List.mem_cons_self).1 (W.ntup _ _ ho))
    refine wpAny_assign_Name ?_
    refine r_cellStore (c := c) st' hk hc (.there (hP i x cv v)) fun h'' st'' => ?_
    refine wpAny_mono (turn i v o' h'' tk' x (fun f s₃ => match f with
      | .next | .cont => ∃ m, m < n - i ∧ ∃ i' x cv o h tk, s₃ = Sh c h tk ∧ m = n - i' ∧ i' ≤ n ∧ itP i' o ∧ F i' x ∧ St w env h₀ (V i' x) ((I, o) :: N i' x cv) (R i' x) h
      | .brk => Q .next s₃
      | .ret v => Q (.ret v) s₃) NoE hlt hP' ho' hF st'' (fun x' h3 tk3 hF3 st3 => ⟨n - (i + 1), by (first | lia | omega), i + 1, x', some v, o', h3, tk3, rfl, rfl, hlt, ho', hF3, st3⟩)) (fun f s₃ y => ?_) fun _ _ y => y.elim
    cases f <;> exact y
  · obtain rfl : i = n := Nat.le_antisymm hi hge
    refine W.done _ o _ _ ho (st.led _ List.mem_cons_self).1 (hfx i x cv o h st) fun h' he => ?_
    refine wpAny_execs_nil ?_
    exact fin x cv h' tk hF (st.lose (W.ntup _ _ ho) he)
theorem strs_vals {ys : List Value} {zs : List Str} (x : StrsAre ys zs) : ∃ l : List (Str × Tok), ys = strValues l ∧ l.map (fun p => p.1) = zs := by
  induction x with
  | nil => exact ⟨[], rfl, rfl⟩
  | cons y t _ ih =>
    obtain ⟨l, e1, e2⟩ := ih
    exact ⟨(y, t) :: l, by rw [e1]; rfl, by rw [List.map_cons, e2]⟩
theorem join_S : ∀ ls : List (List Nat), Str.join (Str.ofString "") (ls.map S) = S ls.flatten
  | [] => rfl
  | [x] => by simp [Str.join]
  | x :: y :: r => by
    have ih := join_S (y :: r)
    rw [List.map_cons, List.map_cons, Str.join, ← List.map_cons, ih]
    · rw [show S x ++ Str.ofString "" = S x from (S_append x []).trans (by rw [List.append_nil]), S_append]; rfl
    · simp
theorem r_inI {k : Int} {t : Tok} {a : Addr} {us : List Value} {zs : List Int} {Q : Value → Shared → Prop} (hl : h.IsList a us.toArray) (hi : IntsAre us zs) (q : Q (.bool (decide (k ∈ zs))) (Sh c h tk)) :
    wpAny (MM w) A (compareOp .In (.int k t) (.ref a)) Q E (Sh c h tk) := by
  refine PyProof.Rows.in_list_ints (s := Sh c h tk) hl hi ?_
  rw [show (zs.any fun x => x == k) = decide (k ∈ zs) by rw [Bool.eq_iff_iff]; simp]
  exact q
theorem r_neS {x y : Str} {t u : Tok} {Q : Value → Shared → Prop} (q : Q (.bool (x.cps.toList != y.cps.toList)) (Sh c h tk)) : wpAny (MM w) A (compareOp .NotEq (.str x t) (.str y u)) Q E (Sh c h tk) := PySem.P.ne_str q
theorem r_joinM {t : Tok} {pl : Sem Bool} {x : Str} {Q : Value × List Value → Shared → Prop} (q : Q (.builtin "str.join", [.str x t]) (Sh c h tk)) : wpAny (MM w) A (getMethod (.str x t) (Str.ofString "join") pl) Q E (Sh c h tk) := PySem.GM.join q
theorem r_joinC {t : Tok} {a : Addr} {ys : List Value} {ls : List (List Nat)} {Q : Value → Shared → Prop} (hl : h.IsList a ys.toArray) (hy : StrsAre ys (ls.map S)) (hsz : ls.flatten.length < 100000)
    (q : ∀ t' tk', Q (.str (S ls.flatten) t') (Sh c h tk')) : wpAny (MM w) A (call (.builtin "str.join") [.str (Str.ofString "") t, .ref a] []) Q E (Sh c h tk) := by
  obtain ⟨l, rfl, e⟩ := strs_vals hy
  refine PySem.SC.join (s := Sh c h tk) (texts := ls.map S) hl e ?_ fun t' k => ?_
  · have key : ∀ (ls : List (List Nat)) (n : Nat), (ls.map S).foldl (fun a b => a + b.length + (Str.ofString "").length) n = n + ls.flatten.length := fun ls => by
      induction ls with
      | nil => intro n; rfl
      | cons x r ih =>
        intro n
        rw [List.map_cons, List.foldl_cons, ih, S_len, List.flatten_cons, List.length_append, show (Str.ofString "").length = 0 from rfl]
        (first | lia | omega)
    unfold JoinOk
    rw [List.foldl_toArray]
    rw [key]
    unfold Builtin.Str.tooLong
    rw [sizeLine_eq]
    simp only [Bool.not_eq_true', decide_eq_false_iff_not, gt_iff_lt]; (first | lia | omega)
  · rw [show Txt.join (Str.ofString "") (ls.map S) = S ls.flatten from ?_]
    · exact q _ _
    · exact (StrLaws.glued_eq_join _ _).trans (join_S ls)
end
section
variable {w : World} {A : Around} {E : Value → Shared → Prop} {c : Shared} {h : Heap} {tk : Nat}
noncomputable def pyNum (p : Nat × Int) : PyData := .tuple [.int (p.1 : Int), .int p.2]
theorem reads_num {h : Heap} : ∀ {vs : List Value} {l : List (Nat × Int)}, Reps h vs (l.map dNum) → ReadsAll h vs (l.map pyNum) []
  | [], [], _ => .nil
  | v :: vs, p :: l, r => by
    cases r with
    | cons r1 r2 =>
      obtain ⟨a, rfl⟩ : ∃ a, v = .ref a := by cases r1; exact ⟨_, rfl⟩
      obtain ⟨us, ⟨o, ho, hcl, n, hd⟩, hR⟩ := rep_tup r1
      refine .cons (as := []) (bs := []) (.tuple ho hcl hd ?_) (reads_num r2)
      cases hR with
      | cons r3 r4 =>
        cases r4 with
        | cons r5 r6 =>
          cases r3; cases r5; cases r6
          exact .cons (as := []) (bs := []) (.int _ _) (.cons (as := []) (bs := []) (.int _ _) .nil)
theorem lay_num : ∀ l : List (Nat × Int), PyData.canLayAll0 (l.map pyNum) = true ∧ PyData.depthAll (l.map pyNum) ≤ 1
  | [] => ⟨rfl, by simp [PyData.depthAll]⟩
  | p :: l => by
    obtain ⟨h1, h2⟩ := lay_num l
    constructor
    · simp [PyData.canLayAll0, PyData.canLay0, pyNum, h1]
    · simp only [List.map_cons, PyData.depthAll, pyNum, PyData.depth]; (first | lia | omega)
theorem r_neRows {a b : Addr} {oa ob : Obj} {xs ys : List Value} {ma mb : Nat} {l : List (Nat × Int)} {Q : Value → Shared → Prop} (ha : h.get? a = some oa) (hca : oa.cls = .type "list") (hda : oa.data = .seq xs.toArray ma) (hb : h.get? b = some ob) (hcb : ob.cls = .type "list") (hdb : ob.data = .seq ys.toArray mb)
    (hx : Reps h xs (l.map dNum)) (hy : Reps h ys (l.map dNum)) (hu : A.units + 8 < cLine) (q : Q (.bool false) (Sh c h tk)) : wpAny (MM w) A (compareOp .NotEq (.ref a) (.ref b)) Q E (Sh c h tk) := by
  obtain ⟨h1, h2⟩ := lay_num l
  have hl : (PyData.list (l.map pyNum)).canLay0 = true := by simp only [PyData.canLay0]; exact h1
  refine PySem.SeqAt.compareNe_reads (s := Sh c h tk) (.list ha hca hda (reads_num hx)) (.list hb hcb hdb (reads_num hy)) hl hl ?_ ?_
  · simp only [PyData.depth]; (first | lia | omega)
  · rw [show PyData.eqv (PyData.list (l.map pyNum)) (PyData.list (l.map pyNum)) = true from PySem.SeqAt.eqv_refl _ hl]; exact q
end
end
section
theorem sliceL_take {α : Type} (l : List α) (d : Nat) (hl : l.length < 100000) : sliceL l none (some (d : Int)) none = l.take d := by
  unfold sliceL sliceBounds
  simp only [Option.getD_none, show (1 : Int) > 0 by decide, if_true, if_neg (show ¬ ((d : Int) < 0) by (first | lia | omega))]
  rw [show max 0 (min (d : Int) (l.length : Int)) = ((min d l.length : Nat) : Int) by (first | lia | omega), show (0 : Int) = ((0 : Nat) : Int) from rfl, sliceRange1]
  have key : ∀ n, n ≤ l.length → ((List.range n).map (0 + ·)).filterMap (l[·]?) = l.take n := by
    intro n
    induction n with
    | zero => intro _; simp
    | succ n ih =>
      intro hn
      have e : l[n]? = some l[n] := List.getElem?_eq_getElem (by (first | lia | omega))
      rw [List.range_succ, List.map_append, List.filterMap_append, ih (by (first | lia | omega)), List.take_add_one]
      simp [e]
  rw [Nat.sub_zero, key _ (Nat.min_le_right _ _)]
  rw [Nat.min_def]; split
  · rfl
  · rw [List.take_length, List.take_of_length_le (by (first | lia | omega))]
noncomputable def wIn (zs : List Nat) (d k : Nat) : Bool := decide (k ∈ zs.take d)
theorem wIn_eq (zs : List Nat) (d k : Nat) (hz : zs.length < 100000) (x : Int) (hx : x = (k : Int)) : decide (x ∈ sliceL (zs.map fun n : Nat => (n : Int)) none (some (d : Int)) none) = wIn zs d k := by
  rw [sliceL_take _ _ (by simpa using hz), ← List.map_take, hx, wIn, decide_eq_decide]
  constructor
  · intro h
    obtain ⟨y, hy, e⟩ := List.mem_map.mp h
    rw [← Int.ofNat_inj.mp e]; exact hy
  · exact fun h => List.mem_map_of_mem h
noncomputable def wSign (ds zs : List Nat) (d k : Nat) : List Nat := if wIn zs d k then (typedF (ds.getD k 0)).1 else [unseenF (ds.getD k 0 / 1248 % 27)]
noncomputable def wTyped (ds zs : List Nat) (d : Nat) : List Nat := ((List.range 5).map (wSign ds zs d)).flatten
noncomputable def wText (ds zs : List Nat) (d : Nat) : List Nat := (((List.range 5).filter (wIn zs d)).map fun k => (typedF (ds.getD k 0)).2).flatten
noncomputable def wBias (x6 x7 c5 : Int) (zs : List Nat) (d : Nat) : Int := c5 - (((List.range 2).filter fun k => wIn zs d (k + 5)).map fun k => [x6, x7].getD k 0).sum
noncomputable def wRow (ds : List Nat) (x6 x7 c5 : Int) (zs : List Nat) (d : Nat) : List (Nat × Int) := cntGo (wBias x6 x7 c5 zs d) (wText ds zs d) [] 0
noncomputable def tailF (n : Nat) (row : List (Nat × Int)) : Int := match row.getLast? with | some p => (n : Int) - (p.1 : Int) | none => (n : Int)
noncomputable def wSt (ds : List Nat) (x6 x7 c5 : Int) (zs : List Nat) (d : Nat) : Int × Int := ((wRow ds x6 x7 c5 zs d).length, tailF (wText ds zs d).length (wRow ds x6 x7 c5 zs d))
noncomputable def dSt (p : Int × Int) : D := .tup [.int p.1, .int p.2]
structure WOk (ds zs : List Nat) (bs d : Nat) : Prop where
  lf : LF (wText ds zs d)
  lt : (wText ds zs d).length < 100
  ly : (wTyped ds zs d).length < 100
  low : ∀ ch ∈ wTyped ds zs d ++ [bs], (Txt.lower (S [ch])).length < 100 ∧ (mapB3 ch).length < 100
  prep : prepF (wTyped ds zs d ++ [bs]) = wText ds zs d ++ [bs]
theorem reps_zip : ∀ {h : Heap} {vs : List Value} {ds : List D}, Reps h vs ds → vs.length = ds.length ∧ ∀ r ∈ vs.zip ds, Rep h r.1 r.2
  | _, [], [], _ => ⟨rfl, fun _ hr => nomatch hr⟩
  | _, v :: vs, d :: ds, r => by
    cases r with
    | cons r1 r2 =>
      obtain ⟨h1, h2⟩ := reps_zip r2
      refine ⟨by simp [h1], fun r hr => ?_⟩
      rcases List.mem_cons.mp hr with rfl | hr
      · exact r1
      · exact h2 r hr
theorem St.afterLaw {w : World} {env : Env} {h₀ h h' : Heap} {vs : List (Str × Value)} {ns : List (Addr × Obj)} {rs : List (Value × D)} (st : St w env h₀ vs ns rs h) (hf : env.frame = some env.locals) (x : Slots (fsOf [env]) h h') : St w env h₀ vs ns rs h' := by
  obtain ⟨fl', lu, st'⟩ := St.afterDec (l := []) (ns₁ := ns) (fl := []) (by rw [List.append_nil]; exact st) hf rfl x
  cases lu
  rw [List.append_nil] at st'
  exact st'
theorem FFr.one {w : World} {env : Env} {h₀ h : Heap} {vs : List (Str × Value)} {ns : List (Addr × Obj)} {rs : List (Value × D)} (st : St w env h₀ vs ns rs h) (hf : env.frame = some env.locals) : FFr w h [env] :=
  st.dropLed.ffr (l := []) hf (fun _ hp => nomatch hp) (fun _ hp => nomatch hp) (fun _ hp => nomatch hp) (by simp [fsOf])
theorem St.admR {w : World} {env : Env} {h₀ h h' : Heap} {vs : List (Str × Value)} {ns : List (Addr × Obj)} {rs : List (Value × D)} {a : Addr} {o : Obj} {items : List Value} {ds : List D} (st : St w env h₀ vs ns rs h) (hf : env.frame = some env.locals) (x : Slots (fsOf [env]) h h') (n : h.get? a = none) (g : h'.get? a = some o) (r : Reps h' items ds) :
    St w env h₀ vs ((a, o) :: ns) (items.zip ds ++ rs) h' := by
  obtain ⟨_, z⟩ := reps_zip r
  have st14 := (st.afterLaw hf x).admit (ns' := (a, o) :: ns) g ?_ ?_ ?_ (.refl _)
  · exact { st14 with rep := fun r hr => (List.mem_append.mp hr).elim (fun hr => z r hr) (fun hr => st14.rep r hr) }
  · cases e : h₀.get? a with
    | none => rfl
    | some o => rw [st.keep _ _ e] at n; cases n
  · intro e
    obtain ⟨mm, ⟨o, _, _, ho, _⟩, _⟩ := st.loc
    rw [e, n] at ho; cases ho
  · intro hm
    obtain ⟨p, hp, e⟩ := List.mem_map.mp hm
    have := (st.led p hp).1
    rw [e, n] at this; cases this
theorem row_cases {h : Heap} {items : List Value} {row : List (Nat × Int)} (hl : items.length = row.length) (hr : ∀ r ∈ items.zip (row.map dNum), Rep h r.1 r.2) :
    (items = [] ∧ row = []) ∨ ∃ vi r p a t1 t2, items = vi ++ [.ref a] ∧ row = r ++ [p] ∧ IsTup h a #[.int (p.1 : Int) t1, .int p.2 t2] := by
  rcases List.eq_nil_or_concat row with rfl | ⟨r, p, rfl⟩
  · exact .inl ⟨List.length_eq_zero_iff.mp hl, rfl⟩
  · right
    rcases List.eq_nil_or_concat items with rfl | ⟨vi, v, rfl⟩
    · simp at hl
    · simp only [List.concat_eq_append, List.length_append, List.length_singleton, Nat.add_right_cancel_iff] at hl hr
      simp only [List.concat_eq_append] at hr ⊢
      rw [List.map_append, List.zip_append (by simpa using hl)] at hr
      have h1 := hr (v, dNum p) (List.mem_append_right _ (.head _))
      obtain ⟨a, rfl⟩ : ∃ a, v = .ref a := by cases h1; exact ⟨_, rfl⟩
      obtain ⟨us, hT, hR⟩ := rep_tup h1
      cases hR with
      | cons r1 r2 =>
        cases r2 with
        | cons r3 r4 => cases r1; cases r3; cases r4; exact ⟨vi, r, p, a, _, _, rfl, rfl, hT⟩
theorem tailF_last (n : Nat) (r : List (Nat × Int)) (p : Nat × Int) : tailF n (r ++ [p]) = (n : Int) - (p.1 : Int) := by
  unfold tailF; simp
theorem St.perm {w : World} {env : Env} {h₀ h : Heap} {vs : List (Str × Value)} {ns ns' : List (Addr × Obj)} {rs : List (Value × D)} (st : St w env h₀ vs ns rs h) (hp : ns'.Perm ns) : St w env h₀ vs ns' rs h :=
  { st with led := fun p hm => st.led p (hp.mem_iff.mp hm), dis := ((hp.map _).cons _).nodup_iff.mpr st.dis }
theorem r_tlist {w : World} {A : Around} {E : Value → Shared → Prop} {c : Shared} {h : Heap} {tk : Nat} {a : Addr} {us : List Value} {Q : Bool → Shared → Prop} (hl : h.IsList a us.toArray) (hsz : us.length < 100000) (q : ∀ tk', Q (!us.isEmpty) (Sh c h tk')) : wpAny (MM w) A (truthy (.ref a)) Q E (Sh c h tk) := by
  refine wpAny_truthy_list (s := Sh c h tk) hl (by simp; (first | lia | omega)) ?_
  rw [show us.toArray.isEmpty = us.isEmpty by simp]
  exact q _
theorem cntGo_len (b : Int) : ∀ (l cur : List Nat) (p : Nat), (cntGo b l cur p).length ≤ l.length
  | [], _, _ => by exact Nat.le_refl _
  | ch :: r, cur, p => by
    rw [cntGo_cons]
    split
    · have := cntGo_len b r [] (p + 1); simp only [List.length_cons]; (first | lia | omega)
    · have := cntGo_len b r (cur ++ [ch]) (p + 1); simp only [List.length_cons]; (first | lia | omega)
end
section
structure XWs where
  us : List Value
  m : Nat
  aR : Addr
  oR : Obj
  items : List Value
  mR : Nat
  tbi : Tok
  tt : Tok
theorem rep_it {h : Heap} {v : Value} {d : Nat} (x : Rep h v (dIt d)) : ∃ a t1 t2, v = .ref a ∧ IsTup h a #[.str (S (typedF d).1) t1, .str (S (typedF d).2) t2] := by
  obtain ⟨a, rfl⟩ : ∃ a, v = .ref a := by cases x; exact ⟨_, rfl⟩
  obtain ⟨us, hT, hR⟩ := rep_tup x
  cases hR with
  | cons r1 r2 =>
    cases r2 with
    | cons r3 r4 => cases r1; cases r3; cases r4; exact ⟨_, _, _, rfl, hT⟩
theorem beh_ok {i : Nat} {bh : List Int} (h : behs[i]? = some bh) : ∃ bn : List Nat, bh = bn.map (fun n : Nat => (n : Int)) ∧ (bn = [] ∨ ∃ x, bn = [x] ∧ dig? x = none ∧ x < 256) := by
  have hm := List.mem_of_getElem? h
  simp only [behs, List.mem_cons, List.not_mem_nil, or_false] at hm
  rcases hm with rfl | rfl | rfl | rfl | rfl | rfl | rfl | rfl
  · exact ⟨[45], rfl, .inr ⟨_, rfl, by decide, by decide⟩⟩
  · exact ⟨[47], rfl, .inr ⟨_, rfl, by decide, by decide⟩⟩
  · exact ⟨[58], rfl, .inr ⟨_, rfl, by decide, by decide⟩⟩
  · exact ⟨[64], rfl, .inr ⟨_, rfl, by decide, by decide⟩⟩
  · exact ⟨[91], rfl, .inr ⟨_, rfl, by decide, by decide⟩⟩
  · exact ⟨[97], rfl, .inr ⟨_, rfl, by decide, by decide⟩⟩
  · exact ⟨[122], rfl, .inr ⟨_, rfl, by decide, by decide⟩⟩
  · exact ⟨[], rfl, .inl rfl⟩
noncomputable abbrev rStates (ds : List Nat) (x6 x7 c5 : Int) (zs : List Nat) (i : Nat) : List D := (List.range i).map fun d => dSt (wSt ds x6 x7 c5 zs d)
section
variable {w : World} {c : Shared} {h : Heap} {tk : Nat} {A : Around}
theorem ph_f {L : Addr} {ob : Addr → Obj} {base : Heap} {ds : List Nat} {x6 x7 c5 : Int} {zs : List Nat} {aB aS : Addr} {bs : Nat} {tb : Tok} {tl : List (Addr × Obj)} {Q : Flow → Shared → Prop} {h1 : Heap}
    (kb : KB h base L ob ds x6 x7 c5 zs aB) (hd5 : ds.length = 5) (hz : zs.length = 7) (hW : ∀ d, d < 8 → WOk ds zs bs d)
    (st0 : St w (envL L) base [(Str.ofString "behind", .ref aB), (Str.ofString "beside", .str (S [bs]) tb)] ((aS, LO [] 0) :: C4 L ob aS none none none tl) [] h1)
    (k : ∀ h' tk' (us : List Value) m aR (oR : Obj) (items : List Value) mR cd tbi tt, us.length = 8 → oR.cls = .type "list" → oR.data = .seq items.toArray mR → items.length = (wRow ds x6 x7 c5 zs 7).length →
      St w (envL L) base [(Str.ofString "row", .ref aR), (Str.ofString "bias", .int (wBias x6 x7 c5 zs 7) tbi), (Str.ofString "text", .str (S (wText ds zs 7)) tt), (Str.ofString "behind", .ref aB), (Str.ofString "beside", .str (S [bs]) tb)] ((aR, oR) :: (aS, LO us m) :: C4 L ob aS none cd none tl) (items.zip ((wRow ds x6 x7 c5 zs 7).map dNum) ++ us.zip (rStates ds x6 x7 c5 zs 8)) h' →
      wpC (MM w) (AL L) (execs ((bdyAt 23).drop 15) (envL L)) Q NoE (Sh c h' tk')) :
    wpC (MM w) (AL L) (execs ((bdyAt 23).drop 14) (envL L)) Q NoE (Sh c h1 tk) := by
  have c_turns : (callEnvC fdLaw L 187).cells.lookup (Str.ofString "turns") = some (L + 11) := by kernel_rfl!
  have c_states : (callEnvC fdLaw L 187).cells.lookup (Str.ofString "states") = some (L + 10) := by kernel_rfl!
  have c_count : (callEnvC fdLaw L 187).cells.lookup (Str.ofString "count") = some (L + 9) := by kernel_rfl!
  have c_done : (callEnvC fdLaw L 187).cells.lookup (Str.ofString "done") = some (L + 8) := by kernel_rfl!
  have c_order : (callEnvC fdLaw L 187).cells.lookup (Str.ofString "order") = some (L + 7) := by kernel_rfl!
  have c_amounts : (callEnvC fdLaw L 187).cells.lookup (Str.ofString "amounts") = some (L + 6) := by kernel_rfl!
  have c_covers : (callEnvC fdLaw L 187).cells.lookup (Str.ofString "covers") = some (L + 5) := by kernel_rfl!
  have c_items : (callEnvC fdLaw L 187).cells.lookup (Str.ofString "items") = some (L + 4) := by kernel_rfl!
  have c_k : (callEnvC fdLaw L 187).cells.lookup (Str.ofString "k") = some (L + 3) := by kernel_rfl!
  have c_cells : (callEnvC fdLaw L 187).cells.lookup (Str.ofString "cells") = some (L + 2) := by kernel_rfl!
  have c_script : (callEnvC fdLaw L 187).cells.lookup (Str.ofString "script") = some (L + 1) := by kernel_rfl!
  have hA : (AL L).handled = none := rfl
  have hrm : Rm 12 (AL L) := (rmL L).less (by decide)
  obtain ⟨aO, uO, mO, g_order, l_order, i_order⟩ := kb.ord
  obtain ⟨aA, uA, mA, g_amounts, l_amounts, i_amounts⟩ := kb.amt
  obtain ⟨aC, uC, mC, g_covers, l_covers, i_covers⟩ := kb.cov
  obtain ⟨aI, uI, mI, g_items, l_items, n_its, r_its⟩ := kb.itm
  obtain ⟨a5, u5, m5, c0, c1, c2, c3, c4, c6, c7, g_cells, l_cells, i_cells⟩ := kb.cel
  obtain ⟨uB, mB, l_beh, n_beh, hbeh⟩ := kb.beh
  refine c_cons ?_
  refine wpC_of ?_
  refine r_forC (h₀ := base) (X := XWs) (L + 8) (ob (L + 8))
    (fun i x => match i with
      | 0 => [(Str.ofString "behind", .ref aB), (Str.ofString "beside", .str (S [bs]) tb)]
      | i + 1 => (Str.ofString "row", .ref x.aR) :: (Str.ofString "bias", .int (wBias x6 x7 c5 zs i) x.tbi) :: (Str.ofString "text", .str (S (wText ds zs i)) x.tt) :: [(Str.ofString "behind", .ref aB), (Str.ofString "beside", .str (S [bs]) tb)])
    (fun i x cv => match i with
      | 0 => (aS, LO x.us x.m) :: C4 L ob aS none cv none tl
      | _ + 1 => (x.aR, x.oR) :: (aS, LO x.us x.m) :: C4 L ob aS none cv none tl)
    (fun i x => match i with
      | 0 => x.us.zip (rStates ds x6 x7 c5 zs 0)
      | i + 1 => x.items.zip ((wRow ds x6 x7 c5 zs i).map dNum) ++ x.us.zip (rStates ds x6 x7 c5 zs (i + 1)))
    (fun i x => x.us.length = i ∧ match i with
      | 0 => True
      | i + 1 => x.oR.cls = .type "list" ∧ x.oR.data = .seq x.items.toArray x.mR ∧ x.items.length = (wRow ds x6 x7 c5 zs i).length)
    ?_ c_done ?_ (fun _ => rfl) ?_
  · kernel_rfl!
  · intro i x cv v
    cases i with
    | zero => exact .there (.there (.there .here))
    | succ i => exact .there (.there (.there (.there .here)))
  intro Tq iTq
  repeat' (walk_at "M.x")
  refine r_rng1 (n := 8) (by decide) fun h4 tk4 k4 => ?_
  have st4 := (st0.ext k4).alloc (o := RIt 0 ((8 : Nat) : Int) 1) rfl
  generalize h4.objs.size = I at st4
  refine iTq.use _ _ ⟨I, _, _, _, 8, [], _, _, ⟨[], 0, 0, default, [], 0, 0, 0⟩, none, rfl, rfl, It.range0 hA, RIt_0 _ _ _, st4, ⟨rfl, trivial⟩, (fun _ _ _ _ _ _ _ hp => nomatch hp), ?_, ?_⟩
  · rintro i v oI h5 tk5 x Q1 E1 hi ⟨t6, rfl⟩ - ⟨hus, -⟩ st5 hQ1
    have stc : St w (envL L) base [(Str.ofString "behind", .ref aB), (Str.ofString "beside", .str (S [bs]) tb)] ((I, oI) :: (aS, LO x.us x.m) :: C4 L ob aS none (some (.int (i : Int) t6)) none tl) (x.us.zip (rStates ds x6 x7 c5 zs i)) h5 := by
      cases i with
      | zero => exact st5
      | succ i => exact ((st5.sub (vs' := [(Str.ofString "behind", .ref aB), (Str.ofString "beside", .str (S [bs]) tb)]) (by walk_at "M.sub") (by kernel_rfl!)).ledSub (.cons₂ _ (.cons _ (.refl _)))).repSub fun r hr => List.mem_append_right _ hr
    clear st5 st4 st0
    obtain ⟨us, m, aR, oR, items, mR, tbi, tt⟩ := x
    dsimp only at hus stc
    clear aR oR items mR tbi tt
    have wk := hW i hi
    refine r_cons ?_
    repeat' (walk_at "M.x")
    refine r_method ?_ ?_ ?_
    · kernel_rfl!
    · rfl
    repeat' (walk_at "M.x")
    refine r_joinM ?_
    repeat' (walk_at "M.x")
    refine r_compF (List.range 5) (fun i v => ∃ u, v = Value.int (i : Int) u) (fun _ => true) (fun k => .str (S (wSign ds zs i k))) (cl := [(Str.ofString "order", L + 7), (Str.ofString "items", L + 4), (Str.ofString "done", L + 8), (Str.ofString "covers", L + 5)]) stc (by kernel_rfl!) (by kernel_rfl!) (by kernel_rfl!) (by kernel_rfl!) (by kernel_rfl!) (fun _ => rfl) (by decide) ?_
    intro Tq iTq
    repeat' (walk_at "M.x")
    refine r_rng1 (n := 5) (by decide) fun h6 tk6 k6 => ?_
    have st6 := stc.ext k6
    refine iTq.use _ _ ⟨_, _, _, [], _, rfl, rfl, it_range hA, RIt_0 _ _ _, rfl, (fun _ hp => nomatch hp), st6, ?_, ?_⟩
    · have b_order : Heap.get? h6 (L + 7) = some (CellW (ob (L + 7)) (some (.ref aO))) := st6.keep _ _ g_order
      have b_items : Heap.get? h6 (L + 4) = some (CellW (ob (L + 4)) (some (.ref aI))) := st6.keep _ _ g_items
      have b_covers : Heap.get? h6 (L + 5) = some (CellW (ob (L + 5)) (some (.ref aC))) := st6.keep _ _ g_covers
      have b_done : Heap.get? h6 (L + 8) = some (CellW (ob (L + 8)) (some (.int (i : Int) t6))) := st6.get (by walk_at "M.mem")
      have n_order : List.lookup (Str.ofString "order") ([(Str.ofString "order", L + 7), (Str.ofString "items", L + 4), (Str.ofString "done", L + 8), (Str.ofString "covers", L + 5)] : List (Str × Addr)) = some (L + 7) := by kernel_rfl!
      have n_items : List.lookup (Str.ofString "items") ([(Str.ofString "order", L + 7), (Str.ofString "items", L + 4), (Str.ofString "done", L + 8), (Str.ofString "covers", L + 5)] : List (Str × Addr)) = some (L + 4) := by kernel_rfl!
      have n_done : List.lookup (Str.ofString "done") ([(Str.ofString "order", L + 7), (Str.ofString "items", L + 4), (Str.ofString "done", L + 8), (Str.ofString "covers", L + 5)] : List (Str × Addr)) = some (L + 8) := by kernel_rfl!
      have n_covers : List.lookup (Str.ofString "covers") ([(Str.ofString "order", L + 7), (Str.ofString "items", L + 4), (Str.ofString "done", L + 8), (Str.ofString "covers", L + 5)] : List (Str × Addr)) = some (L + 5) := by kernel_rfl!
      rintro k v C I' oI' D' ys m' rs' h7 tk7 hk5 ⟨t7, rfl⟩ st7
      have hk5 : k < 5 := List.mem_range.mp hk5
      have kk := st6.keep.trans st7.keep
      refine fun Tt iTt => t_none (iTt.use _ _ ⟨rfl, _, _, rfl, st7, fun _ Tv iTv => ?_⟩)
      repeat' (walk_at "M.x")
      refine ⟨_, _, rfl, ?_⟩
      refine r_sliceL (lo := none) (hi := some (i : Int)) st7 (lo_isList (kk _ _ l_order)) .none (.int _ _) (by rw [i_order.length]; simp [hz]) (by kernel_rfl!) fun a8 h8 st8 => ?_
      refine r_inI (lo_isList (st8.led _ (.head _)).1) (slice_ints i_order _ _ _) ?_
      rw [wIn_eq zs i k (by (first | lia | omega)) _ rfl]
      repeat' (walk_at "M.x")
      have hdk : ds[k]? = some (ds.getD k 0) := by
        rw [List.getD_eq_getElem?_getD, List.getElem?_eq_getElem (by (first | lia | omega))]; rfl
      refine ⟨fun hin => ?_, fun hin => ?_⟩
      · obtain ⟨v, e1, e2⟩ := rep_at r_its (by simp [n_its]) (k := k) (d := dIt (ds.getD k 0)) (by rw [List.getElem?_map, hdk]; rfl)
        obtain ⟨at', t1, t2, rfl, hT⟩ := rep_it e2
        repeat' (walk_at "M.x")
        refine r_itemL (n := k) (lo_isList (st8.keep _ _ (st6.keep _ _ l_items))) rfl e1 (by (first | lia | omega)) (by kernel_rfl!) (fun _ => by kernel_rfl!) ?_
        repeat' (walk_at "M.x")
        refine r_any (r_itemT (k := 0) (items := [_, _]) ((hT.keeps st6.keep).keeps st8.keep) rfl (by simp) (by kernel_rfl!) (fun _ => by kernel_rfl!) ?_)
        refine iTv.use _ _ ⟨_, _, rfl, st8.drop1, ?_⟩
        show Rep _ _ (D.str (S (wSign ds zs i k)))
        rw [show wSign ds zs i k = (typedF (ds.getD k 0)).1 from if_pos hin]
        exact .str _ _
      · repeat' (walk_at "M.x")
        refine r_itemSs (k := k) (st8.keep _ _ (st6.keep _ _ l_covers)) i_covers rfl (by rw [List.getElem?_map, hdk]; rfl) (by rw [i_covers.length]; simp [hd5]) (by kernel_rfl!) fun t9 => ?_
        refine iTv.use _ _ ⟨_, _, rfl, st8.drop1, ?_⟩
        show Rep _ _ (D.str (S (wSign ds zs i k)))
        rw [show wSign ds zs i k = [unseenF (ds.getD k 0 / 1248 % 27)] from if_neg (by rw [hin]; decide)]
        exact .str _ _
    rw [filter_tt]
    intro a9 h9 tk9 u9 m9 st9 k9 _ hl9
    have e9 : ((List.range 5).map fun k => D.str (S (wSign ds zs i k))) = (((List.range 5).map (wSign ds zs i)).map S).map D.str := by rw [List.map_map, List.map_map]; rfl
    have hs9 : StrsAre u9 (((List.range 5).map (wSign ds zs i)).map S) := strs_of_reps (h := h9) (by rw [hl9]; simp) fun r hr => st9.rep r (List.mem_append_left _ (by rw [e9]; exact hr))
    have st10 := St.repSub (rs' := us.zip (rStates ds x6 x7 c5 zs i)) st9 fun r hr => List.mem_append_right _ hr
    clear st9 e9 st6 stc
    repeat' (walk_at "M.x")
    refine r_joinC (lo_isList (st10.get (.head _))) hs9 (by have := wk.ly; unfold wTyped at this; (first | lia | omega)) fun t11 tk11 => ?_
    rw [show ((List.range 5).map (wSign ds zs i)).flatten = wTyped ds zs i from rfl]
    have st11 := st10.drop1
    clear st10 hs9
    repeat' (walk_at "M.x")
    refine Later.mk ?_
    rename St w _ base _ _ _ _ => st12
    clear st11
    repeat' (walk_at "M.x")
    refine r_method ?_ ?_ ?_
    · kernel_rfl!
    · rfl
    repeat' (walk_at "M.x")
    refine r_joinM ?_
    repeat' (walk_at "M.x")
    refine r_compF (List.range 5) (fun i v => ∃ u, v = Value.int (i : Int) u) (wIn zs i) (fun k => .str (S (typedF (ds.getD k 0)).2)) (cl := [(Str.ofString "order", L + 7), (Str.ofString "items", L + 4), (Str.ofString "done", L + 8)]) st12 (by kernel_rfl!) (by kernel_rfl!) (by kernel_rfl!) (by kernel_rfl!) (by kernel_rfl!) (fun _ => rfl) (by decide) ?_
    intro Tq iTq
    repeat' (walk_at "M.x")
    refine r_rng1 (n := 5) (by decide) fun h6 tk6 k6 => ?_
    have st6 := st12.ext k6
    refine iTq.use _ _ ⟨_, _, _, [], _, rfl, rfl, it_range hA, RIt_0 _ _ _, rfl, (fun _ hp => nomatch hp), st6, ?_, ?_⟩
    · 
      have b_order : Heap.get? h6 (L + 7) = some (CellW (ob (L + 7)) (some (.ref aO))) := st6.keep _ _ g_order
      have n_order : List.lookup (Str.ofString "order") ([(Str.ofString "order", L + 7), (Str.ofString "items", L + 4), (Str.ofString "done", L + 8)] : List (Str × Addr)) = some (L + 7) := by kernel_rfl!
      have b_items : Heap.get? h6 (L + 4) = some (CellW (ob (L + 4)) (some (.ref aI))) := st6.keep _ _ g_items
      have n_items : List.lookup (Str.ofString "items") ([(Str.ofString "order", L + 7), (Str.ofString "items", L + 4), (Str.ofString "done", L + 8)] : List (Str × Addr)) = some (L + 4) := by kernel_rfl!
      have b_done : Heap.get? h6 (L + 8) = some (CellW (ob (L + 8)) (some (.int (i : Int) t6))) := st6.get (by walk_at "M.mem")
      have n_done : List.lookup (Str.ofString "done") ([(Str.ofString "order", L + 7), (Str.ofString "items", L + 4), (Str.ofString "done", L + 8)] : List (Str × Addr)) = some (L + 8) := by kernel_rfl!
      rintro k v C I' oI' D' ys m' rs' h7 tk7 hk5 ⟨t7, rfl⟩ st7
      have hk5 : k < 5 := List.mem_range.mp hk5
      have kk := st6.keep.trans st7.keep
      refine fun Tt iTt => t_one ?_
      repeat' (walk_at "M.x")
      refine ⟨_, _, rfl, ?_⟩
      refine r_sliceL (lo := none) (hi := some (i : Int)) st7 (lo_isList (kk _ _ l_order)) .none (.int _ _) (by rw [i_order.length]; simp [hz]) (by kernel_rfl!) fun a8 h8 st8 => ?_
      refine r_inI (lo_isList (st8.led _ (.head _)).1) (slice_ints i_order _ _ _) ?_
      rw [wIn_eq zs i k (by (first | lia | omega)) _ rfl]
      repeat' (walk_at "M.x")
      have hdk : ds[k]? = some (ds.getD k 0) := by
        rw [List.getD_eq_getElem?_getD, List.getElem?_eq_getElem (by (first | lia | omega))]; rfl
      have st8 := st8.drop1
      refine iTt.use _ _ ⟨rfl, _, _, rfl, st8, fun hin Tv iTv => ?_⟩
      obtain ⟨v, e1, e2⟩ := rep_at r_its (by simp [n_its]) (k := k) (d := dIt (ds.getD k 0)) (by rw [List.getElem?_map, hdk]; rfl)
      obtain ⟨at', t1, t2, rfl, hT⟩ := rep_it e2
      repeat' (walk_at "M.x")
      refine r_itemL (n := k) (lo_isList (st8.keep _ _ (st6.keep _ _ l_items))) rfl e1 (by (first | lia | omega)) (by kernel_rfl!) (fun _ => by kernel_rfl!) ?_
      repeat' (walk_at "M.x")
      refine r_any (r_itemT (k := 1) (items := [_, _]) ((hT.keeps st6.keep).keeps st8.keep) rfl (by simp) (by kernel_rfl!) (fun _ => by kernel_rfl!) ?_)
      exact iTv.use _ _ ⟨_, _, rfl, st8, .str _ _⟩
    intro a9 h9 tk9 u9 m9 st9 k9 _ hl9
    have e9 : (((List.range 5).filter (wIn zs i)).map fun k => D.str (S (typedF (ds.getD k 0)).2)) = ((((List.range 5).filter (wIn zs i)).map fun k => (typedF (ds.getD k 0)).2).map S).map D.str := by rw [List.map_map, List.map_map]; rfl
    have hs9 : StrsAre u9 ((((List.range 5).filter (wIn zs i)).map fun k => (typedF (ds.getD k 0)).2).map S) := strs_of_reps (h := h9) (by rw [hl9]; simp) fun r hr => st9.rep r (List.mem_append_left _ (by rw [e9]; exact hr))
    have st10 := St.repSub (rs' := us.zip (rStates ds x6 x7 c5 zs i)) st9 fun r hr => List.mem_append_right _ hr
    clear st9 e9 st6 st12
    repeat' (walk_at "M.x")
    refine r_joinC (lo_isList (st10.get (.head _))) hs9 (by have := wk.lt; unfold wText at this; (first | lia | omega)) fun t11 tk11 => ?_
    rw [show (((List.range 5).filter (wIn zs i)).map fun k => (typedF (ds.getD k 0)).2).flatten = wText ds zs i from rfl]
    have st11 := st10.drop1
    clear st10 hs9
    repeat' (walk_at "M.x")
    refine Later.mk ?_
    rename St w _ base _ _ _ _ => st12
    clear st11
    repeat' (walk_at "M.x")
    refine r_itemI (k := 5) (z := c5) (st12.keep _ _ l_cells) i_cells rfl rfl (by simp) (by kernel_rfl!) fun t13 => ?_
    repeat' (walk_at "M.x")
    refine r_compF (List.range 2) (fun i v => ∃ u, v = Value.int (i : Int) u) (fun k => wIn zs i (k + 5)) (fun k => .int ([x6, x7].getD k 0)) (cl := [(Str.ofString "order", L + 7), (Str.ofString "done", L + 8), (Str.ofString "amounts", L + 6)]) st12 (by kernel_rfl!) (by kernel_rfl!) (by kernel_rfl!) (by kernel_rfl!) (by kernel_rfl!) (fun _ => rfl) (by decide) ?_
    intro Tq iTq
    repeat' (walk_at "M.x")
    refine r_rng1 (n := 2) (by decide) fun h6 tk6 k6 => ?_
    have st6 := st12.ext k6
    refine iTq.use _ _ ⟨_, _, _, [], _, rfl, rfl, it_range hA, RIt_0 _ _ _, rfl, (fun _ hp => nomatch hp), st6, ?_, ?_⟩
    · 
      have b_order : Heap.get? h6 (L + 7) = some (CellW (ob (L + 7)) (some (.ref aO))) := st6.keep _ _ g_order
      have n_order : List.lookup (Str.ofString "order") ([(Str.ofString "order", L + 7), (Str.ofString "done", L + 8), (Str.ofString "amounts", L + 6)] : List (Str × Addr)) = some (L + 7) := by kernel_rfl!
      have b_done : Heap.get? h6 (L + 8) = some (CellW (ob (L + 8)) (some (.int (i : Int) t6))) := st6.get (by walk_at "M.mem")
      have n_done : List.lookup (Str.ofString "done") ([(Str.ofString "order", L + 7), (Str.ofString "done", L + 8), (Str.ofString "amounts", L + 6)] : List (Str × Addr)) = some (L + 8) := by kernel_rfl!
      have b_amounts : Heap.get? h6 (L + 6) = some (CellW (ob (L + 6)) (some (.ref aA))) := st6.keep _ _ g_amounts
      have n_amounts : List.lookup (Str.ofString "amounts") ([(Str.ofString "order", L + 7), (Str.ofString "done", L + 8), (Str.ofString "amounts", L + 6)] : List (Str × Addr)) = some (L + 6) := by kernel_rfl!
      rintro k v C I' oI' D' ys m' rs' h7 tk7 hk5 ⟨t7, rfl⟩ st7
      have hk5 : k < 2 := List.mem_range.mp hk5
      have kk := st6.keep.trans st7.keep
      refine fun Tt iTt => t_one ?_
      repeat' (walk_at "M.x")
      refine ⟨_, _, rfl, ?_⟩
      refine r_sliceL (lo := none) (hi := some (i : Int)) st7 (lo_isList (kk _ _ l_order)) .none (.int _ _) (by rw [i_order.length]; simp [hz]) (by kernel_rfl!) fun a8 h8 st8 => ?_
      refine r_inI (lo_isList (st8.led _ (.head _)).1) (slice_ints i_order _ _ _) ?_
      rw [wIn_eq zs i (k + 5) (by (first | lia | omega)) _ (by (first | lia | omega))]
      repeat' (walk_at "M.x")
      have st8 := st8.drop1
      refine iTt.use _ _ ⟨rfl, _, _, rfl, st8, fun hin Tv iTv => ?_⟩
      repeat' (walk_at "M.x")
      refine r_itemI (k := k) (st8.keep _ _ (st6.keep _ _ l_amounts)) i_amounts rfl (z := [x6, x7].getD k 0) (by rw [List.getD_eq_getElem?_getD, List.getElem?_eq_getElem (show k < [x6, x7].length from hk5)]; rfl) (by simp) (by kernel_rfl!) fun t9 => ?_
      exact iTv.use _ _ ⟨_, _, rfl, st8, .int _ _⟩
    intro a9 h9 tk9 u9 m9 st9 k9 _ hl9
    have e9 : (((List.range 2).filter fun k => wIn zs i (k + 5)).map fun k => D.int ([x6, x7].getD k 0)) = (((List.range 2).filter fun k => wIn zs i (k + 5)).map fun k => [x6, x7].getD k 0).map D.int := by rw [List.map_map]; rfl
    have hs9 : IntsAre u9 (((List.range 2).filter fun k => wIn zs i (k + 5)).map fun k => [x6, x7].getD k 0) := ints_of_reps (h := h9) (by rw [hl9]; simp) fun r hr => st9.rep r (List.mem_append_left _ (by rw [e9]; exact hr))
    have st10 := St.repSub (rs' := us.zip (rStates ds x6 x7 c5 zs i)) st9 fun r hr => List.mem_append_right _ hr
    clear st9 e9 st6 st12
    repeat' (walk_at "M.x")
    refine r_sum st10 hA (lo_isList (st10.get (.head _))) hs9 fun h11 t11 tk11 st11 => ?_
    have st11 := st11.drop1
    clear st10 hs9
    repeat' (walk_at "M.x")
    refine Later.mk ?_
    rename St w _ base _ _ _ _ => st12
    clear st11
    rw [show c5 - (((List.range 2).filter fun k => wIn zs i (k + 5)).map fun k => [x6, x7].getD k 0).sum = wBias x6 x7 c5 zs i from rfl] at st12
    repeat' (walk_at "M.x")
    obtain ⟨bh, hbhi⟩ : ∃ bh, behs[i]? = some bh := ⟨_, List.getElem?_eq_getElem (show i < behs.length from hi)⟩
    obtain ⟨ab, ub, mb, e_ab, l_ab, i_ab⟩ := hbeh i bh hbhi
    have b_done : Heap.get? _ (L + 8) = some (CellW (ob (L + 8)) (some (.int (i : Int) t6))) := st12.get (by walk_at "M.mem")
    refine r_itemL (n := i) (lo_isList (st12.keep _ _ l_beh)) rfl e_ab (by (first | lia | omega)) (by kernel_rfl!) (fun _ => by kernel_rfl!) ?_
    repeat' (walk_at "M.x")
    obtain ⟨bn, rfl, hbn⟩ := beh_ok hbhi
    have hab : ab ∉ fsOf [envL L] := fun hm => by
      have e : ab = (envL L).locals := by
        rw [fsOf_cons (show (envL L).frame = some (envL L).locals from rfl)] at hm
        exact List.mem_singleton.mp hm
      have := st12.old
      rw [← e, l_ab] at this; cases this
    refine can_f okRead (St.kph ‹_›) (read_call (n := 5) (l := [envL L]) (St.kph ‹_›) (FFr.one st12 rfl) rfl hA (hrm.less (by decide)) wk.lf (by have := wk.lt; (first | lia | omega)) hbn (st12.keep _ _ l_ab) i_ab hab ?_)
    intro h13 tk13 aR oR items mR sl13 nR gR cR dR rR
    have st14 := st12.admR rfl sl13 nR gR rR
    have lR := (reps_zip rR).1
    rw [List.length_map] at lR
    have lR : items.length = (wRow ds x6 x7 c5 zs i).length := lR
    clear st12
    repeat' (walk_at "M.x")
    refine Later.mk ?_
    rename St w _ base _ _ _ _ => st15
    clear st14
    repeat' (walk_at "M.x")
    refine r_addS (by rw [S_len, S_len]; have := wk.ly; simp; (first | lia | omega)) ?_
    rw [S_append]
    intro t16 tk16
    repeat' (walk_at "M.x")
    refine can_f okPrep (St.kph ‹_›) (prep_call (n := 5) (St.kph ‹_›) (hrm.less (by decide)) hA (by rw [List.length_append]; have := wk.ly; simp; (first | lia | omega)) wk.low ?_)
    intro h17 tk17 t17 k17
    have st17 := st15.ext k17
    rw [wk.prep]
    clear st15
    repeat' (walk_at "M.x")
    refine r_addS (by rw [S_len, S_len]; have := wk.lt; simp; (first | lia | omega)) ?_
    rw [S_append]
    intro t18 tk18
    refine r_neS ?_
    rw [bne_self_eq_false]
    repeat' (walk_at "M.x")
    refine ⟨fun e => absurd e (by decide), fun _ => ?_⟩
    repeat' (walk_at "M.x")
    refine can_f okCount (St.kph ‹_›) (cnt_call (n := 5) (St.kph ‹_›) (hrm.less (by decide)) hA (by have := wk.lt; (first | lia | omega)) ?_)
    intro h19 tk19 aQ itq mq k19 nq gq rq
    have st19 := st17.ext k19
    clear st17
    refine r_neRows (st19.get (.head _)) cR dR gq rfl rfl (Reps_of (by rw [List.length_map]; exact lR) fun r hr => st19.rep r (List.mem_append_left _ hr)) rq (by have := hrm.2; show _ < 9900; (first | lia | omega)) ?_
    clear gq rq nq
    repeat' (walk_at "M.x")
    refine ⟨fun e => absurd e (by decide), fun _ => ?_⟩
    repeat' (walk_at "M.x")
    refine ⟨fun e => absurd e (by decide), fun _ => ?_⟩
    repeat' (walk_at "M.x")
    refine Later.mk ?_
    refine r_cons ?_
    refine r_expr ?_ ?_ ?_
    · kernel_rfl!
    · kernel_rfl!
    refine r_method ?_ ?_ ?_
    · kernel_rfl!
    · rfl
    repeat' (walk_at "M.x")
    refine r_gmL PySem.F.slot_list_append PySem.F.type_list_append (st19.get (by walk_at "M.mem") : Heap.get? _ aS = some (LO us m)) ?_
    have hRl : Heap.IsList h19 aR items.toArray := ⟨oR, st19.get (.head _), cR, mR, dR⟩
    have hRn : items.length < 100000 := by
      have h1 : (wRow ds x6 x7 c5 zs i).length ≤ (wText ds zs i).length := cntGo_len _ _ _ _
      have := wk.lt; (first | lia | omega)
    repeat' (walk_at "M.x")
    refine r_lenL hRl (by (first | lia | omega)) ?_
    rw [lR]
    intro t20 tk20
    repeat' (walk_at "M.x")
    refine r_tlist hRl hRn fun tk21 => ?_
    have hcs := row_cases (h := h19) lR fun r hr => st19.rep r (List.mem_append_left _ hr)
    refine ⟨fun hne => ?_, fun hne => ?_⟩
    · obtain ⟨vi, r, p, at', t1, t2, e1, e2, hT⟩ : ∃ vi r p a t1 t2, items = vi ++ [.ref a] ∧ (wRow ds x6 x7 c5 zs i) = r ++ [p] ∧ IsTup h19 a #[.int (p.1 : Int) t1, .int p.2 t2] := by
        rcases hcs with ⟨e, _⟩ | e
        · rw [e] at hne; cases hne
        · exact e
      repeat' (walk_at "M.x")
      refine r_lenS (by rw [S_len]; have := wk.lt; (first | lia | omega)) ?_
      rw [S_len]
      intro t21 tk22
      repeat' (walk_at "M.x")
      refine PyProof.Rows.item_last (vi := vi) (v := .ref at') (by rw [← e1]; exact hRl) ?_ (by kernel_rfl!) (fun _ => by kernel_rfl!)
      repeat' (walk_at "M.x")
      refine r_any (r_itemT (k := 0) (items := [_, _]) hT rfl (by simp) (by kernel_rfl!) (fun _ => by kernel_rfl!) ?_)
      repeat' (walk_at "M.x")
      rw [← tailF_last _ r p, ← e2]
      refine ⟨_, _, rfl, by simp, fun h22 a22 k22 T22 => ?_⟩
      have st22 := (st19.ext k22).addRep (v := .ref a22) (d := dSt (wSt ds x6 x7 c5 zs i)) (.tup T22 (.cons (.int _ _) (.cons (.int _ _) .nil)))
      clear st19
      repeat' (walk_at "M.x")
      refine r_append (st22.get (by walk_at "M.mem") : Heap.get? h22 aS = some (LO us m)) (by (first | lia | omega)) fun h23 m23 hs23 hg23 => ?_
      have st23 := st22.write (.there (.there .here)) hs23 hg23 (noTup_of (st22.get (by walk_at "M.mem") : Heap.get? h22 aS = some (LO us m)) (show Value.type "list" ≠ .type "tuple" by decide))
      clear st22
      refine r_nil ?_
      obtain ⟨tbi, tt, st24⟩ : ∃ tbi tt, St w (envL L) base ((Str.ofString "row", .ref aR) :: (Str.ofString "bias", .int (wBias x6 x7 c5 zs i) tbi) :: (Str.ofString "text", .str (S (wText ds zs i)) tt) :: [(Str.ofString "behind", .ref aB), (Str.ofString "beside", .str (S [bs]) tb)]) _ _ h23 := ⟨_, _, (st23.perm (.swap _ _ _)).sub (by walk_at "M.sub") (by kernel_rfl!)⟩
      refine hQ1 ⟨us ++ [.ref a22], m23, aR, oR, items, mR, tbi, tt⟩ _ _ ⟨by simp [hus], cR, dR, lR⟩ ?_
      refine St.repSub st24 fun r hr => ?_
      rcases List.mem_append.mp hr with hr | hr
      · exact .tail _ (List.mem_append_left _ hr)
      · have e : rStates ds x6 x7 c5 zs (i + 1) = rStates ds x6 x7 c5 zs i ++ [dSt (wSt ds x6 x7 c5 zs i)] := by
          unfold rStates; rw [List.range_succ, List.map_append]; rfl
        dsimp only at hr
        rw [e, List.zip_append (by simp [hus])] at hr
        rcases List.mem_append.mp hr with hr | hr
        · exact .tail _ (List.mem_append_right _ hr)
        · rw [show r = (.ref a22, dSt (wSt ds x6 x7 c5 zs i)) by simpa using hr]; exact .head _
    · have e2 : wRow ds x6 x7 c5 zs i = [] := by
        rcases hcs with ⟨_, e⟩ | ⟨vi, r, p, a, t1, t2, e, _⟩
        · exact e
        · rw [e] at hne; simp at hne
      repeat' (walk_at "M.x")
      refine r_lenS (by rw [S_len]; have := wk.lt; (first | lia | omega)) ?_
      rw [S_len, show (((wText ds zs i).length : Nat) : Int) = tailF (wText ds zs i).length (wRow ds x6 x7 c5 zs i) by rw [e2]; rfl]
      intro t21 tk22
      repeat' (walk_at "M.x")
      refine ⟨_, _, rfl, by simp, fun h22 a22 k22 T22 => ?_⟩
      have st22 := (st19.ext k22).addRep (v := .ref a22) (d := dSt (wSt ds x6 x7 c5 zs i)) (.tup T22 (.cons (.int _ _) (.cons (.int _ _) .nil)))
      clear st19
      repeat' (walk_at "M.x")
      refine r_append (st22.get (by walk_at "M.mem") : Heap.get? h22 aS = some (LO us m)) (by (first | lia | omega)) fun h23 m23 hs23 hg23 => ?_
      have st23 := st22.write (.there (.there .here)) hs23 hg23 (noTup_of (st22.get (by walk_at "M.mem") : Heap.get? h22 aS = some (LO us m)) (show Value.type "list" ≠ .type "tuple" by decide))
      clear st22
      refine r_nil ?_
      obtain ⟨tbi, tt, st24⟩ : ∃ tbi tt, St w (envL L) base ((Str.ofString "row", .ref aR) :: (Str.ofString "bias", .int (wBias x6 x7 c5 zs i) tbi) :: (Str.ofString "text", .str (S (wText ds zs i)) tt) :: [(Str.ofString "behind", .ref aB), (Str.ofString "beside", .str (S [bs]) tb)]) _ _ h23 := ⟨_, _, (st23.perm (.swap _ _ _)).sub (by walk_at "M.sub") (by kernel_rfl!)⟩
      refine hQ1 ⟨us ++ [.ref a22], m23, aR, oR, items, mR, tbi, tt⟩ _ _ ⟨by simp [hus], cR, dR, lR⟩ ?_
      refine St.repSub st24 fun r hr => ?_
      rcases List.mem_append.mp hr with hr | hr
      · exact .tail _ (List.mem_append_left _ hr)
      · have e : rStates ds x6 x7 c5 zs (i + 1) = rStates ds x6 x7 c5 zs i ++ [dSt (wSt ds x6 x7 c5 zs i)] := by
          unfold rStates; rw [List.range_succ, List.map_append]; rfl
        dsimp only at hr
        rw [e, List.zip_append (by simp [hus])] at hr
        rcases List.mem_append.mp hr with hr | hr
        · exact .tail _ (List.mem_append_right _ hr)
        · rw [show r = (.ref a22, dSt (wSt ds x6 x7 c5 zs i)) by simpa using hr]; exact .head _
  · rintro ⟨us, m, aR, oR, items, mR, tbi, tt⟩ cd h5 tk5 ⟨hus, hc, hd, hl⟩ st5
    exact @k h5 tk5 us m aR oR items mR cd tbi tt hus hc hd hl st5
end
end
section
section
variable {w : World} {env : Env} {A : Around} {E : Value → Shared → Prop} {c : Shared} {h : Heap} {tk : Nat}
theorem r_isBytes {b : Array UInt8} {t : Tok} {Q : Value → Shared → Prop} (q : Q (.bool true) (Sh c h tk)) : wpAny (MM w) A (call (.builtin "isinstance") [.bytes b t, .type "bytes"] []) Q E (Sh c h tk) :=
  PyProof.Rows.call_isinstance_yes (Tx := "bytes") rfl PySem.F.isi_meta_bytes (by rw [isSubtype_type]; kernel_rfl) q
theorem r_neBy {a b : Array UInt8} {t u : Tok} {Q : Value → Shared → Prop} (q : Q (.bool (a.toList != b.toList)) (Sh c h tk)) : wpAny (MM w) A (compareOp .NotEq (.bytes a t) (.bytes b u)) Q E (Sh c h tk) := PySem.W.ne_bytes q
theorem codeC_of_any {cd : Code} {R : Result → Shared → Prop} {s : Shared} (q : codeAny (MM w) A cd R s) : codeC (MM w) A cd R s := fun Γ p hc hb _ => q Γ p hc hb
theorem codeC_forLoop {R : Result → Shared → Prop} {target : Expr} {it : Value} {body : List Stmt} {s : Shared} (I : Nat → Shared → Prop)
    (turn : ∀ n s, I n s → wpAny (MM w) A (pyNext it) (fun r s₁ => match r with
      | none => R (.ok .next) s₁
      | some v => wpAny (MM w) A (letOwnedTupleGo target it v) (fun _ s₂ => wpAny (MM w) A (assign target env v) (fun _ s₃ => wpC (MM w) A (execs body env) (fun f s₄ => match f with
          | .next | .cont => ∃ m, m < n ∧ I m s₄
          | .brk => R (.ok .next) s₄
          | .ret v => R (.ok (.ret v)) s₄) NoE s₃) NoE s₂) NoE s₁) NoE s)
    (n : Nat) (h0 : I n s) : codeC (MM w) A (.forLoop target it body [] env) R s := by
  refine codeC_loop rfl rfl I ?_ n h0
  intro n s hI
  show wpC _ A ((forTurn target it body [] env).onRaise (fun x => do noteFrame x env; theTreesLotGoes x)) _ _ _
  refine wpC_onRaise (wpC_mono (E := NoE) ?_ (fun _ _ x => x) fun _ _ x => x.elim)
  simp only [forTurn]
  refine wpC_at (wpC_bind (wpC_of (wpAny_onRaise (wpAny_mono (turn n s hI) (fun r s₁ h₁ => ?_) fun _ _ x => x.elim))))
  cases r with
  | none =>
    refine wpC_pure (.inr ⟨rfl, rfl, codeC_of_any (codeAny_block (wpAny_execs_nil h₁))⟩)
  | some v =>
    refine wpC_bind (wpC_of (wpAny_mono h₁ (fun _ s₂ h₂ => ?_) fun _ _ x => x))
    refine wpC_bind (wpC_of (wpAny_mono h₂ (fun _ s₃ h₃ => ?_) fun _ _ x => x))
    refine wpC_bind (wpC_mono h₃ (fun f s₄ h₄ => ?_) fun _ _ x => x)
    cases f with
    | next => exact wpC_pure (.inl ⟨rfl, h₄⟩)
    | cont => exact wpC_pure (.inl ⟨rfl, h₄⟩)
    | brk => exact wpC_pure h₄
    | ret v => exact wpC_pure h₄
theorem c_For {target iter : Expr} {body : List Stmt} {pos : Pos} {Q : Flow → Shared → Prop} {s : Shared} (hs : ∀ x, foldedSetIterable iter env x = Pure.pure x)
    (q : wpAny (MM w) A (eval iter env) (fun x s₁ => wpAny (MM w) A (pyIter x) (fun it s₂ => codeC (MM w) A (.forLoop target it body [] env) (fun r s' => match r with | .ok f => Q f s' | .error e => cameBackBy (MM w) A env E e s') s₂) E s₁) E s) :
    wpC (MM w) A (exec (.For target iter body [] pos) env) Q E s := by
  rw [exec_For]
  refine wpC_at (wpC_bind (wpC_of (wpAny_mono q (fun x s₁ h₁ => ?_) fun _ _ x => x)))
  refine wpC_bind (m := foldedSetIterable iter env x) ?_
  rw [hs x]
  refine wpC_pure (wpC_at (wpC_bind (wpC_of (wpAny_holding (wpAny_mono h₁ (fun it s₂ h₂ => ?_) fun _ _ x => x)))))
  exact wpC_run_own rfl h₂
end
section
variable {w : World} {env : Env} {h₀ h h' : Heap} {vs : List (Str × Value)} {ns W W' : List (Addr × Obj)} {rs : List (Value × D)} {A : Around} {E : Value → Shared → Prop} {c : Shared} {tk : Nat}
theorem St.rewrite {wr : List Addr} (st : St w env h₀ vs (W ++ ns) [] h) (hk : ∀ b o, b ∉ wr → h.get? b = some o → h'.get? b = some o) (hwr : ∀ b ∈ wr, b ∈ W.map (·.1)) (he : W'.map (·.1) = W.map (·.1)) (hg : ∀ p ∈ W', h'.get? p.1 = some p.2) :
    St w env h₀ vs (W' ++ ns) [] h' := by
  have d := List.nodup_cons.mp st.dis
  rw [List.map_append] at d
  have dn := List.nodup_append.mp d.2
  have h0 : ∀ b ∈ W.map (·.1), h₀.get? b = none := fun b hb => by
    obtain ⟨p, hp, rfl⟩ := List.mem_map.mp hb
    exact (st.led p (List.mem_append_left _ hp)).2
  obtain ⟨m, ml, mv⟩ := st.loc
  refine ⟨st.kp, fun b o e => hk b o (fun hb => by rw [h0 b (hwr b hb)] at e; cases e) (st.keep b o e), st.fk, st.eg, st.eb, ⟨m, ?_, mv⟩, st.nd, st.old, fun p hp => ?_, ?_, fun r hr => nomatch hr⟩
  · obtain ⟨o, es, ep, ho, r⟩ := ml
    exact ⟨o, es, ep, hk _ _ (fun hb => d.1 (List.mem_append_left _ (hwr _ hb))) ho, r⟩
  · rcases List.mem_append.mp hp with hp | hp
    · exact ⟨hg p hp, h0 p.1 (by rw [← he]; exact List.mem_map_of_mem hp)⟩
    · exact ⟨hk _ _ (fun hb => dn.2.2 _ (hwr _ hb) _ (List.mem_map_of_mem hp) rfl) (st.led p (List.mem_append_right _ hp)).1, (st.led p (List.mem_append_right _ hp)).2⟩
  · rw [List.map_append, he, ← List.map_append]; exact st.dis
theorem St.adoptAll (st : St w env h₀ vs ns rs h) (k : Ext h h') (hW : ∀ p ∈ W, h.get? p.1 = none ∧ h'.get? p.1 = some p.2) (hn : (W.map (·.1)).Nodup) : St w env h₀ vs (W ++ ns) rs h' := by
  have d := List.nodup_cons.mp st.dis
  refine { st.ext k with led := fun p hp => ?_, dis := ?_ }
  · rcases List.mem_append.mp hp with hp | hp
    · refine ⟨(hW p hp).2, ?_⟩
      cases e : h₀.get? p.1 with
      | none => rfl
      | some o => have := (hW p hp).1; rw [st.keep _ _ e] at this; cases this
    · exact (st.ext k).led p hp
  · rw [List.map_append]
    refine List.nodup_cons.mpr ⟨fun hm => ?_, List.nodup_append.mpr ⟨hn, d.2, fun a ha b hb e => ?_⟩⟩
    · rcases List.mem_append.mp hm with hm | hm
      · obtain ⟨p, hp, e⟩ := List.mem_map.mp hm
        obtain ⟨m, ⟨o, _, _, ho, _⟩, _⟩ := st.loc
        rw [← e, (hW p hp).1] at ho; cases ho
      · exact d.1 hm
    · subst e
      obtain ⟨p, hp, e1⟩ := List.mem_map.mp ha
      obtain ⟨q, hq, e2⟩ := List.mem_map.mp hb
      have := (st.led q hq).1
      rw [e2, ← e1, (hW p hp).1] at this; cases this
theorem it_listO (hA : A.handled = none) {I a : Addr} {o : Obj} {us : List Value} {m : Nat} {α : Type} {l : List α} {V : α → Value → Prop} (hc : o.cls = .type "list") (hd : o.data = .seq us.toArray m) (hl : us.length = l.length) (hv : ∀ (i : Nat) (x : α) (v : Value), l[i]? = some x → us[i]? = some v → V x v) :
    It w A I [(a, o)] l.length (fun i v => ∃ x, l[i]? = some x ∧ V x v) (fun i o => o.cls = .type "list_iterator" ∧ o.data = .fields #[.ref a, .int i 0]) := by
  rw [← hl]
  refine (It.list hA hc hd).weaken fun i v e => ?_
  have hi : i < l.length := by rw [← hl]; exact (List.getElem?_eq_some_iff.mp e).1
  exact ⟨l[i], List.getElem?_eq_getElem hi, hv i _ v (List.getElem?_eq_getElem hi) e⟩
theorem r_iterLO {a : Addr} {o : Obj} {us : List Value} {m : Nat} {Q : Value → Shared → Prop} (hg : h.get? a = some o) (hc : o.cls = .type "list") (hd : o.data = .seq us.toArray m) (q : Q (.ref h.objs.size) (Sh c (h.push (LIt a)) tk)) : wpAny (MM w) A (pyIter (.ref a)) Q E (Sh c h tk) :=
  wpAny_pyIter_list (s := Sh c h tk) ⟨_, hg, hc, m, hd⟩ q
theorem it_strL (hA : A.handled = none) {I : Addr} {l : List Nat} {t : Tok} :
    It w A I [] l.length (fun i v => ∃ x, l[i]? = some x ∧ ∃ u, v = .str (S [x]) u) (fun i o => o.cls = .type (strIterType (S l)) ∧ o.data = .fields #[.str (S l) t, .int i 0]) :=
  (It.strL hA).weaken fun i v ⟨ch, u, e1, e2⟩ => ⟨ch, e1, u, e2⟩
end
section
variable {w : World} {env : Env} {h₀ h h' : Heap} {vs : List (Str × Value)} {ns W W' : List (Addr × Obj)}
theorem St.loseAll {wr : List Addr} (st : St w env h₀ vs (W ++ ns) [] h) (hk : ∀ b o, b ∉ wr → h.get? b = some o → h'.get? b = some o) (hwr : ∀ b ∈ wr, b ∈ W.map (·.1)) : St w env h₀ vs ns [] h' := by
  have d := List.nodup_cons.mp st.dis
  rw [List.map_append] at d
  have dn := List.nodup_append.mp d.2
  have h0 : ∀ b ∈ W.map (·.1), h₀.get? b = none := fun b hb => by
    obtain ⟨p, hp, rfl⟩ := List.mem_map.mp hb
    exact (st.led p (List.mem_append_left _ hp)).2
  obtain ⟨m, ml, mv⟩ := st.loc
  refine ⟨st.kp, fun b o e => hk b o (fun hb => by rw [h0 b (hwr b hb)] at e; cases e) (st.keep b o e), st.fk, st.eg, st.eb, ⟨m, ?_, mv⟩, st.nd, st.old, fun p hp => ?_, ?_, fun r hr => nomatch hr⟩
  · obtain ⟨o, es, ep, ho, r⟩ := ml
    exact ⟨o, es, ep, hk _ _ (fun hb => d.1 (List.mem_append_left _ (hwr _ hb))) ho, r⟩
  · exact ⟨hk _ _ (fun hb => dn.2.2 _ (hwr _ hb) _ (List.mem_map_of_mem hp) rfl) (st.led p (List.mem_append_right _ hp)).1, (st.led p (List.mem_append_right _ hp)).2⟩
  · exact List.nodup_cons.mpr ⟨fun hm => d.1 (List.mem_append_right _ hm), dn.2.1⟩
end
end
section
noncomputable def GOk (bi : Int) (tx : List Nat) : Nat → List (Nat × Int) → Prop
  | _, [] => True
  | b, (e, n) :: r => (b ≤ e ∧ e ≤ tx.length ∧ ∃ gds, gds.length < 100000 ∧ GenR bi n 0 gds ∧ gBytes gds = byteArr (((tx.drop b).take (e - b)).map fun n : Nat => (n : Int))) ∧ GOk bi tx e r
theorem GOk.mk {bi : Int} {tx : List Nat} {b e : Nat} {n : Int} {r : List (Nat × Int)} (h : b ≤ e ∧ e ≤ tx.length ∧ ∃ gds, gds.length < 100000 ∧ GenR bi n 0 gds ∧ gBytes gds = byteArr (((tx.drop b).take (e - b)).map fun n : Nat => (n : Int))) (g : GOk bi tx e r) : GOk bi tx b ((e, n) :: r) := ⟨h, g⟩
theorem GOk.at {bi : Int} {tx : List Nat} : ∀ {b : Nat} {row : List (Nat × Int)}, GOk bi tx b row → ∀ {j : Nat} {bj e : Nat} {n : Int}, (b :: row.map (·.1))[j]? = some bj → row[j]? = some (e, n) →
    bj ≤ e ∧ e ≤ tx.length ∧ ∃ gds, gds.length < 100000 ∧ GenR bi n 0 gds ∧ gBytes gds = byteArr (((tx.drop bj).take (e - bj)).map fun n : Nat => (n : Int))
  | b, [], _, j, bj, e, n, _, h2 => by simp at h2
  | b, (e', n') :: r, g, 0, bj, e, n, h1, h2 => by
    simp only [List.getElem?_cons_zero, Option.some.injEq, Prod.mk.injEq] at h1 h2
    obtain ⟨rfl, rfl⟩ := h2; subst h1
    exact g.1
  | b, (e', n') :: r, g, j + 1, bj, e, n, h1, h2 => by
    simp only [List.getElem?_cons_succ, List.map_cons] at h1 h2
    exact GOk.at g.2 h1 h2
structure KS (h base : Heap) (L : Addr) (ob : Addr → Obj) (aR : Addr) (row : List (Nat × Int)) (states : List (Int × Int)) : Prop where
  ext : Ext h base
  row : ∃ o items m, base.get? aR = some o ∧ o.cls = .type "list" ∧ o.data = .seq (List.toArray items) m ∧ items.length = row.length
  sts : ∃ a us m, base.get? (L + 10) = some (CellW (ob (L + 10)) (some (.ref a))) ∧ base.get? a = some (LO us m) ∧ us.length = states.length ∧ ∀ r ∈ us.zip (states.map dSt), Rep base r.1 r.2
noncomputable abbrev ZS (I a4 aR : Addr) (u4 items : List Value) (i : Nat) (h : Heap) : Prop := IsZip h (I + 4) (I + 2) (I + 3) .none ∧ IsPair h (I + 2) (.ref I) (.ref (I + 1)) ∧ (∃ a b, IsPair h (I + 3) a b) ∧ h.IsListIter I a4 i ∧ h.IsListIter (I + 1) aR i ∧ h.IsList a4 u4.toArray ∧ h.IsList aR items.toArray
noncomputable abbrev C2 (L : Addr) (ob : Addr → Obj) (v_count v_k : Option Value) (tl : List (Addr × Obj)) : List (Addr × Obj) := Cl L ob 9 v_count :: Cl L ob 3 v_k :: tl
theorem rep_dnum {h : Heap} {v : Value} {p : Nat × Int} (x : Rep h v (dNum p)) : ∃ a t1 t2, v = .ref a ∧ IsTup h a #[.int (p.1 : Int) t1, .int p.2 t2] := by
  obtain ⟨a, rfl⟩ : ∃ a, v = .ref a := by cases x; exact ⟨_, rfl⟩
  obtain ⟨us, hT, hR⟩ := rep_tup x
  cases hR with
  | cons r1 r2 =>
    cases r2 with
    | cons r3 r4 => cases r1; cases r3; cases r4; exact ⟨_, _, _, rfl, hT⟩
section
variable {w : World} {c : Shared} {h : Heap} {tk : Nat} {A : Around}
theorem ph_g {L : Addr} {ob : Addr → Obj} {h0 base : Heap} {bi : Int} {tx : List Nat} {row : List (Nat × Int)} {states : List (Int × Int)} {aR aS aB : Addr} {oR : Obj} {us items : List Value} {m mR : Nat} {cd : Option Value} {tbi tt tb : Tok} {bsx : Str} {ps : Array Value} {cs : List (Addr × Obj)} {Q : Flow → Shared → Prop} {h1 : Heap}
    (hx0 : Ext h0 base) (hT : TabOk ((envL L).qual ++ Str.ofString "<lambda>") ps cs) (hus : us.length = states.length) (hc : oR.cls = .type "list") (hd : oR.data = .seq items.toArray mR) (hl : items.length = row.length) (htx : tx.length < 1000) (hch : ∀ ch ∈ tx, ch < 256) (hrow : row.length < 1000) (hG : GOk bi tx 0 row)
    (st0 : St w (envL L) base [(Str.ofString "row", .ref aR), (Str.ofString "bias", .int bi tbi), (Str.ofString "text", .str (S tx) tt), (Str.ofString "behind", .ref aB), (Str.ofString "beside", .str bsx tb)] ((aR, oR) :: (aS, LO us m) :: C4 L ob aS none cd none ((tabA, tabObj ps) :: cs)) (items.zip (row.map dNum) ++ us.zip (states.map dSt)) h1)
    (k : ∀ base2 h' tk', KS h0 base2 L ob aR row states → St w (envL L) base2 [(Str.ofString "row", .ref aR)] (C2 L ob none none ((tabA, tabObj ps) :: cs)) [] h' →
      wpC (MM w) (AL L) (execs ((bdyAt 23).drop 16) (envL L)) Q NoE (Sh c h' tk')) :
    wpC (MM w) (AL L) (execs ((bdyAt 23).drop 15) (envL L)) Q NoE (Sh c h1 tk) := by
  have c_turns : (callEnvC fdLaw L 187).cells.lookup (Str.ofString "turns") = some (L + 11) := by kernel_rfl!
  have c_states : (callEnvC fdLaw L 187).cells.lookup (Str.ofString "states") = some (L + 10) := by kernel_rfl!
  have c_count : (callEnvC fdLaw L 187).cells.lookup (Str.ofString "count") = some (L + 9) := by kernel_rfl!
  have c_done : (callEnvC fdLaw L 187).cells.lookup (Str.ofString "done") = some (L + 8) := by kernel_rfl!
  have c_order : (callEnvC fdLaw L 187).cells.lookup (Str.ofString "order") = some (L + 7) := by kernel_rfl!
  have c_amounts : (callEnvC fdLaw L 187).cells.lookup (Str.ofString "amounts") = some (L + 6) := by kernel_rfl!
  have c_covers : (callEnvC fdLaw L 187).cells.lookup (Str.ofString "covers") = some (L + 5) := by kernel_rfl!
  have c_items : (callEnvC fdLaw L 187).cells.lookup (Str.ofString "items") = some (L + 4) := by kernel_rfl!
  have c_k : (callEnvC fdLaw L 187).cells.lookup (Str.ofString "k") = some (L + 3) := by kernel_rfl!
  have c_cells : (callEnvC fdLaw L 187).cells.lookup (Str.ofString "cells") = some (L + 2) := by kernel_rfl!
  have c_script : (callEnvC fdLaw L 187).cells.lookup (Str.ofString "script") = some (L + 1) := by kernel_rfl!
  have hA : (AL L).handled = none := rfl
  have hrm : Rm 12 (AL L) := (rmL L).less (by decide)
  obtain ⟨base2, stF, hmv, hrp, x1, x2⟩ := st0.freeze (ns' := C2 L ob none none ((tabA, tabObj ps) :: cs)) (.left (.left (.left (.right (.left (.right .rest)))))) (fun p hp => by
    rcases List.mem_cons.mp hp with rfl | hp
    · exact .cell
    rcases List.mem_cons.mp hp with rfl | hp
    · exact .cell
    rcases List.mem_cons.mp hp with rfl | hp
    · exact .inl (fun e => by cases e)
    · exact .code (hT.2.2 p hp))
  have g_row : base2.get? aR = some oR := hmv (aR, oR) (by walk_at "M.mem")
  have g_aS : base2.get? aS = some (LO us m) := hmv (aS, LO us m) (by walk_at "M.mem")
  have g_states : base2.get? (L + 10) = some (CellW (ob (L + 10)) (some (.ref aS))) := hmv (L + 10, _) (by walk_at "M.mem")
  have r_row : ∀ r ∈ items.zip (row.map dNum), Rep base2 r.1 r.2 := fun r hr => hrp r (List.mem_append_left _ hr)
  have r_sts : ∀ r ∈ us.zip (states.map dSt), Rep base2 r.1 r.2 := fun r hr => hrp r (List.mem_append_right _ hr)
  have st := (St.dropReps stF).sub (vs' := [(Str.ofString "row", .ref aR), (Str.ofString "bias", .int bi tbi), (Str.ofString "text", .str (S tx) tt)]) (by walk_at "M.sub") (by kernel_rfl!)
  clear stF st0 hmv hrp
  have hRow : ∀ (i : Nat) (x : Nat × Int) (v : Value), row[i]? = some x → items[i]? = some v → ∃ a t1 t2, v = .ref a ∧ IsTup base2 a #[.int (x.1 : Int) t1, .int x.2 t2] := fun i x v e1 e2 => by
    obtain ⟨v', e3, e4⟩ := rep_at r_row (by simp [hl]) (k := i) (d := dNum x) (by rw [List.getElem?_map, e1]; rfl)
    rw [e2] at e3; cases e3
    exact rep_dnum e4
  refine c_cons ?_
  refine c_For (fun _ => rfl) ?_
  repeat' (walk_at "M.x")
  refine ⟨_, _, _, _, _, _, _, rfl, by simp, st, ?_⟩
  intro h2 a2 st2 k2
  obtain ⟨u2, hu2, st2⟩ : ∃ u2, IntsAre u2 ([0] : List Int) ∧ St w (callEnvC fdLaw L 187) base2 _ ((a2, LO u2 0) :: _) _ h2 := ⟨_, .cons _ _ .nil, st2⟩
  repeat' (walk_at "M.x")
  refine r_compF row (fun x v => ∃ a t1 t2, v = .ref a ∧ IsTup base2 a #[.int (x.1 : Int) t1, .int x.2 t2]) (fun _ => true) (fun x => .int (x.1 : Int)) (cl := []) st2 (by kernel_rfl!) (by kernel_rfl!) (by kernel_rfl!) (by kernel_rfl!) (by kernel_rfl!) (fun _ => rfl) (by (first | lia | omega)) ?_
  intro Tq iTq
  repeat' (walk_at "M.x")
  refine r_iterLO (st2.keep _ _ g_row) hc hd ?_
  refine iTq.use _ _ ⟨_, _, _, _, _, rfl, rfl, it_listO hA hc hd hl hRow, ⟨rfl, rfl⟩, rfl, (fun p hp => by rw [List.mem_singleton.mp hp]; exact st2.keep _ _ g_row), st2, ?_, ?_⟩
  · rintro x v C I oI D' ys m' rs' h5 tk5 - ⟨a, t1, t2, rfl, hTp⟩ st5
    refine fun Tt iTt => t_none (iTt.use _ _ ⟨rfl, _, _, rfl, st5, fun _ Tv iTv => ?_⟩)
    repeat' (walk_at "M.x")
    refine r_itemT (k := 0) (items := [_, _]) ((hTp.keeps st2.keep).keeps st5.keep) rfl (by simp) (by kernel_rfl!) (fun _ => by kernel_rfl!) ?_
    exact iTv.use _ _ ⟨_, _, rfl, st5, .int _ _⟩
  rw [filter_tt]
  intro a3 h3 tk3 u3 m3 st3 k3 _ hl3
  have hs3 : IntsAre u3 (row.map fun x => (x.1 : Int)) := ints_of_reps (h := h3) (by rw [hl3]; simp) fun r hr => st3.rep r (List.mem_append_left _ (by rw [List.map_map] at hr; exact hr))
  have st3 := St.repSub (rs' := []) st3 fun r hr => nomatch hr
  clear st2
  repeat' (walk_at "M.x")
  refine r_addLL st3 (lo_isList (st3.get (by walk_at "M.mem") : Heap.get? _ a2 = some (LO u2 0))) (lo_isList (st3.get (.head _))) (by rw [hu2.length, hl3]; simp; (first | lia | omega)) fun a4 h4 st4 => ?_
  have hu4 : IntsAre (u2 ++ u3) (((0 : Nat) :: row.map (·.1)).map fun n : Nat => (n : Int)) := by
    have := IntsAre.append hu2 hs3
    rw [List.map_cons, List.map_map]; exact this
  generalize u2 ++ u3 = u4 at st4 hu4
  have st4 := St.ledSub (ns' := (a4, LO u4 0) :: C2 L ob none none ((tabA, tabObj ps) :: cs)) st4 (.cons₂ _ (.cons _ (.cons _ (.refl _))))
  clear st3 hu2 hs3
  repeat' (walk_at "M.x")
  have hla : Heap.IsList h4 a4 u4.toArray := lo_isList (st4.get (.head _))
  have hlr : Heap.IsList h4 aR items.toArray := ⟨oR, st4.keep _ _ g_row, hc, mR, hd⟩
  refine call_zip_2 (s := Sh c h4 _) hla hlr fun h5 hz hTI hTO hi1 hi2 hsz hk5 => ?_
  refine wpAny_pyIter_zip hz ?_
  have D : ZipApart (h4.objs.size + 4) (h4.objs.size + 2) (h4.objs.size + 3) h4.objs.size (h4.objs.size + 1) a4 aR := ktu_apart _ _ _ (Heap.lt_size (st4.get (.head _))) (Heap.lt_size (st4.keep _ _ g_row))
  have WK := WalksT.zip2 (prog := pE) (w := w) (A := AL L) hA _ _ _ _ _ _ _ D u4.toArray items.toArray
  dsimp only at hz hTI hTO hi1 hi2 hsz hk5
  have hfr : ∀ j, Heap.get? h4 (h4.objs.size + j) = none := fun j => fresh_get (Nat.le_add_right _ _)
  have hu4l : u4.length = row.length + 1 := by rw [hu4.length]; simp
  have hmin : min u4.toArray.size items.toArray.size = row.length := by simp only [List.size_toArray]; (first | lia | omega)
  have hla5 : Heap.IsList h5 a4 u4.toArray := isList_ext hla hk5
  have hlr5 : Heap.IsList h5 aR items.toArray := isList_ext hlr hk5
  have hS0 : ZS h4.objs.size a4 aR u4 items 0 h5 := ⟨hz, hTI, ⟨_, _, hTO⟩, hi1, hi2, hla5, hlr5⟩
  generalize hI : h4.objs.size = I at *
  clear hI
  have hex : ∀ i h, ZS I a4 aR u4 items i h →
      ∃ W : List (Addr × Obj), W.map (·.1) = [I + 4, I + 2, I + 3, I, I + 1] ∧ ∀ p ∈ W, h.get? p.1 = some p.2 := by
    rintro i h ⟨hz, hTI, ⟨a, b, hTO⟩, ⟨o1, ho1, _⟩, ⟨o2, ho2, _⟩, _⟩
    obtain ⟨oz, hz⟩ : ∃ o, h.get? (I + 4) = some o := ⟨_, hz⟩
    obtain ⟨oT, hTI⟩ : ∃ o, h.get? (I + 2) = some o := ⟨_, hTI⟩
    obtain ⟨oO, hTO⟩ : ∃ o, h.get? (I + 3) = some o := ⟨_, hTO⟩
    refine ⟨[(I + 4, oz), (I + 2, oT), (I + 3, oO), (I, o1), (I + 1, o2)], rfl, fun p hp => ?_⟩
    rcases List.mem_cons.mp hp with rfl | hp
    · exact hz
    rcases List.mem_cons.mp hp with rfl | hp
    · exact hTI
    rcases List.mem_cons.mp hp with rfl | hp
    · exact hTO
    rcases List.mem_cons.mp hp with rfl | hp
    · exact ho1
    rw [List.mem_singleton.mp hp]
    exact ho2
  obtain ⟨W0, hW0, hg0⟩ := hex 0 h5 hS0
  have st5 := st4.adoptAll (W := W0) hk5 (fun p hp => ⟨by
    have hm : p.1 ∈ [I + 4, I + 2, I + 3, I, I + 1] := by rw [← hW0]; exact List.mem_map_of_mem hp
    simp only [List.mem_cons, List.not_mem_nil, or_false] at hm
    rcases hm with e | e | e | e | e
    · rw [e]; exact hfr 4
    · rw [e]; exact hfr 2
    · rw [e]; exact hfr 3
    · rw [e]; exact hfr 0
    · rw [e]; exact hfr 1, hg0 p hp⟩) (by rw [hW0]; simp)
  clear hz hTI hTO hi1 hi2 hsz hla5 hlr5 hg0 st4 hla hlr hfr hk5
  have hwr : ∀ W : List (Addr × Obj), W.map (·.1) = [I + 4, I + 2, I + 3, I, I + 1] → ∀ b ∈ [I + 4, I + 3, I, I + 1], b ∈ W.map (·.1) := fun W hW b hb => by
    rw [hW]
    simp only [List.mem_cons, List.not_mem_nil, or_false] at hb ⊢
    (first | lia | omega)
  refine codeC_forLoop (fun n s => ∃ i W h tk, s = Sh c h tk ∧ n = row.length - i ∧ i ≤ row.length ∧ W.map (·.1) = [I + 4, I + 2, I + 3, I, I + 1] ∧ ZS I a4 aR u4 items i h ∧ St w (envL L) base2 [(Str.ofString "row", .ref aR), (Str.ofString "bias", .int bi tbi), (Str.ofString "text", .str (S tx) tt)] (W ++ (a4, LO u4 0) :: C2 L ob none none ((tabA, tabObj ps) :: cs)) [] h) ?_ row.length ⟨0, W0, h5, _, rfl, rfl, Nat.zero_le _, hW0, hS0, st5⟩
  clear st5 hS0 hW0
  rintro n s ⟨i, W, h, tk, rfl, rfl, hi, hW, hS, st⟩
  rcases Nat.lt_or_ge i row.length with hlt | hge
  · refine WK.item i (Sh c h tk) _ _ (by rw [hmin]; exact hlt) hS fun T vals h6 tk6 hvals hT0 hTup hMid hk6 => ?_
    obtain ⟨x, y, hx, hy, rfl⟩ := hvals
    have hap := WK.apart i T h6 hMid
    refine WK.go _ _ _ i T (Sh c h6 tk6) _ _ hMid fun h7 hS7 hk7 => ?_
    obtain ⟨W7, hW7, hg7⟩ := hex (i + 1) h7 hS7
    have st7 := st.rewrite (fun b o hb e => hk7 b o hb (hk6 b o hb e)) (hwr W hW) (hW7.trans hW.symm) hg7
    have hT7 : IsTup h7 T #[x, y] := by
      obtain ⟨o, ho, r⟩ := hTup
      exact ⟨o, hk7 _ _ hap ho, r⟩
    clear st hS hTup hMid hk6 hk7 hg7
    refine assign_Tuple_tuple (s := Sh c h7 tk6) hA hT7 rfl rfl fun h8 hx8 => ?_
    have k8 : Ext h7 h8 := fun b o e => hx8 b o (Nat.ne_of_lt (Heap.lt_size e)) e
    have st8 := st7.ext k8
    have hS8 : ZS I a4 aR u4 items (i + 1) h8 := WK.frame (i + 1) h7 h8 hS7 (fun b _ o e => k8 b o e)
    clear st7 hS7 hT7 hx8 k8
    have hx : u4[i]? = some x := by simpa using hx
    have hy : items[i]? = some y := by simpa using hy
    obtain ⟨bj, ebj⟩ : ∃ bj, ((0 : Nat) :: row.map (·.1))[i]? = some bj := ⟨_, List.getElem?_eq_getElem (by simp; (first | lia | omega))⟩
    obtain ⟨tx1, ex⟩ := ints_at hu4 (k := i) (z := (bj : Int)) (by rw [List.getElem?_map, ebj]; rfl)
    rw [hx] at ex; cases ex
    obtain ⟨⟨e, nn⟩, er⟩ : ∃ p, row[i]? = some p := ⟨_, List.getElem?_eq_getElem hlt⟩
    obtain ⟨ay, t1, t2, rfl, hTy⟩ := hRow i _ y er hy
    obtain ⟨hbe, hel, gds, hgl, hgr, hgb⟩ := hG.at ebj er
    refine assignInOrder_cons ?_
    refine (wpAny_assign_Name ?_ : wpAny (MM w) (AL L) (assign (.Name (Str.ofString "begin") _) (envL L) _) _ _ _)
    repeat' (walk_at "M.x")
    refine assignInOrder_cons ?_
    refine (wpAny_assign_Name ?_ : wpAny (MM w) (AL L) (assign (.Name (Str.ofString "told") _) (envL L) _) _ _ _)
    repeat' (walk_at "M.x")
    refine assignInOrder_nil ?_
    rename St w _ base2 _ _ _ _ => st9
    have hfin : ∀ h' vs', St w (envL L) base2 vs' (W7 ++ (a4, LO u4 0) :: C2 L ob none none ((tabA, tabObj ps) :: cs)) [] h' → ZS I a4 aR u4 items (i + 1) h' := fun h' vs' st' => WK.frame (i + 1) h8 h' hS8 (fun b hb o eo => by
      have hb' : b ∈ W7.map (·.1) ∨ b = a4 ∨ b = aR := by
        rw [hW7]
        simp only [List.mem_cons, List.not_mem_nil, or_false] at hb ⊢
        rcases hb with h | h | h | h | h | h | h
        · exact .inl (.inl h)
        · exact .inl (.inr (.inl h))
        · exact .inl (.inr (.inr (.inl h)))
        · exact .inl (.inr (.inr (.inr (.inl h))))
        · exact .inl (.inr (.inr (.inr (.inr h))))
        · exact .inr (.inl h)
        · exact .inr (.inr h)
      rcases hb' with hb | rfl | rfl
      · obtain ⟨p, hp, rfl⟩ := List.mem_map.mp hb
        have h1 := (st8.led p (List.mem_append_left _ hp)).1
        rw [eo] at h1; cases h1
        exact (st'.led p (List.mem_append_left _ hp)).1
      · have h1 := (st8.led _ (List.mem_append_right _ (.head _))).1
        rw [eo] at h1; cases h1
        exact (st'.led _ (List.mem_append_right _ (.head _))).1
      · have h1 := st8.keep _ _ g_row
        rw [eo] at h1; cases h1
        exact st'.keep _ _ g_row)
    clear st8 hS8
    refine c_cons ?_
    refine c_assign ?_ ?_
    · kernel_rfl!
    refine c_call ?_ ?_ ?_
    · kernel_rfl!
    · kernel_rfl!
    repeat' (walk_at "M.x")
    refine r_itemT (k := 1) (items := [_, _]) (hTy.keeps st9.keep) rfl (by simp) (by kernel_rfl!) (fun _ => by kernel_rfl!) ?_
    repeat' (walk_at "M.x")
    refine can_f okG (St.kph ‹_›) (g_call (n := 5) hgr hgl (St.kph ‹_›) (hrm.less (by decide)) ?_)
    intro h10 tk10 t10 k10
    have st10 := st9.ext k10
    clear st9
    repeat' (walk_at "M.x")
    rename St w _ base2 _ _ _ _ => st11
    clear st10
    refine c_cons ?_
    refine wpC_of ?_
    repeat' (walk_at "M.x")
    refine r_isBytes ?_
    repeat' (walk_at "M.x")
    refine ⟨fun e => absurd e (by decide), fun _ => ?_⟩
    repeat' (walk_at "M.x")
    obtain ⟨sl, hsl⟩ : ∃ sl, (tx.drop bj).take (e - bj) = sl := ⟨_, rfl⟩
    have hsll : sl.length < 1000 := by rw [← hsl, List.length_take, List.length_drop]; (first | lia | omega)
    have hslb : ∀ ch ∈ sl, ch < 256 := fun ch hm => hch ch (List.mem_of_mem_drop (List.mem_of_mem_take (hsl ▸ hm)))
    rw [hsl] at hgb
    refine r_compF sl (fun ch v => ∃ u, v = Value.str (S [ch]) u) (fun _ => true) (fun ch => .int (ch : Int)) (cl := []) st11 (by kernel_rfl!) (by kernel_rfl!) (by kernel_rfl!) (by kernel_rfl!) (by kernel_rfl!) (fun _ => rfl) (by (first | lia | omega)) ?_
    intro Tq iTq
    repeat' (walk_at "M.x")
    refine r_itemT (k := 0) (items := [_, _]) (hTy.keeps st11.keep) rfl (by simp) (by kernel_rfl!) (fun _ => by kernel_rfl!) ?_
    refine ⟨_, _, rfl, ?_⟩
    refine r_sliceSS st11 (by rw [S_len]; (first | lia | omega)) (by kernel_rfl!) (fun _ => by kernel_rfl!) ?_
    rw [slice_SS _ _ _ hbe hel, hsl]
    intro h12 t12 tk12 st12
    refine r_iterS ?_
    refine iTq.use _ _ ⟨_, _, _, _, _, rfl, rfl, it_strL hA, ⟨rfl, rfl⟩, rfl, (fun _ hp => nomatch hp), st12, ?_, ?_⟩
    · rintro ch v C I' oI D' ys m' rs' h5 tk5 hm ⟨u, rfl⟩ st5
      refine fun Tt iTt => t_none (iTt.use _ _ ⟨rfl, _, _, rfl, st5, fun _ Tv iTv => ?_⟩)
      repeat' (walk_at "M.x")
      exact iTv.use _ _ ⟨_, _, rfl, st5, .int _ _⟩
    rw [filter_tt]
    intro a13 h13 tk13 u13 m13 st13 k13 _ hl13
    have hs13 : IntsAre u13 (sl.map fun ch : Nat => (ch : Int)) := ints_of_reps (h := h13) (by rw [hl13]; simp) fun r hr => st13.rep r (List.mem_append_left _ (by rw [List.map_map] at hr; exact hr))
    have st13 := St.repSub (rs' := []) st13 fun r hr => nomatch hr
    clear st12 st11
    repeat' (walk_at "M.x")
    refine r_bytesL st13 hA (lo_isList (st13.get (.head _))) hs13 (fun z hz => by
      obtain ⟨ch, hm, rfl⟩ := List.mem_map.mp hz
      have := hslb ch hm
      (first | lia | omega)) (by rw [hl13]; (first | lia | omega)) fun h14 t14 tk14 st14 => ?_
    refine r_neBy ?_
    rw [hgb, bne_self_eq_false]
    repeat' (walk_at "M.x")
    refine ⟨fun e => absurd e (by decide), fun _ => ?_⟩
    repeat' (walk_at "M.x")
    refine ⟨fun e => absurd e (by decide), fun _ => ?_⟩
    repeat' (walk_at "M.x")
    refine c_nil ?_
    have st15 := st14.drop1
    exact ⟨row.length - (i + 1), by (first | lia | omega), i + 1, W7, _, _, rfl, rfl, hlt, hW7, hfin _ _ st15, st15.sub (by walk_at "M.sub") (by kernel_rfl!)⟩
  · obtain rfl : i = row.length := Nat.le_antisymm hi hge
    refine WK.done (Sh c h tk) _ _ (by rw [hmin]; exact hS) fun h6 tk6 hk6 => ?_
    have st6 := st.loseAll hk6 (hwr W hW)
    have st7 := (st6.ledSub (ns' := C2 L ob none none ((tabA, tabObj ps) :: cs)) (.cons _ (.refl _))).sub (vs' := [(Str.ofString "row", .ref aR)]) (by walk_at "M.sub") (by kernel_rfl!)
    exact @k base2 _ _ ⟨hx0.trans x1, ⟨oR, items, mR, g_row, hc, hd, hl⟩, ⟨aS, us, m, g_states, g_aS, hus, r_sts⟩⟩ st7
end
end
section
theorem Cut.mono {q : Nat → Bool} {lo hi r : Nat} (x : Cut q lo hi r) : Mono q lo hi := fun i j h1 h2 h3 h4 => by
  rcases Nat.lt_or_ge i r with h | h
  · rw [x.no i h1 h] at h4; cases h4
  · exact x.yes j (Nat.le_trans h h2) h3
theorem Cut.uniq {q : Nat → Bool} {lo hi r r' : Nat} (x : Cut q lo hi r) (y : Cut q lo hi r') : r = r' := by
  rcases Nat.lt_trichotomy r r' with h | h | h
  · have h1 := x.yes r (Nat.le_refl _) (Nat.lt_of_lt_of_le h y.hi1)
    have h2 := y.no r x.lo1 h
    rw [h1] at h2; cases h2
  · exact h
  · have h1 := y.yes r' (Nat.le_refl _) (Nat.lt_of_lt_of_le h x.hi1)
    have h2 := x.no r' y.lo1 h
    rw [h1] at h2; cases h2
noncomputable def lexlt (a b : Int × Int) : Bool := decide (a.1 < b.1 ∨ (a.1 = b.1 ∧ a.2 < b.2))
noncomputable def StA (h : Heap) (a : Addr) (states : List (Int × Int)) : Prop := ∃ us m, h.get? a = some (LO us m) ∧ us.length = states.length ∧ ∀ r ∈ us.zip (states.map dSt), Rep h r.1 r.2
theorem rep_dst {h : Heap} {v : Value} {p : Int × Int} (x : Rep h v (dSt p)) : ∃ a t1 t2, v = .ref a ∧ IsTup h a #[.int p.1 t1, .int p.2 t2] := by
  obtain ⟨a, rfl⟩ : ∃ a, v = .ref a := by cases x; exact ⟨_, rfl⟩
  obtain ⟨us, hT, hR⟩ := rep_tup x
  cases hR with
  | cons r1 r2 =>
    cases r2 with
    | cons r3 r4 => cases r1; cases r3; cases r4; exact ⟨_, _, _, rfl, hT⟩
theorem sta_at {h : Heap} {us : List Value} {states : List (Int × Int)} (hl : us.length = states.length) (hr : ∀ r ∈ us.zip (states.map dSt), Rep h r.1 r.2) {i : Nat} {v : Value} (e : us[i]? = some v) : ∃ s a t1 t2, states[i]? = some s ∧ v = .ref a ∧ IsTup h a #[.int s.1 t1, .int s.2 t2] := by
  have hi : i < states.length := by rw [← hl]; exact (List.getElem?_eq_some_iff.mp e).1
  have e2 : states[i]? = some states[i] := List.getElem?_eq_getElem hi
  obtain ⟨v', e3, e4⟩ := rep_at hr (by simp [hl]) (k := i) (d := dSt states[i]) (by rw [List.getElem?_map, e2]; rfl)
  rw [e] at e3; cases e3
  obtain ⟨a, t1, t2, rfl, hT⟩ := rep_dst e4
  exact ⟨_, a, t1, t2, e2, rfl, hT⟩
section
variable {w : World} {A : Around} {E : Value → Shared → Prop} {c : Shared} {h : Heap} {tk : Nat}
theorem bl_st2 {n r : Nat} {a ax : Addr} {states : List (Int × Int)} {x : Int × Int} {t1 t2 : Tok}  {Q : Value → Shared → Prop} (kp : KeepR w h) (hrm : Rm (n + 2) A) (hS : StA h a states) (hsz : states.length < 100000) (hx : IsTup h ax #[.int x.1 t1, .int x.2 t2]) 
    (hc : Cut (fun i => !lexlt (states.getD i (0, 0)) x) 0 states.length r) (hQ : ∀ t h' tk', Ext h h' → Q (.int (r : Int) t) (Sh c h' tk')) :
    wpAny (MM w) A (call (.ref 71) [.ref a, .ref ax] []) Q E (Sh c h tk) := by
  obtain ⟨us, m, hg, hul, hr⟩ := hS
  have hc' : Cut (fun i => !lexlt (states.getD i (0, 0)) x) 0 us.length r := by first | exact hc | (rw [hul]; exact hc)
  refine bl_call2 (n := n + 1) (q := fun i => !lexlt (states.getD i (0, 0)) x) kp hrm (lo_isList hg) (by rw [hul]; (first | lia | omega)) hc'.mono ?_ fun r' t h' tk' hcut k => ?_
  · intro A' hr' i v hv _ _ h' tk' Q' k qq
    obtain ⟨s, a', u1, u2, e1, rfl, hT⟩ := sta_at hul hr hv
    have hs : states.getD i (0, 0) = s := by rw [List.getD_eq_getElem?_getD, e1]; rfl
    have hu : A'.units < cLine := by have := hr'.2; show _ < 9900; (first | lia | omega)
    refine r_ltT (hT.keeps k) (hx.keeps k) hu ?_
    rw [show decide (s.1 < x.1 ∨ s.1 = x.1 ∧ s.2 < x.2) = lexlt s x from rfl]
    have := qq h' tk' (Ext.refl _)
    simpa only [hs, Bool.not_not] using this
  · rw [hcut.uniq hc']; exact hQ t h' tk' k
theorem bl_st3 {n r : Nat} {a ax : Addr} {states : List (Int × Int)} {x : Int × Int} {t1 t2 : Tok} {lo : Nat} {u1 : Tok} {Q : Value → Shared → Prop} (kp : KeepR w h) (hrm : Rm (n + 2) A) (hS : StA h a states) (hsz : states.length < 100000) (hx : IsTup h ax #[.int x.1 t1, .int x.2 t2]) (hle : lo ≤ states.length)
    (hc : Cut (fun i => !lexlt (states.getD i (0, 0)) x) lo states.length r) (hQ : ∀ t h' tk', Ext h h' → Q (.int (r : Int) t) (Sh c h' tk')) :
    wpAny (MM w) A (call (.ref 71) [.ref a, .ref ax, .int (lo : Int) u1] []) Q E (Sh c h tk) := by
  obtain ⟨us, m, hg, hul, hr⟩ := hS
  have hc' : Cut (fun i => !lexlt (states.getD i (0, 0)) x) lo us.length r := by first | exact hc | (rw [hul]; exact hc)
  refine bl_call3 (n := n + 1) (q := fun i => !lexlt (states.getD i (0, 0)) x) kp hrm (lo_isList hg) (by rw [hul]; exact hle) (by rw [hul]; (first | lia | omega)) hc'.mono ?_ fun r' t h' tk' hcut k => ?_
  · intro A' hr' i v hv _ _ h' tk' Q' k qq
    obtain ⟨s, a', u1, u2, e1, rfl, hT⟩ := sta_at hul hr hv
    have hs : states.getD i (0, 0) = s := by rw [List.getD_eq_getElem?_getD, e1]; rfl
    have hu : A'.units < cLine := by have := hr'.2; show _ < 9900; (first | lia | omega)
    refine r_ltT (hT.keeps k) (hx.keeps k) hu ?_
    rw [show decide (s.1 < x.1 ∨ s.1 = x.1 ∧ s.2 < x.2) = lexlt s x from rfl]
    have := qq h' tk' (Ext.refl _)
    simpa only [hs, Bool.not_not] using this
  · rw [hcut.uniq hc']; exact hQ t h' tk' k
theorem bl_st4 {n r : Nat} {a ax : Addr} {states : List (Int × Int)} {x : Int × Int} {t1 t2 : Tok} {lo hi : Nat} {u1 u2 : Tok} {Q : Value → Shared → Prop} (kp : KeepR w h) (hrm : Rm (n + 2) A) (hS : StA h a states) (hsz : states.length < 100000) (hx : IsTup h ax #[.int x.1 t1, .int x.2 t2]) (hle : lo ≤ hi) (hhi : hi ≤ states.length)
    (hc : Cut (fun i => !lexlt (states.getD i (0, 0)) x) lo hi r) (hQ : ∀ t h' tk', Ext h h' → Q (.int (r : Int) t) (Sh c h' tk')) :
    wpAny (MM w) A (call (.ref 71) [.ref a, .ref ax, .int (lo : Int) u1, .int (hi : Int) u2] []) Q E (Sh c h tk) := by
  obtain ⟨us, m, hg, hul, hr⟩ := hS
  have hc' : Cut (fun i => !lexlt (states.getD i (0, 0)) x) lo hi r := by first | exact hc | (rw [hul]; exact hc)
  refine bl_call4 (n := n + 1) (q := fun i => !lexlt (states.getD i (0, 0)) x) kp hrm (lo_isList hg) hle (by rw [hul]; exact hhi) (by rw [hul]; (first | lia | omega)) hc'.mono ?_ fun r' t h' tk' hcut k => ?_
  · intro A' hr' i v hv _ _ h' tk' Q' k qq
    obtain ⟨s, a', u1, u2, e1, rfl, hT⟩ := sta_at hul hr hv
    have hs : states.getD i (0, 0) = s := by rw [List.getD_eq_getElem?_getD, e1]; rfl
    have hu : A'.units < cLine := by have := hr'.2; show _ < 9900; (first | lia | omega)
    refine r_ltT (hT.keeps k) (hx.keeps k) hu ?_
    rw [show decide (s.1 < x.1 ∨ s.1 = x.1 ∧ s.2 < x.2) = lexlt s x from rfl]
    have := qq h' tk' (Ext.refl _)
    simpa only [hs, Bool.not_not] using this
  · rw [hcut.uniq hc']; exact hQ t h' tk' k
theorem br_st2 {n r : Nat} {a ax : Addr} {states : List (Int × Int)} {x : Int × Int} {t1 t2 : Tok}  {Q : Value → Shared → Prop} (kp : KeepR w h) (hrm : Rm (n + 2) A) (hS : StA h a states) (hsz : states.length < 100000) (hx : IsTup h ax #[.int x.1 t1, .int x.2 t2]) 
    (hc : Cut (fun i => lexlt x (states.getD i (0, 0))) 0 states.length r) (hQ : ∀ t h' tk', Ext h h' → Q (.int (r : Int) t) (Sh c h' tk')) :
    wpAny (MM w) A (call (.ref 53) [.ref a, .ref ax] []) Q E (Sh c h tk) := by
  obtain ⟨us, m, hg, hul, hr⟩ := hS
  have hc' : Cut (fun i => lexlt x (states.getD i (0, 0))) 0 us.length r := by first | exact hc | (rw [hul]; exact hc)
  refine br_call2 (n := n + 1) (q := fun i => lexlt x (states.getD i (0, 0))) kp hrm (lo_isList hg) (by rw [hul]; (first | lia | omega)) hc'.mono ?_ fun r' t h' tk' hcut k => ?_
  · intro A' hr' i v hv _ _ h' tk' Q' k qq
    obtain ⟨s, a', u1, u2, e1, rfl, hT⟩ := sta_at hul hr hv
    have hs : states.getD i (0, 0) = s := by rw [List.getD_eq_getElem?_getD, e1]; rfl
    have hu : A'.units < cLine := by have := hr'.2; show _ < 9900; (first | lia | omega)
    refine r_ltT (hx.keeps k) (hT.keeps k) hu ?_
    rw [show decide (x.1 < s.1 ∨ x.1 = s.1 ∧ x.2 < s.2) = lexlt x s from rfl]
    have := qq h' tk' (Ext.refl _)
    simpa only [hs, Bool.not_not] using this
  · rw [hcut.uniq hc']; exact hQ t h' tk' k
theorem br_st3 {n r : Nat} {a ax : Addr} {states : List (Int × Int)} {x : Int × Int} {t1 t2 : Tok} {lo : Nat} {u1 : Tok} {Q : Value → Shared → Prop} (kp : KeepR w h) (hrm : Rm (n + 2) A) (hS : StA h a states) (hsz : states.length < 100000) (hx : IsTup h ax #[.int x.1 t1, .int x.2 t2]) (hle : lo ≤ states.length)
    (hc : Cut (fun i => lexlt x (states.getD i (0, 0))) lo states.length r) (hQ : ∀ t h' tk', Ext h h' → Q (.int (r : Int) t) (Sh c h' tk')) :
    wpAny (MM w) A (call (.ref 53) [.ref a, .ref ax, .int (lo : Int) u1] []) Q E (Sh c h tk) := by
  obtain ⟨us, m, hg, hul, hr⟩ := hS
  have hc' : Cut (fun i => lexlt x (states.getD i (0, 0))) lo us.length r := by first | exact hc | (rw [hul]; exact hc)
  refine br_call3 (n := n + 1) (q := fun i => lexlt x (states.getD i (0, 0))) kp hrm (lo_isList hg) (by rw [hul]; exact hle) (by rw [hul]; (first | lia | omega)) hc'.mono ?_ fun r' t h' tk' hcut k => ?_
  · intro A' hr' i v hv _ _ h' tk' Q' k qq
    obtain ⟨s, a', u1, u2, e1, rfl, hT⟩ := sta_at hul hr hv
    have hs : states.getD i (0, 0) = s := by rw [List.getD_eq_getElem?_getD, e1]; rfl
    have hu : A'.units < cLine := by have := hr'.2; show _ < 9900; (first | lia | omega)
    refine r_ltT (hx.keeps k) (hT.keeps k) hu ?_
    rw [show decide (x.1 < s.1 ∨ x.1 = s.1 ∧ x.2 < s.2) = lexlt x s from rfl]
    have := qq h' tk' (Ext.refl _)
    simpa only [hs, Bool.not_not] using this
  · rw [hcut.uniq hc']; exact hQ t h' tk' k
theorem br_st4 {n r : Nat} {a ax : Addr} {states : List (Int × Int)} {x : Int × Int} {t1 t2 : Tok} {lo hi : Nat} {u1 u2 : Tok} {Q : Value → Shared → Prop} (kp : KeepR w h) (hrm : Rm (n + 2) A) (hS : StA h a states) (hsz : states.length < 100000) (hx : IsTup h ax #[.int x.1 t1, .int x.2 t2]) (hle : lo ≤ hi) (hhi : hi ≤ states.length)
    (hc : Cut (fun i => lexlt x (states.getD i (0, 0))) lo hi r) (hQ : ∀ t h' tk', Ext h h' → Q (.int (r : Int) t) (Sh c h' tk')) :
    wpAny (MM w) A (call (.ref 53) [.ref a, .ref ax, .int (lo : Int) u1, .int (hi : Int) u2] []) Q E (Sh c h tk) := by
  obtain ⟨us, m, hg, hul, hr⟩ := hS
  have hc' : Cut (fun i => lexlt x (states.getD i (0, 0))) lo hi r := by first | exact hc | (rw [hul]; exact hc)
  refine br_call4 (n := n + 1) (q := fun i => lexlt x (states.getD i (0, 0))) kp hrm (lo_isList hg) hle (by rw [hul]; exact hhi) (by rw [hul]; (first | lia | omega)) hc'.mono ?_ fun r' t h' tk' hcut k => ?_
  · intro A' hr' i v hv _ _ h' tk' Q' k qq
    obtain ⟨s, a', u1, u2, e1, rfl, hT⟩ := sta_at hul hr hv
    have hs : states.getD i (0, 0) = s := by rw [List.getD_eq_getElem?_getD, e1]; rfl
    have hu : A'.units < cLine := by have := hr'.2; show _ < 9900; (first | lia | omega)
    refine r_ltT (hx.keeps k) (hT.keeps k) hu ?_
    rw [show decide (x.1 < s.1 ∨ x.1 = s.1 ∧ x.2 < s.2) = lexlt x s from rfl]
    have := qq h' tk' (Ext.refl _)
    simpa only [hs, Bool.not_not] using this
  · rw [hcut.uniq hc']; exact hQ t h' tk' k
end
end
section
noncomputable def fewN (states : List (Int × Int)) (z : Int) : Nat := (states.filter fun s => decide (s.1 < z)).length
noncomputable def mostN (states : List (Int × Int)) (z : Int) : Nat := (states.filter fun s => decide (s.1 ≤ z)).length
section
variable {w : World} {c : Shared} {h : Heap} {tk : Nat} {A : Around}
theorem lam_states {f aT aS : Addr} {o : Obj} {states : List (Int × Int)} {k : Nat} {s : Int × Int} {t : Tok} {Q : Value → Shared → Prop} {params : Arguments} {scope : Scope} {clos : List (Str × Addr)} {pm ctv : Value} {c' : Addr} {p1 p2 p3 p4 p5 : Pos} {k0 : Nat} {qual : Str} {n : Nat}
    (kp : KeepR w h) (ho : h.get? f = some (kla_obj (Str.ofString "<lambda>") qual params (.Subscript (.Subscript (.Name (Str.ofString "states") p1) (.Name (Str.ofString "one") p2) p3) (.Constant (.int 0) k0 p4) p5) scope clos pm c' ctv)) (hcd : h.CodeRec (.ref c') qual) (hrm : Rm (n + 1) A)
    (hP : ∀ v, bindArgs (kla_fn (Str.ofString "<lambda>") qual params (.Subscript (.Subscript (.Name (Str.ofString "states") p1) (.Name (Str.ofString "one") p2) p3) (.Constant (.int 0) k0 p4) p5) scope clos pm (.ref c') ctv) ⟨[v], []⟩ = Pure.pure [(Str.ofString "one", v)])
    (hco : scope.isCoroutine = false) (hgen : scope.isGenerator = false) (hkind : scope.kind = .function) (hcell : (scope.names.all fun x => x.2 != .cell) = true) (h1 : scope.names.lookup (Str.ofString "one") = some .local) (h2 : scope.names.lookup (Str.ofString "states") = some .free)
    (hcl : clos.lookup (Str.ofString "states") = some aT) (hg : h.get? aT = some (CellW o (some (.ref aS)))) (hS : StA h aS states) (hk : states[k]? = some s) (hsz : states.length < 100000)
    (q : ∀ h' tk' t, Ext h h' → Q (.int s.1 t) (Sh c h' tk')) : wpAny (MM w) A (call (.ref f) [.int (k : Int) t] []) Q NoE (Sh c h tk) := by
  obtain ⟨us, m, hgS, hul, hr⟩ := hS
  obtain ⟨v, e1, e2⟩ := rep_at hr (by simp [hul]) (k := k) (d := dSt s) (by rw [List.getElem?_map, hk]; rfl)
  obtain ⟨a, t1, t2, rfl, hT⟩ := rep_dst e2
  refine enterLam (fd := kla_fn (Str.ofString "<lambda>") qual params (.Subscript (.Subscript (.Name (Str.ofString "states") p1) (.Name (Str.ofString "one") p2) p3) (.Constant (.int 0) k0 p4) p5) scope clos pm (.ref c') ctv) kp ho rfl rfl hcd hco hgen hkind rfl rfl (BindsTo.of_eq (hP _)) hcell (by simp [h1]) rfl hrm.lt ?_
  intro L h₁ tk₁ st
  refine r_subscr (r_subscr (r_free (a := aT) (o := o) (v := .ref aS) st (by assumption) hcl (st.keep _ _ hg) (by decide +kernel) (by decide +kernel) (r_local st (by assumption) (.head _) (by decide +kernel) ?_)))
  refine r_itemL (n := k) (lo_isList (st.keep _ _ hgS)) rfl e1 (by (first | lia | omega)) rfl (fun _ => rfl) ?_
  refine r_cint fun t3 tk3 => ?_
  refine r_any (r_itemT (k := 0) (items := [_, _]) (hT.keeps st.keep) rfl (by simp) rfl (fun _ => rfl) ?_)
  exact q _ _ _ st.keep
theorem ph_h {L : Addr} {ob : Addr → Obj} {h0 base : Heap} {row : List (Nat × Int)} {states : List (Int × Int)} {aR : Addr} {ps : Array Value} {cs : List (Addr × Obj)} {Q : Flow → Shared → Prop} {h1 : Heap}
    (ks : KS h0 base L ob aR row states) (hT : TabOk ((envL L).qual ++ Str.ofString "<lambda>") ps cs) (hsl : states.length = 8) (hrow : row.length < 1000)
    (hH : ∀ z : Nat, z < row.length + 2 → Cut (fun i => !lexlt (states.getD i (0, 0)) ((z : Int), 0)) 0 states.length (fewN states z) ∧ Cut (fun i => !decide ((states.getD i (0, 0)).1 < (z : Int))) 0 8 (fewN states z) ∧ Cut (fun i => decide ((z : Int) < (states.getD i (0, 0)).1)) 0 8 (mostN states z))
    (st0 : St w (envL L) base [(Str.ofString "row", .ref aR)] (C2 L ob none none ((tabA, tabObj ps) :: cs)) [] h1)
    (k : ∀ h' tk' aW uW cv ps cs, St w (envL L) base [(Str.ofString "worlds", .ref aW), (Str.ofString "row", .ref aR)] ((aW, LO uW 0) :: C2 L ob cv none ((tabA, tabObj ps) :: cs)) [] h' →
      wpC (MM w) (AL L) (execs ((bdyAt 23).drop 18) (envL L)) Q NoE (Sh c h' tk')) :
    wpC (MM w) (AL L) (execs ((bdyAt 23).drop 16) (envL L)) Q NoE (Sh c h1 tk) := by
  have c_turns : (callEnvC fdLaw L 187).cells.lookup (Str.ofString "turns") = some (L + 11) := by kernel_rfl!
  have c_states : (callEnvC fdLaw L 187).cells.lookup (Str.ofString "states") = some (L + 10) := by kernel_rfl!
  have c_count : (callEnvC fdLaw L 187).cells.lookup (Str.ofString "count") = some (L + 9) := by kernel_rfl!
  have c_done : (callEnvC fdLaw L 187).cells.lookup (Str.ofString "done") = some (L + 8) := by kernel_rfl!
  have c_order : (callEnvC fdLaw L 187).cells.lookup (Str.ofString "order") = some (L + 7) := by kernel_rfl!
  have c_amounts : (callEnvC fdLaw L 187).cells.lookup (Str.ofString "amounts") = some (L + 6) := by kernel_rfl!
  have c_covers : (callEnvC fdLaw L 187).cells.lookup (Str.ofString "covers") = some (L + 5) := by kernel_rfl!
  have c_items : (callEnvC fdLaw L 187).cells.lookup (Str.ofString "items") = some (L + 4) := by kernel_rfl!
  have c_k : (callEnvC fdLaw L 187).cells.lookup (Str.ofString "k") = some (L + 3) := by kernel_rfl!
  have c_cells : (callEnvC fdLaw L 187).cells.lookup (Str.ofString "cells") = some (L + 2) := by kernel_rfl!
  have c_script : (callEnvC fdLaw L 187).cells.lookup (Str.ofString "script") = some (L + 1) := by kernel_rfl!
  have hA : (AL L).handled = none := rfl
  have hrm : Rm 12 (AL L) := (rmL L).less (by decide)
  obtain ⟨oR, itR, mR, g_row, hRc, hRd, hRl⟩ := ks.row
  obtain ⟨aS, uS, mS, g_states, g_aS, hSl, hSr⟩ := ks.sts
  have hSta : StA base aS states := ⟨uS, mS, g_aS, hSl, hSr⟩
  have hStK : ∀ h', Ext base h' → StA h' aS states := fun h' k => ⟨uS, mS, k _ _ g_aS, hSl, fun r hr => (hSr r hr).mono k.tups⟩
  refine c_cons ?_
  refine wpC_of ?_
  repeat' (walk_at "M.x")
  refine ⟨_, _, _, _, _, _, _, rfl, by simp, st0, ?_⟩
  intro h2 aW st2 k2
  obtain ⟨uW, huW, st2⟩ : ∃ uW, IntsAre uW ((List.range 8).map fun n : Nat => (n : Int)) ∧ St w (callEnvC fdLaw L 187) base _ ((aW, LO uW 0) :: _) _ h2 := ⟨_, .cons _ _ (.cons _ _ (.cons _ _ (.cons _ _ (.cons _ _ (.cons _ _ (.cons _ _ (.cons _ _ .nil))))))), st2⟩
  repeat' (walk_at "M.x")
  rename St w _ base _ _ _ _ => st3
  clear st2 st0
  have huWl : uW.length = 8 := by rw [huW.length]; simp
  refine c_cons ?_
  refine wpC_of ?_
  refine r_forC (h₀ := base) (X := Array Value × List (Addr × Obj)) (L + 9) (ob (L + 9)) (fun _ _ => [(Str.ofString "worlds", .ref aW), (Str.ofString "row", .ref aR)]) (fun _ x cv => (aW, LO uW 0) :: C2 L ob cv none ((tabA, tabObj x.1) :: x.2)) (fun _ _ => []) (fun _ x => TabOk ((envL L).qual ++ Str.ofString "<lambda>") x.1 x.2) ?_ c_count ?_ (fun _ => rfl) ?_
  · kernel_rfl!
  · exact fun i x cv v => .there .here
  intro Tq iTq
  repeat' (walk_at "M.x")
  have hRl3 : Heap.IsList _ aR itR.toArray := ⟨oR, st3.keep _ _ g_row, hRc, mR, hRd⟩
  refine r_lenL hRl3 (by (first | lia | omega)) ?_
  rw [hRl]
  intro t4 tk4
  repeat' (walk_at "M.x")
  rw [show ((row.length : Nat) : Int) + 2 = ((row.length + 2 : Nat) : Int) by (first | lia | omega)]
  refine r_rng1 (n := row.length + 2) (by (first | lia | omega)) fun h4 tk4 k4 => ?_
  have st4 := (st3.ext k4).alloc (o := RIt 0 ((row.length + 2 : Nat) : Int) 1) rfl
  generalize h4.objs.size = I at st4
  clear hRl3
  refine iTq.use _ _ ⟨I, _, _, _, row.length + 2, [], _, _, (ps, cs), none, rfl, rfl, It.range0 hA, RIt_0 _ _ _, st4, hT, (fun _ _ _ _ _ _ _ hp => nomatch hp), ?_, ?_⟩
  · clear st4 st3
    rintro z v oI h5 tk5 ⟨ps, cs⟩ Q1 E1 hz ⟨t6, rfl⟩ - hT st5 hQ1
    obtain ⟨hc1, hc2, hc3⟩ := hH z hz
    dsimp only at hT st5
    refine r_cons ?_
    refine r_unpackSw hA ?_ ?_ ?_
    · kernel_rfl!
    · kernel_rfl!
    repeat' (walk_at "M.x")
    have hvS : ∀ (i : Nat) (x : Int × Int) (v : Value), states[i]? = some x → uS[i]? = some v → ∃ a t1 t2, v = .ref a ∧ IsTup base a #[.int x.1 t1, .int x.2 t2] := fun i x v e1 e2 => by
      obtain ⟨s, a, t1, t2, e3, e4, e5⟩ := sta_at hSl hSr e2
      rw [e1] at e3; cases e3
      exact ⟨a, t1, t2, e4, e5⟩
    refine r_compF states (fun s v => ∃ a t1 t2, v = .ref a ∧ IsTup base a #[.int s.1 t1, .int s.2 t2]) (fun s => decide (s.1 < (z : Int))) dSt (cl := [(Str.ofString "count", L + 9)]) st5 (by kernel_rfl!) (by kernel_rfl!) (by kernel_rfl!) (by kernel_rfl!) (by kernel_rfl!) (fun _ => rfl) (by (first | lia | omega)) ?_
    intro Tq iTq
    repeat' (walk_at "M.x")
    refine r_iterL (st5.keep _ _ g_aS) ?_
    refine iTq.use _ _ ⟨_, _, _, _, _, rfl, rfl, it_list hA hSl hvS, ⟨rfl, rfl⟩, rfl, (fun p hp => by rw [List.mem_singleton.mp hp]; exact st5.keep _ _ g_aS), st5, ?_, ?_⟩
    · rintro s v C I' oI' D' ys m' rs' h7 tk7 - ⟨a, t1, t2, rfl, hTp⟩ st7
      have b_count := st5.get (a := L + 9) (o := CellW (ob (L + 9)) (some (.int (z : Int) t6))) (by walk_at "M.mem")
      have n_count : List.lookup (Str.ofString "count") ([(Str.ofString "count", L + 9)] : List (Str × Addr)) = some (L + 9) := by kernel_rfl!
      refine fun Tt iTt => t_one ?_
      repeat' (walk_at "M.x")
      refine r_itemT (k := 0) (items := [_, _]) ((hTp.keeps st5.keep).keeps st7.keep) rfl (by simp) (by kernel_rfl!) (fun _ => by kernel_rfl!) ?_
      repeat' (walk_at "M.x")
      refine iTt.use _ _ ⟨rfl, _, _, rfl, st7, fun _ Tv iTv => ?_⟩
      repeat' (walk_at "M.x")
      exact iTv.use _ _ ⟨_, _, rfl, st7, .tup ((hTp.keeps st5.keep).keeps st7.keep) (.cons (.int _ _) (.cons (.int _ _) .nil))⟩
    intro a8 h8 tk8 u8 m8 st8 k8 _ hl8
    repeat' (walk_at "M.x")
    refine r_lenL (lo_isList (St.get st8 (.head _))) (by have := List.length_filter_le (fun s : Int × Int => decide (s.1 < (z : Int))) states; (first | lia | omega)) ?_
    rw [hl8, show (states.filter fun s => decide (s.1 < (z : Int))).length = fewN states z from rfl]
    intro t9 tk9
    have st9 := (St.repSub (rs' := []) st8 (fun r hr => nomatch hr)).drop1
    clear st8 hl8 k8
    repeat' (walk_at "M.x")
    refine r_compF states (fun s v => ∃ a t1 t2, v = .ref a ∧ IsTup base a #[.int s.1 t1, .int s.2 t2]) (fun s => decide (s.1 ≤ (z : Int))) dSt (cl := [(Str.ofString "count", L + 9)]) st9 (by kernel_rfl!) (by kernel_rfl!) (by kernel_rfl!) (by kernel_rfl!) (by kernel_rfl!) (fun _ => rfl) (by (first | lia | omega)) ?_
    intro Tq iTq
    repeat' (walk_at "M.x")
    refine r_iterL (st9.keep _ _ g_aS) ?_
    refine iTq.use _ _ ⟨_, _, _, _, _, rfl, rfl, it_list hA hSl hvS, ⟨rfl, rfl⟩, rfl, (fun p hp => by rw [List.mem_singleton.mp hp]; exact st9.keep _ _ g_aS), st9, ?_, ?_⟩
    · rintro s v C I' oI' D' ys m' rs' h7 tk7 - ⟨a, t1, t2, rfl, hTp⟩ st7
      have b_count := st9.get (a := L + 9) (o := CellW (ob (L + 9)) (some (.int (z : Int) t6))) (by walk_at "M.mem")
      have n_count : List.lookup (Str.ofString "count") ([(Str.ofString "count", L + 9)] : List (Str × Addr)) = some (L + 9) := by kernel_rfl!
      refine fun Tt iTt => t_one ?_
      repeat' (walk_at "M.x")
      refine r_itemT (k := 0) (items := [_, _]) ((hTp.keeps st9.keep).keeps st7.keep) rfl (by simp) (by kernel_rfl!) (fun _ => by kernel_rfl!) ?_
      repeat' (walk_at "M.x")
      refine iTt.use _ _ ⟨rfl, _, _, rfl, st7, fun _ Tv iTv => ?_⟩
      repeat' (walk_at "M.x")
      exact iTv.use _ _ ⟨_, _, rfl, st7, .tup ((hTp.keeps st9.keep).keeps st7.keep) (.cons (.int _ _) (.cons (.int _ _) .nil))⟩
    intro a8 h8 tk8 u8 m8 st8 k8 _ hl8
    repeat' (walk_at "M.x")
    refine r_lenL (lo_isList (St.get st8 (.head _))) (by have := List.length_filter_le (fun s : Int × Int => decide (s.1 ≤ (z : Int))) states; (first | lia | omega)) ?_
    rw [hl8, show (states.filter fun s => decide (s.1 ≤ (z : Int))).length = mostN states z from rfl]
    intro t9 tk9
    have st12 := (St.repSub (rs' := []) st8 (fun r hr => nomatch hr)).drop1
    clear st8 hl8 k8
    repeat' (walk_at "M.x")
    refine ⟨_, _, rfl, by simp, ?_⟩
    intro h13 a13 k13 hT13
    refine ⟨_, _, _, _, _, rfl, rfl, hT13, ?_⟩
    intro h14 k14
    have st14 := (st12.ext k13).ext k14
    clear st5 st9 st12 hT13 k13 k14
    repeat' (walk_at "M.x")
    refine Later.mk ?_
    rename St w _ base _ _ _ _ => st15
    clear st14
    repeat' (walk_at "M.x")
    refine ⟨_, _, rfl, by simp, fun h16 a16 k16 hT16 => ?_⟩
    have st16 := st15.ext k16
    clear st15
    repeat' (walk_at "M.x")
    refine can_f okBL (St.kph ‹_›) (bl_st2 (n := 9) (x := ((z : Int), 0)) (St.kph ‹_›) (hrm.less (by decide)) (hStK _ st16.keep) (by (first | lia | omega)) hT16 hc1 ?_)
    intro t17 h17 tk17 k17
    have st17 := st16.ext k17
    clear st16 hT16
    repeat' (walk_at "M.x")
    refine r_lambda [_, _, _, _] (clos := [(Str.ofString "states", L + 10)]) st17 hT rfl (by kernel_rfl!) (by kernel_rfl!) ?_
    intro f pm c' ctv oc ps' cs' h6 tk6 hT' hoc hco st6
    repeat' (walk_at "M.x")
    simp only [List.cons_append, List.nil_append] at st6
    have hgf := st6.get (.head _)
    have hgW : Heap.get? h6 aW = some (LO uW 0) := st6.get (by walk_at "M.mem")
    have hgT : Heap.get? h6 (L + 10) = some (CellW (ob (L + 10)) (some (.ref aS))) := st6.keep _ _ g_states
    have hgc : h6.CodeRec (.ref c') ((envL L).qual ++ Str.ofString "<lambda>") := by
      obtain ⟨us, t, e1, e2⟩ := hco
      exact ⟨c', oc, us, t, rfl, st6.get (by repeat' (first | exact hoc | apply List.mem_cons_of_mem)), e1, e2⟩
    have klam : ∀ A', Rm 10 A' → ∀ (a : Nat) t, a < 8 → ∀ h' tk' (Q : Value → Shared → Prop), Ext h6 h' → (∀ t h'' tk'', Ext h' h'' → Q (.int (states.getD a (0, 0)).1 t) (Sh c h'' tk'')) → wpAny (MM w) A' (call (.ref f) [.int (a : Int) t] []) Q NoE (Sh c h' tk') := fun A' r a t ha h' tk' Q k qq =>
      lam_states (n := 9) (fun b o e => k b o (st6.kph b o e)) (k _ _ hgf) (hgc.keeps k) r (fun _ => by kernel_rfl!) (by kernel_rfl!) (by kernel_rfl!) (by kernel_rfl!) (by kernel_rfl!) (by kernel_rfl!) (by kernel_rfl!) (by kernel_rfl!) (k _ _ hgT) (hStK h' (fun b o e => k b o (st6.keep b o e))) (s := states.getD a (0, 0)) (by rw [List.getD_eq_getElem?_getD, List.getElem?_eq_getElem (by (first | lia | omega))]; rfl) (by (first | lia | omega)) (fun h'' tk'' t k2 => qq t h'' tk'' k2)
    refine can_f okBL (St.kph ‹_›) (bl_callK2 (n := 10) (q := fun i => !decide ((states.getD i (0, 0)).1 < (z : Int))) (KV := fun j kv _ => ∃ t, kv = Value.int (states.getD j (0, 0)).1 t) (St.kph ‹_›) (hrm.less (by decide)) (lo_isList hgW) (by (first | lia | omega)) (by rw [huWl]; exact hc2.mono) ⟨_, _, hgf, rfl⟩ ?_ ?_ ?_)
    · intro A' r j v hv _ hj h' tk' Q k qq
      rw [huWl] at hj
      obtain ⟨t, ht⟩ := ints_at huW (k := j) (z := (j : Int)) (by rw [List.getElem?_map, List.getElem?_range hj]; rfl)
      rw [ht] at hv; cases hv
      exact klam A' r j t hj h' tk' Q k fun t h'' tk'' k2 => qq _ _ _ k2 ⟨t, rfl⟩
    · intro A' r j kv _ _ h' tk' Q _ hv qq
      obtain ⟨t, rfl⟩ := hv
      refine r_lt ?_
      have := qq h' tk' (Ext.refl _)
      simpa only [Bool.not_not] using this
    intro r t10 h10 tk10 hcut k10
    rw [huWl] at hcut
    rw [hcut.uniq hc2]
    have st18 := (st6.ext k10).drop1
    clear klam hgc hgT hgW hgf hco hoc st6
    repeat' (walk_at "M.x")
    refine ⟨_, _, _, _, _, _, _, rfl, by simp, st18, ?_⟩
    intro h19 a19 st19 k19
    obtain ⟨u19, hu19, st19⟩ : ∃ u19, IntsAre u19 [(fewN states z : Int), (fewN states z : Int)] ∧ St w (callEnvC fdLaw L 187) base _ ((a19, LO u19 0) :: _) _ h19 := ⟨_, .cons _ _ (.cons _ _ .nil), st19⟩
    clear st18 st17
    repeat' (walk_at "M.x")
    refine Later.mk ?_
    rename St w _ base _ _ _ _ => st20
    clear st19
    refine r_cons ?_
    refine r_expr ?_ ?_ ?_
    · kernel_rfl!
    · kernel_rfl!
    refine r_method ?_ ?_ ?_
    · kernel_rfl!
    · rfl
    repeat' (walk_at "M.x")
    refine r_gmL PySem.F.slot_list_append PySem.F.type_list_append (st20.get (.head _)) ?_
    repeat' (walk_at "M.x")
    refine r_lambda [_, _, _, _, _] (clos := [(Str.ofString "states", L + 10)]) st20 hT' rfl (by kernel_rfl!) (by kernel_rfl!) ?_
    intro f pm c' ctv oc ps2 cs2 h6 tk6 hT2 hoc hco st6
    repeat' (walk_at "M.x")
    simp only [List.cons_append, List.nil_append] at st6
    have hgf := st6.get (.head _)
    have hgW : Heap.get? h6 aW = some (LO uW 0) := st6.get (by walk_at "M.mem")
    have hgT : Heap.get? h6 (L + 10) = some (CellW (ob (L + 10)) (some (.ref aS))) := st6.keep _ _ g_states
    have hgc : h6.CodeRec (.ref c') ((envL L).qual ++ Str.ofString "<lambda>") := by
      obtain ⟨us, t, e1, e2⟩ := hco
      exact ⟨c', oc, us, t, rfl, st6.get (by repeat' (first | exact hoc | apply List.mem_cons_of_mem)), e1, e2⟩
    have klam : ∀ A', Rm 10 A' → ∀ (a : Nat) t, a < 8 → ∀ h' tk' (Q : Value → Shared → Prop), Ext h6 h' → (∀ t h'' tk'', Ext h' h'' → Q (.int (states.getD a (0, 0)).1 t) (Sh c h'' tk'')) → wpAny (MM w) A' (call (.ref f) [.int (a : Int) t] []) Q NoE (Sh c h' tk') := fun A' r a t ha h' tk' Q k qq =>
      lam_states (n := 9) (fun b o e => k b o (st6.kph b o e)) (k _ _ hgf) (hgc.keeps k) r (fun _ => by kernel_rfl!) (by kernel_rfl!) (by kernel_rfl!) (by kernel_rfl!) (by kernel_rfl!) (by kernel_rfl!) (by kernel_rfl!) (by kernel_rfl!) (k _ _ hgT) (hStK h' (fun b o e => k b o (st6.keep b o e))) (s := states.getD a (0, 0)) (by rw [List.getD_eq_getElem?_getD, List.getElem?_eq_getElem (by (first | lia | omega))]; rfl) (by (first | lia | omega)) (fun h'' tk'' t k2 => qq t h'' tk'' k2)
    refine can_f okBR (St.kph ‹_›) (br_callK2 (n := 10) (q := fun i => decide ((z : Int) < (states.getD i (0, 0)).1)) (KV := fun j kv _ => ∃ t, kv = Value.int (states.getD j (0, 0)).1 t) (St.kph ‹_›) (hrm.less (by decide)) (lo_isList hgW) (by (first | lia | omega)) (by rw [huWl]; exact hc3.mono) ⟨_, _, hgf, rfl⟩ ?_ ?_ ?_)
    · intro A' r j v hv _ hj h' tk' Q k qq
      rw [huWl] at hj
      obtain ⟨t, ht⟩ := ints_at huW (k := j) (z := (j : Int)) (by rw [List.getElem?_map, List.getElem?_range hj]; rfl)
      rw [ht] at hv; cases hv
      exact klam A' r j t hj h' tk' Q k fun t h'' tk'' k2 => qq _ _ _ k2 ⟨t, rfl⟩
    · intro A' r j kv _ _ h' tk' Q _ hv qq
      obtain ⟨t, rfl⟩ := hv
      refine r_lt ?_
      have := qq h' tk' (Ext.refl _)
      simpa only [Bool.not_not] using this
    intro r t10 h10 tk10 hcut k10
    rw [huWl] at hcut
    rw [hcut.uniq hc3]
    have st21 := (st6.ext k10).drop1
    clear klam hgc hgT hgW hgf hco hoc st6
    repeat' (walk_at "M.x")
    refine r_append (st21.get (.head _)) (by rw [hu19.length]; simp) fun h22 m22 hs22 hg22 => ?_
    have st22 := st21.write .here hs22 hg22 (noTup_of (st21.get (.head _)) (show Value.type "list" ≠ .type "tuple" by decide))
    clear st21 st20
    obtain ⟨u22, hu22, st22⟩ : ∃ u22, IntsAre u22 [(fewN states z : Int), (fewN states z : Int), (mostN states z : Int)] ∧ St w (callEnvC fdLaw L 187) base _ ((a19, LO u22 m22) :: _) _ h22 := ⟨_, IntsAre.append hu19 (.cons _ _ .nil), st22⟩
    repeat' (walk_at "M.x")
    refine Later.mk ?_
    repeat' (walk_at "M.x")
    refine ⟨_, _, _, _, _, _, _, rfl, by simp, st22, ?_⟩
    intro h23 a23 st23 k23
    obtain ⟨u23, hu23, st23⟩ : ∃ u23, IntsAre u23 [(fewN states z : Int), (fewN states z : Int), (mostN states z : Int)] ∧ St w (callEnvC fdLaw L 187) base _ ((a23, LO u23 0) :: _) _ h23 := ⟨_, .cons _ _ (.cons _ _ (.cons _ _ .nil)), st23⟩
    refine ke_ne_ints (s := Sh c h23 _) (lo_isList (st23.get (.tail _ (.head _)))) (lo_isList (st23.get (.head _))) hu22 hu23 (by have := hrm.2; show _ < 9900; (first | lia | omega)) ?_
    rw [decide_eq_true rfl]
    repeat' (walk_at "M.x")
    refine ⟨fun e => absurd e (by decide), fun _ => ?_⟩
    repeat' (walk_at "M.x")
    exact hQ1 (ps2, cs2) _ _ hT2 ((st23.drop1.drop1).sub (by walk_at "M.sub") (by kernel_rfl!))
  · rintro ⟨ps, cs⟩ cv h5 tk5 hT st5
    exact @k h5 tk5 aW uW cv ps cs st5
end
end
section
noncomputable def lexle (a b : Int × Int) : Bool := decide (a.1 < b.1 ∨ (a.1 = b.1 ∧ a.2 ≤ b.2))
noncomputable def few2 (states : List (Int × Int)) (x : Int × Int) : Nat := (states.filter fun s => lexlt s x).length
noncomputable def most2 (states : List (Int × Int)) (x : Int × Int) : Nat := (states.filter fun s => lexle s x).length
structure KOk (row : List (Nat × Int)) (states : List (Int × Int)) (z : Nat) : Prop where
  h1 : Cut (fun i => !lexlt (states.getD i (0, 0)) (states.getD z (0, 0))) 0 states.length (few2 states (states.getD z (0, 0)))
  h2 : Cut (fun i => lexlt (states.getD z (0, 0)) (states.getD i (0, 0))) 0 states.length (most2 states (states.getD z (0, 0)))
  h3 : Cut (fun i => lexlt (states.getD z (0, 0)) (states.getD i (0, 0))) 0 z z
  h4 : Cut (fun i => !lexlt (states.getD i (0, 0)) (states.getD z (0, 0))) (z + 1) states.length (z + 1)
  h5 : Cut (fun i => !lexlt (states.getD i (0, 0)) ((row.length : Int) + 1, 0)) 0 z z
  h6 : Cut (fun i => lexlt (-1, 0) (states.getD i (0, 0))) z states.length z
section
variable {w : World} {c : Shared} {h : Heap} {tk : Nat} {A : Around}
theorem ph_i {L : Addr} {ob : Addr → Obj} {h0 base : Heap} {row : List (Nat × Int)} {states : List (Int × Int)} {aR aW : Addr} {uW : List Value} {cv : Option Value} {ps : Array Value} {cs : List (Addr × Obj)} {Q : Flow → Shared → Prop} {h1 : Heap}
    (ks : KS h0 base L ob aR row states) (hsl : states.length = 8) (hrow : row.length < 1000) (hK : ∀ z, z < 8 → KOk row states z)
    (st0 : St w (envL L) base [(Str.ofString "worlds", .ref aW), (Str.ofString "row", .ref aR)] ((aW, LO uW 0) :: C2 L ob cv none ((tabA, tabObj ps) :: cs)) [] h1)
    (k : ∀ h' tk' vs cv', St w (envL L) base vs ((aW, LO uW 0) :: C2 L ob cv cv' ((tabA, tabObj ps) :: cs)) [] h' → Q (.ret (.bool true)) (Sh c h' tk')) :
    wpC (MM w) (AL L) (execs ((bdyAt 23).drop 18) (envL L)) Q NoE (Sh c h1 tk) := by
  have c_turns : (callEnvC fdLaw L 187).cells.lookup (Str.ofString "turns") = some (L + 11) := by kernel_rfl!
  have c_states : (callEnvC fdLaw L 187).cells.lookup (Str.ofString "states") = some (L + 10) := by kernel_rfl!
  have c_count : (callEnvC fdLaw L 187).cells.lookup (Str.ofString "count") = some (L + 9) := by kernel_rfl!
  have c_done : (callEnvC fdLaw L 187).cells.lookup (Str.ofString "done") = some (L + 8) := by kernel_rfl!
  have c_order : (callEnvC fdLaw L 187).cells.lookup (Str.ofString "order") = some (L + 7) := by kernel_rfl!
  have c_amounts : (callEnvC fdLaw L 187).cells.lookup (Str.ofString "amounts") = some (L + 6) := by kernel_rfl!
  have c_covers : (callEnvC fdLaw L 187).cells.lookup (Str.ofString "covers") = some (L + 5) := by kernel_rfl!
  have c_items : (callEnvC fdLaw L 187).cells.lookup (Str.ofString "items") = some (L + 4) := by kernel_rfl!
  have c_k : (callEnvC fdLaw L 187).cells.lookup (Str.ofString "k") = some (L + 3) := by kernel_rfl!
  have c_cells : (callEnvC fdLaw L 187).cells.lookup (Str.ofString "cells") = some (L + 2) := by kernel_rfl!
  have c_script : (callEnvC fdLaw L 187).cells.lookup (Str.ofString "script") = some (L + 1) := by kernel_rfl!
  have hA : (AL L).handled = none := rfl
  have hrm : Rm 12 (AL L) := (rmL L).less (by decide)
  obtain ⟨oR, itR, mR, g_row, hRc, hRd, hRl⟩ := ks.row
  obtain ⟨aS, uS, mS, g_states, g_aS, hSl, hSr⟩ := ks.sts
  have hStK : ∀ h', Ext base h' → StA h' aS states := fun h' k => ⟨uS, mS, k _ _ g_aS, hSl, fun r hr => (hSr r hr).mono k.tups⟩
  refine c_cons ?_
  refine wpC_of ?_
  refine r_forC (h₀ := base) (X := Unit) (L + 3) (ob (L + 3)) (fun _ _ => [(Str.ofString "worlds", .ref aW), (Str.ofString "row", .ref aR)]) (fun _ x cv' => (aW, LO uW 0) :: C2 L ob cv cv' ((tabA, tabObj ps) :: cs)) (fun _ _ => []) (fun _ x => True) ?_ c_k ?_ (fun _ => rfl) ?_
  · kernel_rfl!
  · exact fun i x cv v => .there (.there .here)
  intro Tq iTq
  repeat' (walk_at "M.x")
  refine r_rng1 (n := 8) (by (first | lia | omega)) fun h4 tk4 k4 => ?_
  have st4 := (st0.ext k4).alloc (o := RIt 0 ((8 : Nat) : Int) 1) rfl
  generalize h4.objs.size = I at st4
  refine iTq.use _ _ ⟨I, _, _, _, 8, [], _, _, (), none, rfl, rfl, It.range0 hA, RIt_0 _ _ _, st4, trivial, (fun _ _ _ _ _ _ _ hp => nomatch hp), ?_, ?_⟩
  · clear st4 st0
    rintro z v oI h5 tk5 - Q1 E1 hz ⟨t6, rfl⟩ - - st5 hQ1
    obtain ⟨hc1, hc2, hc3, hc4, hc5, hc6⟩ := hK z hz
    have hvS : ∀ (i : Nat) (x : Int × Int) (v : Value), states[i]? = some x → uS[i]? = some v → ∃ a t1 t2, v = .ref a ∧ IsTup base a #[.int x.1 t1, .int x.2 t2] := fun i x v e1 e2 => by
      obtain ⟨s, a, t1, t2, e3, e4, e5⟩ := sta_at hSl hSr e2
      rw [e1] at e3; cases e3
      exact ⟨a, t1, t2, e4, e5⟩
    have esz : states[z]? = some (states.getD z (0, 0)) := by rw [List.getD_eq_getElem?_getD, List.getElem?_eq_getElem (by (first | lia | omega))]; rfl
    obtain ⟨vk, ek, ekr⟩ := rep_at hSr (by simp [hSl]) (k := z) (d := dSt (states.getD z (0, 0))) (by rw [List.getElem?_map, esz]; rfl)
    obtain ⟨ak, tk1', tk2', rfl, hTk⟩ := rep_dst ekr
    refine r_cons ?_
    refine r_unpackSw hA ?_ ?_ ?_
    · kernel_rfl!
    · kernel_rfl!
    repeat' (walk_at "M.x")
    refine r_compF states (fun s v => ∃ a t1 t2, v = .ref a ∧ IsTup base a #[.int s.1 t1, .int s.2 t2]) (fun s => lexlt s (states.getD z (0, 0))) dSt (cl := [(Str.ofString "states", L + 10), (Str.ofString "k", L + 3)]) st5 (by kernel_rfl!) (by kernel_rfl!) (by kernel_rfl!) (by kernel_rfl!) (by kernel_rfl!) (fun _ => rfl) (by (first | lia | omega)) ?_
    intro Tq iTq
    repeat' (walk_at "M.x")
    refine r_iterL (st5.keep _ _ g_aS) ?_
    refine iTq.use _ _ ⟨_, _, _, _, _, rfl, rfl, it_list hA hSl hvS, ⟨rfl, rfl⟩, rfl, (fun p hp => by rw [List.mem_singleton.mp hp]; exact st5.keep _ _ g_aS), st5, ?_, ?_⟩
    · rintro s v C I' oI' D' ys m' rs' h7 tk7 - ⟨a, t1, t2, rfl, hTp⟩ st7
      have b_k := st5.get (a := L + 3) (o := CellW (ob (L + 3)) (some (.int (z : Int) t6))) (by walk_at "M.mem")
      have b_states := st5.keep _ _ g_states
      have n_k : List.lookup (Str.ofString "k") ([(Str.ofString "states", L + 10), (Str.ofString "k", L + 3)] : List (Str × Addr)) = some (L + 3) := by kernel_rfl!
      have n_states : List.lookup (Str.ofString "states") ([(Str.ofString "states", L + 10), (Str.ofString "k", L + 3)] : List (Str × Addr)) = some (L + 10) := by kernel_rfl!
      refine fun Tt iTt => t_one ?_
      repeat' (walk_at "M.x")
      refine r_itemL (n := z) (lo_isList (st7.keep _ _ (st5.keep _ _ g_aS))) rfl ek (by (first | lia | omega)) (by kernel_rfl!) (fun _ => by kernel_rfl!) ?_
      refine r_ltT ((hTp.keeps st5.keep).keeps st7.keep) ((hTk.keeps st5.keep).keeps st7.keep) (by have := hrm.2; show _ < 9900; (first | lia | omega)) ?_
      repeat' (walk_at "M.x")
      refine iTt.use _ _ ⟨rfl, _, _, rfl, st7, fun _ Tv iTv => ?_⟩
      repeat' (walk_at "M.x")
      exact iTv.use _ _ ⟨_, _, rfl, st7, .tup ((hTp.keeps st5.keep).keeps st7.keep) (.cons (.int _ _) (.cons (.int _ _) .nil))⟩
    intro a8 h8 tk8 u8 m8 st8 k8 _ hl8
    repeat' (walk_at "M.x")
    refine r_lenL (lo_isList (St.get st8 (.head _))) (by have := List.length_filter_le (fun s : Int × Int => lexlt s (states.getD z (0, 0))) states; (first | lia | omega)) ?_
    rw [hl8, show (states.filter fun s => lexlt s (states.getD z (0, 0))).length = few2 states (states.getD z (0, 0)) from rfl]
    intro t9 tk9
    have st9 := (St.repSub (rs' := []) st8 (fun r hr => nomatch hr)).drop1
    clear st8 hl8 k8
    repeat' (walk_at "M.x")
    refine r_compF states (fun s v => ∃ a t1 t2, v = .ref a ∧ IsTup base a #[.int s.1 t1, .int s.2 t2]) (fun s => lexle s (states.getD z (0, 0))) dSt (cl := [(Str.ofString "states", L + 10), (Str.ofString "k", L + 3)]) st9 (by kernel_rfl!) (by kernel_rfl!) (by kernel_rfl!) (by kernel_rfl!) (by kernel_rfl!) (fun _ => rfl) (by (first | lia | omega)) ?_
    intro Tq iTq
    repeat' (walk_at "M.x")
    refine r_iterL (st9.keep _ _ g_aS) ?_
    refine iTq.use _ _ ⟨_, _, _, _, _, rfl, rfl, it_list hA hSl hvS, ⟨rfl, rfl⟩, rfl, (fun p hp => by rw [List.mem_singleton.mp hp]; exact st9.keep _ _ g_aS), st9, ?_, ?_⟩
    · rintro s v C I' oI' D' ys m' rs' h7 tk7 - ⟨a, t1, t2, rfl, hTp⟩ st7
      have b_k := st9.get (a := L + 3) (o := CellW (ob (L + 3)) (some (.int (z : Int) t6))) (by walk_at "M.mem")
      have b_states := st9.keep _ _ g_states
      have n_k : List.lookup (Str.ofString "k") ([(Str.ofString "states", L + 10), (Str.ofString "k", L + 3)] : List (Str × Addr)) = some (L + 3) := by kernel_rfl!
      have n_states : List.lookup (Str.ofString "states") ([(Str.ofString "states", L + 10), (Str.ofString "k", L + 3)] : List (Str × Addr)) = some (L + 10) := by kernel_rfl!
      refine fun Tt iTt => t_one ?_
      repeat' (walk_at "M.x")
      refine r_itemL (n := z) (lo_isList (st7.keep _ _ (st9.keep _ _ g_aS))) rfl ek (by (first | lia | omega)) (by kernel_rfl!) (fun _ => by kernel_rfl!) ?_
      refine r_leT ((hTp.keeps st9.keep).keeps st7.keep) ((hTk.keeps st9.keep).keeps st7.keep) (by have := hrm.2; show _ < 9900; (first | lia | omega)) ?_
      repeat' (walk_at "M.x")
      refine iTt.use _ _ ⟨rfl, _, _, rfl, st7, fun _ Tv iTv => ?_⟩
      repeat' (walk_at "M.x")
      exact iTv.use _ _ ⟨_, _, rfl, st7, .tup ((hTp.keeps st9.keep).keeps st7.keep) (.cons (.int _ _) (.cons (.int _ _) .nil))⟩
    intro a8 h8 tk8 u8 m8 st8 k8 _ hl8
    repeat' (walk_at "M.x")
    refine r_lenL (lo_isList (St.get st8 (.head _))) (by have := List.length_filter_le (fun s : Int × Int => lexle s (states.getD z (0, 0))) states; (first | lia | omega)) ?_
    rw [hl8, show (states.filter fun s => lexle s (states.getD z (0, 0))).length = most2 states (states.getD z (0, 0)) from rfl]
    intro t9 tk9
    have st12 := (St.repSub (rs' := []) st8 (fun r hr => nomatch hr)).drop1
    clear st8 hl8 k8
    repeat' (walk_at "M.x")
    refine ⟨_, _, rfl, by simp, ?_⟩
    intro h13 a13 k13 hT13
    refine ⟨_, _, _, _, _, rfl, rfl, hT13, ?_⟩
    intro h14 k14
    have st14 := (st12.ext k13).ext k14
    clear st5 st9 st12 hT13 k13 k14
    repeat' (walk_at "M.x")
    refine Later.mk ?_
    rename St w _ base _ _ _ _ => st15
    clear st14
    repeat' (walk_at "M.x")
    refine r_itemL (n := z) (lo_isList (st15.keep _ _ g_aS)) rfl ek (by (first | lia | omega)) (by kernel_rfl!) (fun _ => by kernel_rfl!) ?_
    repeat' (walk_at "M.x")
    refine can_f okBL (St.kph ‹_›) (bl_st2 (n := 9) (x := states.getD z (0, 0)) (St.kph ‹_›) (hrm.less (by decide)) (hStK _ st15.keep) (by (first | lia | omega)) (hTk.keeps st15.keep) hc1 ?_)
    intro t17 h17 tk17 k17
    have st16 := st15.ext k17
    clear st15
    repeat' (walk_at "M.x")
    refine r_itemL (n := z) (lo_isList (st16.keep _ _ g_aS)) rfl ek (by (first | lia | omega)) (by kernel_rfl!) (fun _ => by kernel_rfl!) ?_
    repeat' (walk_at "M.x")
    refine can_f okBR (St.kph ‹_›) (br_st2 (n := 9) (x := states.getD z (0, 0)) (St.kph ‹_›) (hrm.less (by decide)) (hStK _ st16.keep) (by (first | lia | omega)) (hTk.keeps st16.keep) hc2 ?_)
    intro t17 h17 tk17 k17
    have st18 := st16.ext k17
    clear st16
    repeat' (walk_at "M.x")
    refine ⟨_, _, _, _, _, _, _, rfl, by simp, st18, ?_⟩
    intro h19 a19 st19 k19
    obtain ⟨u19, hu19, st19⟩ : ∃ u19, IntsAre u19 [(few2 states (states.getD z (0, 0)) : Int), (most2 states (states.getD z (0, 0)) : Int)] ∧ St w (callEnvC fdLaw L 187) base _ ((a19, LO u19 0) :: _) _ h19 := ⟨_, .cons _ _ (.cons _ _ .nil), st19⟩
    clear st18
    repeat' (walk_at "M.x")
    refine Later.mk ?_
    rename St w _ base _ _ _ _ => st20
    clear st19
    repeat' (walk_at "M.x")
    refine r_itemL (n := z) (lo_isList (st20.keep _ _ g_aS)) rfl ek (by (first | lia | omega)) (by kernel_rfl!) (fun _ => by kernel_rfl!) ?_
    repeat' (walk_at "M.x")
    refine can_f okBR (St.kph ‹_›) (br_st4 (n := 9) (x := states.getD z (0, 0)) (lo := 0) (hi := z) (St.kph ‹_›) (hrm.less (by decide)) (hStK _ st20.keep) (by (first | lia | omega)) (hTk.keeps st20.keep) (Nat.zero_le _) (by (first | lia | omega)) hc3 ?_)
    intro t17 h17 tk17 k17
    have st21 := st20.ext k17
    clear st20
    repeat' (walk_at "M.x")
    refine r_itemL (n := z) (lo_isList (st21.keep _ _ g_aS)) rfl ek (by (first | lia | omega)) (by kernel_rfl!) (fun _ => by kernel_rfl!) ?_
    repeat' (walk_at "M.x")
    rw [show (z : Int) + 1 = ((z + 1 : Nat) : Int) from rfl]
    refine can_f okBL (St.kph ‹_›) (bl_st3 (n := 9) (x := states.getD z (0, 0)) (lo := z + 1) (St.kph ‹_›) (hrm.less (by decide)) (hStK _ st21.keep) (by (first | lia | omega)) (hTk.keeps st21.keep) (by (first | lia | omega)) hc4 ?_)
    intro t17 h17 tk17 k17
    have st22 := st21.ext k17
    clear st21
    repeat' (walk_at "M.x")
    refine ⟨_, _, _, _, _, _, _, rfl, by simp, st22, ?_⟩
    intro h23 a23 st23 k23
    obtain ⟨u23, hu23, st23⟩ : ∃ u23, IntsAre u23 [(z : Int), ((z + 1 : Nat) : Int)] ∧ St w (callEnvC fdLaw L 187) base _ ((a23, LO u23 0) :: _) _ h23 := ⟨_, .cons _ _ (.cons _ _ .nil), st23⟩
    clear st22
    repeat' (walk_at "M.x")
    refine r_iaddL (st23.get (.tail _ (.head _))) (st23.get (.head _)) (by rw [hu19.length, hu23.length]; simp) ?_
    intro h24 m24 hs24 hg24
    have st24 := (st23.write (.there .here) hs24 hg24 (noTup_of (st23.get (.tail _ (.head _))) (show Value.type "list" ≠ .type "tuple" by decide))).drop1
    have hu24 := IntsAre.append hu19 hu23
    clear st23 hu19 hu23
    generalize u19 ++ u23 = u24 at st24 hu24
    repeat' (walk_at "M.x")
    refine Later.mk ?_
    rename St w _ base _ _ _ _ => st25
    clear st24
    repeat' (walk_at "M.x")
    refine r_lenL ⟨oR, st25.keep _ _ g_row, hRc, mR, hRd⟩ (by (first | lia | omega)) ?_
    rw [hRl]
    intro t26 tk26
    repeat' (walk_at "M.x")
    refine ⟨_, _, rfl, by simp, fun h27 a27 k27 hT27 => ?_⟩
    have st27 := st25.ext k27
    clear st25
    repeat' (walk_at "M.x")
    refine can_f okBL (St.kph ‹_›) (bl_st4 (n := 9) (x := ((row.length : Int) + 1, 0)) (lo := 0) (hi := z) (St.kph ‹_›) (hrm.less (by decide)) (hStK _ st27.keep) (by (first | lia | omega)) hT27 (Nat.zero_le _) (by (first | lia | omega)) hc5 ?_)
    intro t17 h17 tk17 k17
    have st28 := st27.ext k17
    clear st27
    repeat' (walk_at "M.x")
    refine ⟨_, _, rfl, by simp, fun h29 a29 k29 hT29 => ?_⟩
    have st29 := st28.ext k29
    clear st28
    repeat' (walk_at "M.x")
    refine can_f okBR (St.kph ‹_›) (br_st3 (n := 9) (x := (-1, 0)) (lo := z) (St.kph ‹_›) (hrm.less (by decide)) (hStK _ st29.keep) (by (first | lia | omega)) hT29 (by (first | lia | omega)) hc6 ?_)
    intro t17 h17 tk17 k17
    have st30 := st29.ext k17
    clear st29
    repeat' (walk_at "M.x")
    refine ⟨_, _, _, _, _, _, _, rfl, by simp, st30, ?_⟩
    intro h31 a31 st31 k31
    obtain ⟨u31, hu31, st31⟩ : ∃ u31, IntsAre u31 [(z : Int), (z : Int)] ∧ St w (callEnvC fdLaw L 187) base _ ((a31, LO u31 0) :: _) _ h31 := ⟨_, .cons _ _ (.cons _ _ .nil), st31⟩
    clear st30
    repeat' (walk_at "M.x")
    refine r_iaddL (st31.get (.tail _ (.head _))) (st31.get (.head _)) (by rw [hu24.length, hu31.length]; simp) ?_
    intro h32 m32 hs32 hg32
    have st32 := (st31.write (.there .here) hs32 hg32 (noTup_of (st31.get (.tail _ (.head _))) (show Value.type "list" ≠ .type "tuple" by decide))).drop1
    have hu32 := IntsAre.append hu24 hu31
    clear st31 hu24 hu31
    generalize u24 ++ u31 = u32 at st32 hu32
    simp only [List.cons_append, List.nil_append] at hu32
    repeat' (walk_at "M.x")
    refine Later.mk ?_
    rename St w _ base _ _ _ _ => st33
    clear st32
    repeat' (walk_at "M.x")
    refine ⟨_, _, _, _, _, _, _, rfl, by simp, st33, ?_⟩
    intro h34 a34 st34 k34
    obtain ⟨u34, hu34, st34⟩ : ∃ u34, IntsAre u34 [(few2 states (states.getD z (0, 0)) : Int), (most2 states (states.getD z (0, 0)) : Int), (z : Int), ((z + 1 : Nat) : Int), (z : Int), (z : Int)] ∧ St w (callEnvC fdLaw L 187) base _ ((a34, LO u34 0) :: _) _ h34 := ⟨_, .cons _ _ (.cons _ _ (.cons _ _ (.cons _ _ (.cons _ _ (.cons _ _ .nil))))), st34⟩
    refine ke_ne_ints (s := Sh c h34 _) (lo_isList (st34.get (.tail _ (.head _)))) (lo_isList (st34.get (.head _))) hu32 hu34 (by have := hrm.2; show _ < 9900; (first | lia | omega)) ?_
    rw [decide_eq_true rfl]
    repeat' (walk_at "M.x")
    refine ⟨fun e => absurd e (by decide), fun _ => ?_⟩
    repeat' (walk_at "M.x")
    exact hQ1 () _ _ trivial ((st34.drop1.drop1).sub (by walk_at "M.sub") (by kernel_rfl!))
  · rintro - cv' h5 tk5 - st5
    refine c_cons ?_
    refine wpC_of ?_
    repeat' (walk_at "M.x")
    exact @k h5 _ _ cv' st5
end
end
section
noncomputable def lowOk (ch : Nat) : Bool := decide ((Txt.lower (S [ch])).length < 100) && decide ((mapB3 ch).length < 100)
noncomputable def lfOk (l : List Nat) : Bool := l.all fun ch => (decide (48 ≤ ch) && decide (ch ≤ 57)) || (decide (97 ≤ ch) && decide (ch ≤ 122))
theorem lfOk_lf {l : List Nat} (h : lfOk l = true) : LF l := fun ch hm => by
  have := List.all_eq_true.mp h ch hm
  simpa using this
theorem lowOk_low {ch : Nat} (h : lowOk ch = true) : (Txt.lower (S [ch])).length < 100 ∧ (mapB3 ch).length < 100 := by simpa [lowOk] using h
theorem chkA : ((List.range 26).all fun i => prepF [typSigns.getD i 0] == (typMeans.getD i Str.empty).cps.toList && lowOk (typSigns.getD i 0) && lfOk (typMeans.getD i Str.empty).cps.toList && decide ((typMeans.getD i Str.empty).cps.toList.length ≤ 3)) = true := by decide +kernel
theorem chkB : ((List.range 10).all fun i => prepF [48 + i] == [48 + i] && lowOk (48 + i) && lfOk [48 + i]) = true := by decide +kernel
theorem chkC : ((List.range 26).all fun le => (List.range 12).all fun f => prepF [letterF le f] == [97 + le] && lowOk (letterF le f) && lfOk [97 + le]) = true := by decide +kernel
theorem chkD : ((List.range 27).all fun k => prepF [unseenF k] == [] && lowOk (unseenF k)) = true := by decide +kernel
theorem chkBes : (besL.all fun b => prepF [b] == [b] && lowOk b) = true := by decide +kernel
structure TypOk (s m : List Nat) : Prop where
  prep : prepF s = m
  lf : LF m
  lm : m.length ≤ 3
  ls : s.length ≤ 1
  low : ∀ ch ∈ s, (Txt.lower (S [ch])).length < 100 ∧ (mapB3 ch).length < 100
theorem typ_ok (k : Nat) : TypOk (typedF k).1 (typedF k).2 := by
  unfold typedF
  split
  · have h := List.all_eq_true.mp chkA (k / 4 % 26) (List.mem_range.mpr (Nat.mod_lt _ (by decide)))
    simp only [Bool.and_eq_true, beq_iff_eq, decide_eq_true_eq] at h
    exact ⟨h.1.1.1, lfOk_lf h.1.2, h.2, by simp, fun ch hm => by rw [List.mem_singleton.mp hm]; exact lowOk_low h.1.1.2⟩
  · split
    · have h := List.all_eq_true.mp chkB (k / 4 % 10) (List.mem_range.mpr (Nat.mod_lt _ (by decide)))
      simp only [Bool.and_eq_true, beq_iff_eq] at h
      exact ⟨h.1.1, lfOk_lf h.2, by simp, by simp, fun ch hm => by rw [List.mem_singleton.mp hm]; exact lowOk_low h.1.2⟩
    · have h := List.all_eq_true.mp (List.all_eq_true.mp chkC (k / 4 % 26) (List.mem_range.mpr (Nat.mod_lt _ (by decide)))) (k / 4 / 26 % 12) (List.mem_range.mpr (Nat.mod_lt _ (by decide)))
      simp only [Bool.and_eq_true, beq_iff_eq] at h
      exact ⟨h.1.1, lfOk_lf h.2, by simp, by simp, fun ch hm => by rw [List.mem_singleton.mp hm]; exact lowOk_low h.1.2⟩
theorem uns_ok (k : Nat) : TypOk [unseenF (k % 27)] [] := by
  have h := List.all_eq_true.mp chkD (k % 27) (List.mem_range.mpr (Nat.mod_lt _ (by decide)))
  simp only [Bool.and_eq_true, beq_iff_eq] at h
  exact ⟨h.1, (fun _ hm => nomatch hm), by simp, by simp, fun ch hm => by rw [List.mem_singleton.mp hm]; exact lowOk_low h.2⟩
theorem bes_ok {b : Nat} (hb : b ∈ besL) : prepF [b] = [b] ∧ ((Txt.lower (S [b])).length < 100 ∧ (mapB3 b).length < 100) := by
  have h := List.all_eq_true.mp chkBes b hb
  simp only [Bool.and_eq_true, beq_iff_eq] at h
  exact ⟨h.1, lowOk_low h.2⟩
theorem prepF_app (a b : List Nat) : prepF (a ++ b) = prepF a ++ prepF b := by unfold prepF; rw [List.flatMap_append]
theorem prepF_flat : ∀ ls : List (List Nat), prepF ls.flatten = (ls.map prepF).flatten
  | [] => rfl
  | x :: r => by rw [List.flatten_cons, prepF_app, prepF_flat r, List.map_cons, List.flatten_cons]
theorem filter_flat (p : Nat → Bool) (f : Nat → List Nat) : ∀ l : List Nat, ((l.filter p).map f).flatten = (l.map fun k => if p k then f k else []).flatten
  | [] => rfl
  | x :: r => by
    rw [List.filter_cons, List.map_cons, List.flatten_cons, ← filter_flat p f r]
    cases p x with
    | true => simp
    | false => simp
theorem flat_len {f : Nat → List Nat} {m : Nat} : ∀ l : List Nat, (∀ k ∈ l, (f k).length ≤ m) → (l.map f).flatten.length ≤ l.length * m
  | [], _ => by simp
  | x :: r, h => by
    have h1 := h x (.head _)
    have h2 := flat_len r fun k hk => h k (.tail _ hk)
    rw [List.map_cons, List.flatten_cons, List.length_append, List.length_cons, Nat.succ_mul]; (first | lia | omega)
theorem wSign_ok (ds zs : List Nat) (d k : Nat) : TypOk (wSign ds zs d k) (if wIn zs d k then (typedF (ds.getD k 0)).2 else []) := by
  unfold wSign
  cases wIn zs d k with
  | true => exact typ_ok _
  | false => exact uns_ok _
theorem wText_eq (ds zs : List Nat) (d : Nat) : wText ds zs d = ((List.range 5).map fun k => if wIn zs d k then (typedF (ds.getD k 0)).2 else []).flatten := filter_flat _ _ _
theorem wOk (ds zs : List Nat) {bs : Nat} (hb : bs ∈ besL) (d : Nat) : WOk ds zs bs d where
  lf := fun ch hm => by
    rw [wText_eq] at hm
    obtain ⟨l, hl, hc⟩ := List.mem_flatten.mp hm
    obtain ⟨k, _, rfl⟩ := List.mem_map.mp hl
    exact (wSign_ok ds zs d k).lf ch hc
  lt := by
    rw [wText_eq]
    have := flat_len (f := fun k => if wIn zs d k then (typedF (ds.getD k 0)).2 else []) (m := 3) (List.range 5) fun k _ => (wSign_ok ds zs d k).lm
    rw [List.length_range] at this; (first | lia | omega)
  ly := by
    have := flat_len (f := wSign ds zs d) (m := 1) (List.range 5) fun k _ => (wSign_ok ds zs d k).ls
    rw [List.length_range] at this
    unfold wTyped; (first | lia | omega)
  low := fun ch hm => by
    rcases List.mem_append.mp hm with hm | hm
    · obtain ⟨l, hl, hc⟩ := List.mem_flatten.mp hm
      obtain ⟨k, _, rfl⟩ := List.mem_map.mp hl
      exact (wSign_ok ds zs d k).low ch hc
    · rw [List.mem_singleton.mp hm]; exact (bes_ok hb).2
  prep := by
    rw [prepF_app, (bes_ok hb).1, wText_eq]
    unfold wTyped
    rw [prepF_flat, List.map_map]
    congr 3
    funext k
    exact (wSign_ok ds zs d k).prep
noncomputable def scanS (b : Int) (s : Nat × Nat) (ch : Nat) : Nat × Nat := if endsAt b ch s.2 then (s.1 + 1, 0) else (s.1, s.2 + 1)
noncomputable def leP (s t : Nat × Nat) : Prop := s.1 < t.1 ∨ (s.1 = t.1 ∧ s.2 ≤ t.2)
theorem leP.refl (s : Nat × Nat) : leP s s := .inr ⟨rfl, Nat.le_refl _⟩
theorem ends_mono {b b' : Int} {ch k k' : Nat} (hb : b' ≤ b) (hk : k ≤ k') (h : endsAt b ch k = true) : endsAt b' ch k' = true := by
  unfold endsAt at h ⊢
  simp only [Bool.or_eq_true, beq_iff_eq, Bool.and_eq_true, decide_eq_true_eq] at h ⊢
  rcases h with h | ⟨h1, h2⟩
  · exact .inl h
  · refine .inr ⟨h1, ?_⟩
    rw [Int.fdiv_eq_ediv_of_nonneg _ (by decide)] at h2 ⊢
    (first | lia | omega)
theorem scan_step {b b' : Int} {ch : Nat} {s t : Nat × Nat} (hb : b' ≤ b) (h : leP s t) : leP (scanS b s ch) (scanS b' t ch) := by
  unfold scanS
  rcases h with h | ⟨h1, h2⟩
  · split <;> split <;> unfold leP <;> simp only <;> (first | lia | omega)
  · by_cases he : endsAt b ch s.2 = true
    · rw [if_pos he, if_pos (ends_mono hb h2 he)]
      exact .inr ⟨by (first | lia | omega), Nat.le_refl _⟩
    · rw [if_neg he]
      split <;> unfold leP <;> simp only <;> (first | lia | omega)
theorem scan_skip {b' : Int} {ch : Nat} {s t : Nat × Nat} (h : leP s t) : leP s (scanS b' t ch) := by
  unfold scanS
  rcases h with h | ⟨h1, h2⟩ <;> split <;> unfold leP <;> simp only <;> (first | lia | omega)
theorem scan_mono {b b' : Int} (hb : b' ≤ b) {l l' : List Nat} (hs : l.Sublist l') : ∀ {s t : Nat × Nat}, leP s t → leP (l.foldl (scanS b) s) (l'.foldl (scanS b') t) := by
  induction hs with
  | slnil => exact fun h => h
  | cons a _ ih => exact fun h => ih (scan_skip h)
  | cons_cons a _ ih => exact fun h => ih (scan_step hb h)
theorem scan_cnt (b : Int) : ∀ (l cur : List Nat) (p n : Nat), l.foldl (scanS b) (n, cur.length) = (n + (cntGo b l cur p).length, match (cntGo b l cur p).getLast? with | some q => p + l.length - q.1 | none => cur.length + l.length) ∧ (∀ q ∈ cntGo b l cur p, q.1 ≤ p + l.length)
  | [], cur, p, n => by simp [cntGo_nil]
  | ch :: r, cur, p, n => by
    rw [List.foldl_cons, cntGo_cons]
    by_cases he : endsAt b ch cur.length = true
    · obtain ⟨ih, ih2⟩ := scan_cnt b r [] (p + 1) (n + 1)
      rw [show scanS b (n, cur.length) ch = (n + 1, ([] : List Nat).length) by unfold scanS; rw [if_pos he]; rfl, ih, if_pos he]
      constructor
      · rw [List.length_cons, List.getLast?_cons]
        refine Prod.ext (by simp only; (first | lia | omega)) ?_
        cases hc : (cntGo b r [] (p + 1)).getLast? with
        | none => simp only [Option.getD_none, List.length_nil, List.length_cons]; (first | lia | omega)
        | some q => simp only [Option.getD_some, List.length_cons]; (first | lia | omega)
      · intro q hq
        rcases List.mem_cons.mp hq with rfl | hq
        · simp only [List.length_cons]; (first | lia | omega)
        · have := ih2 q hq; simp only [List.length_cons]; (first | lia | omega)
    · obtain ⟨ih, ih2⟩ := scan_cnt b r (cur ++ [ch]) (p + 1) n
      rw [show scanS b (n, cur.length) ch = (n, (cur ++ [ch]).length) by unfold scanS; rw [if_neg he]; simp, ih, if_neg he]
      constructor
      · refine Prod.ext rfl ?_
        cases hc : (cntGo b r (cur ++ [ch]) (p + 1)).getLast? with
        | none => simp only [List.length_append, List.length_cons, List.length_nil]; (first | lia | omega)
        | some q => simp only [List.length_cons]; (first | lia | omega)
      · intro q hq
        have := ih2 q hq; simp only [List.length_cons]; (first | lia | omega)
theorem wSt_scan (ds : List Nat) (x6 x7 c5 : Int) (zs : List Nat) (d : Nat) : wSt ds x6 x7 c5 zs d = ((((wText ds zs d).foldl (scanS (wBias x6 x7 c5 zs d)) (0, 0)).1 : Int), (((wText ds zs d).foldl (scanS (wBias x6 x7 c5 zs d)) (0, 0)).2 : Int)) := by
  obtain ⟨h1, h2⟩ := scan_cnt (wBias x6 x7 c5 zs d) (wText ds zs d) [] 0 0
  rw [List.length_nil] at h1
  rw [h1]
  unfold wSt wRow tailF
  refine Prod.ext (by simp) ?_
  simp only
  cases hc : (cntGo (wBias x6 x7 c5 zs d) (wText ds zs d) [] 0).getLast? with
  | none => simp only; (first | lia | omega)
  | some q =>
    simp only
    have := h2 q (List.mem_of_getLast? hc)
    (first | lia | omega)
theorem wIn_mono {zs : List Nat} {i j k : Nat} (hij : i ≤ j) (h : wIn zs i k = true) : wIn zs j k = true := by
  unfold wIn at h ⊢
  rw [decide_eq_true_eq] at h ⊢
  exact (List.take_subset_take_left zs hij) h
theorem sub_flat {a b : List (List Nat)} (x : a.Sublist b) : a.flatten.Sublist b.flatten := by
  induction x with
  | slnil => exact .slnil
  | cons x _ ih => rw [List.flatten_cons]; exact ih.trans (List.sublist_append_right _ _)
  | cons_cons x _ ih => rw [List.flatten_cons, List.flatten_cons]; exact (List.Sublist.refl x).append ih
theorem sub_filter {p q : Nat → Bool} (h : ∀ k, p k = true → q k = true) : ∀ l : List Nat, (l.filter p).Sublist (l.filter q)
  | [] => .slnil
  | x :: r => by
    rw [List.filter_cons, List.filter_cons]
    cases hp : p x with
    | true => rw [h x hp]; exact .cons₂ _ (sub_filter h r)
    | false =>
      cases q x with
      | true => exact .cons _ (sub_filter h r)
      | false => exact sub_filter h r
theorem wText_mono (ds zs : List Nat) {i j : Nat} (hij : i ≤ j) : (wText ds zs i).Sublist (wText ds zs j) :=
  sub_flat ((sub_filter (fun k h => wIn_mono hij h) _).map _)
theorem sum_sub {a b : List Int} (x : a.Sublist b) : (∀ x ∈ b, 0 ≤ x) → a.sum ≤ b.sum := by
  induction x with
  | slnil => exact fun _ => Int.le_refl _
  | cons x _ ih => exact fun hb => by rw [List.sum_cons]; exact Int.le_trans (ih fun y hy => hb y (.tail _ hy)) (Int.le_add_of_nonneg_left (hb x (.head _)))
  | cons_cons x _ ih => exact fun hb => by rw [List.sum_cons, List.sum_cons]; exact Int.add_le_add_left (ih fun y hy => hb y (.tail _ hy)) x
theorem wBias_mono {x6 x7 c5 : Int} {zs : List Nat} (h6 : 0 ≤ x6) (h7 : 0 ≤ x7) {i j : Nat} (hij : i ≤ j) : wBias x6 x7 c5 zs j ≤ wBias x6 x7 c5 zs i := by
  unfold wBias
  have := sum_sub ((sub_filter (p := fun k => wIn zs i (k + 5)) (q := fun k => wIn zs j (k + 5)) (fun k h => wIn_mono hij h) (List.range 2)).map fun k => [x6, x7].getD k 0) (fun x hx => by
    obtain ⟨k, hk, rfl⟩ := List.mem_map.mp hx
    have hk2 : k < 2 := List.mem_range.mp (List.mem_filter.mp hk).1
    have : k = 0 ∨ k = 1 := by (first | lia | omega)
    rcases this with rfl | rfl
    · exact h6
    · exact h7)
  (first | lia | omega)
theorem wSt_mono {ds : List Nat} {x6 x7 c5 : Int} {zs : List Nat} (h6 : 0 ≤ x6) (h7 : 0 ≤ x7) {i j : Nat} (hij : i ≤ j) : lexle (wSt ds x6 x7 c5 zs i) (wSt ds x6 x7 c5 zs j) = true := by
  rw [wSt_scan, wSt_scan]
  have := scan_mono (wBias_mono (c5 := c5) (zs := zs) h6 h7 hij) (wText_mono ds zs hij) (leP.refl (0, 0))
  unfold lexle
  rw [decide_eq_true_eq]
  rcases this with h | ⟨h1, h2⟩
  · exact .inl (by simp only; (first | lia | omega))
  · exact .inr ⟨by simp only; (first | lia | omega), by simp only; (first | lia | omega)⟩
theorem wSt_pos (ds : List Nat) (x6 x7 c5 : Int) (zs : List Nat) (d : Nat) : 0 ≤ (wSt ds x6 x7 c5 zs d).1 ∧ 0 ≤ (wSt ds x6 x7 c5 zs d).2 := by
  rw [wSt_scan]; exact ⟨by simp only; (first | lia | omega), by simp only; (first | lia | omega)⟩
end
section
noncomputable def dN (ch : Nat) : Nat := if 97 ≤ ch then ch - 97 else ch - 22
theorem dByte_ok : ((List.range 128).all fun ch => !((decide (48 ≤ ch) && decide (ch ≤ 57)) || (decide (97 ≤ ch) && decide (ch ≤ 122))) || dByte (dN ch) == (ch : Int).toNat.toUInt8) = true := by decide +kernel
theorem dByte_lf {ch : Nat} (h : (48 ≤ ch ∧ ch ≤ 57) ∨ (97 ≤ ch ∧ ch ≤ 122)) : dByte (dN ch) = (ch : Int).toNat.toUInt8 := by
  have := List.all_eq_true.mp dByte_ok ch (List.mem_range.mpr (by (first | lia | omega)))
  have h' : ((decide (48 ≤ ch) && decide (ch ≤ 57)) || (decide (97 ≤ ch) && decide (ch ≤ 122))) = true := by simpa using h
  rw [h'] at this
  simpa using this
theorem gBytes_lf {xs : List Nat} (h : LF xs) : gBytes (xs.map dN) = byteArr (xs.map fun n : Nat => (n : Int)) := by
  unfold gBytes byteArr
  rw [List.map_map, List.map_map]
  congr 1
  exact List.map_congr_left fun ch hm => dByte_lf (h ch hm)
theorem dN_v {ch : Nat} (h : (48 ≤ ch ∧ ch ≤ 57) ∨ (97 ≤ ch ∧ ch ≤ 122)) : digv ch = (dN ch : Int) ∧ dN ch < 36 := by
  unfold digv dN
  split <;> (first | lia | omega)
inductive NumS (b : Int) : Nat → List Nat → Prop
  | last {j ch : Nat} : digv ch < Tm (j : Int) b → NumS b j [ch]
  | more {j ch : Nat} {r : List Nat} : Tm (j : Int) b ≤ digv ch → NumS b (j + 1) r → NumS b j (ch :: r)
noncomputable def PreS (b : Int) : Nat → List Nat → Prop
  | _, [] => True
  | j, ch :: r => Tm (j : Int) b ≤ digv ch ∧ PreS b (j + 1) r
theorem PreS.snoc {b : Int} {ch : Nat} : ∀ {cur : List Nat} {j : Nat}, PreS b j cur → Tm ((j + cur.length : Nat) : Int) b ≤ digv ch → PreS b j (cur ++ [ch])
  | [], j, _, h => ⟨h, trivial⟩
  | x :: r, j, p, h => ⟨p.1, PreS.snoc p.2 (by rw [List.length_cons] at h; rw [show j + 1 + r.length = j + (r.length + 1) by (first | lia | omega)]; exact h)⟩
theorem PreS.num {b : Int} {ch : Nat} : ∀ {cur : List Nat} {j : Nat}, PreS b j cur → digv ch < Tm ((j + cur.length : Nat) : Int) b → NumS b j (cur ++ [ch])
  | [], j, _, h => .last h
  | x :: r, j, p, h => .more p.1 (PreS.num p.2 (by rw [List.length_cons] at h; rw [show j + 1 + r.length = j + (r.length + 1) by (first | lia | omega)]; exact h))
theorem numF_nonneg {b : Int} : ∀ {xs : List Nat} {j : Nat}, LF xs → 0 ≤ numF b xs j
  | [], _, _ => Int.le_refl _
  | ch :: r, j, h => by
    have h1 := (dN_v (h ch (.head _))).1
    have h2 := numF_nonneg (b := b) (xs := r) (j := j + 1) fun x hx => h x (.tail _ hx)
    have h3 := Tm_hi (j : Int) b
    have h4 : 0 ≤ (36 - Tm (j : Int) b) * numF b r (j + 1) := Int.mul_nonneg (by (first | lia | omega)) h2
    rw [numF_cons]; (first | lia | omega)
theorem gen_of {b : Int} : ∀ {xs : List Nat} {j : Nat}, NumS b j xs → LF xs → GenR b (numF b xs j) j (xs.map dN)
  | _, j, .last (ch := ch) h, hl => by
    obtain ⟨h1, h2⟩ := dN_v (hl ch (.head _))
    have e : numF b [ch] j = digv ch := by rw [numF_cons, numF_nil]; rw [Int.mul_zero, Int.add_zero]
    rw [e, List.map_singleton, show dN ch = (digv ch).toNat by (first | lia | omega)]
    exact .last (by (first | lia | omega)) h
  | _, j, .more (ch := ch) (r := r) h hr, hl => by
    obtain ⟨h1, h2⟩ := dN_v (hl ch (.head _))
    have ih := gen_of hr fun x hx => hl x (.tail _ hx)
    have hM := numF_nonneg (b := b) (xs := r) (j := j + 1) fun x hx => hl x (.tail _ hx)
    have t1 := Tm_lo (j : Int) b
    have t2 := Tm_hi (j : Int) b
    rw [numF_cons, List.map_cons]
    generalize numF b r (j + 1) = M at ih hM
    obtain ⟨T, hT⟩ : ∃ T, Tm (j : Int) b = T := ⟨_, rfl⟩
    rw [hT] at h t1 t2 ⊢
    generalize hN : digv ch + (36 - T) * M = N
    have hpos : 0 < 36 - T := by (first | lia | omega)
    have e1 : N - T = (digv ch - T) + (36 - T) * M := by (first | lia | omega)
    have hq : (N - T).fdiv (36 - T) = M := by
      rw [Int.fdiv_eq_ediv_of_nonneg _ (by (first | lia | omega)), e1, Int.add_mul_ediv_left _ _ (by (first | lia | omega)), Int.ediv_eq_zero_of_lt (by (first | lia | omega)) (by (first | lia | omega))]; (first | lia | omega)
    have hm : (N - T).fmod (36 - T) = digv ch - T := by
      rw [Int.fmod_eq_emod_of_nonneg _ (by (first | lia | omega)), e1, Int.add_mul_emod_self_left, Int.emod_eq_of_lt (by (first | lia | omega)) (by (first | lia | omega))]
    have hge : T ≤ N := by
      have : 0 ≤ (36 - T) * M := Int.mul_nonneg (by (first | lia | omega)) hM
      (first | lia | omega)
    have g := GenR.more (b := b) (N := N) (j := j) (ds := r.map dN) (by rw [hT]; exact hge) (by rw [hT, hq]; exact ih)
    rw [hT, hm, show (T + (digv ch - T)).toNat = dN ch by (first | lia | omega)] at g
    exact g
theorem gok {b : Int} {tx : List Nat} (htx : tx.length < 1000) : ∀ (l cur : List Nat) (bg p : Nat), LF cur → LF l → PreS b 0 cur → tx.drop bg = cur ++ l → p = bg + cur.length → bg ≤ tx.length → GOk b tx bg (cntGo b l cur p)
  | [], _, _, _, _, _, _, _, _, _ => trivial
  | ch :: r, cur, bg, p, hc, hl, hp, hd, hpe, hbg => by
    subst hpe
    have hch := hl ch (.head _)
    have hlen : bg + cur.length + 1 + r.length = tx.length := by
      have := congrArg List.length hd
      rw [List.length_drop, List.length_append, List.length_cons] at this; (first | lia | omega)
    have hr : LF r := fun x hx => hl x (.tail _ hx)
    have hcc : LF (cur ++ [ch]) := fun x hx => by
      rcases List.mem_append.mp hx with hx | hx
      · exact hc x hx
      · rw [List.mem_singleton.mp hx]; exact hch
    rw [cntGo_cons, ends_iff hch]
    by_cases he : digv ch < Tm (cur.length : Int) b
    · rw [if_pos (by simpa using he)]
      refine GOk.mk ⟨by (first | lia | omega), by (first | lia | omega), (cur ++ [ch]).map dN, ?_, gen_of (hp.num (by rw [Nat.zero_add]; exact he)) hcc, ?_⟩ ?_
      · rw [List.length_map, List.length_append, List.length_singleton]; (first | lia | omega)
      · rw [gBytes_lf hcc, hd, show bg + cur.length + 1 - bg = (cur ++ [ch]).length by rw [List.length_append, List.length_singleton]; (first | lia | omega), show cur ++ ch :: r = (cur ++ [ch]) ++ r by simp, List.take_left]
      · refine gok htx r [] (bg + cur.length + 1) _ (fun _ hx => nomatch hx) hr trivial ?_ rfl (by (first | lia | omega))
        have : tx.drop (bg + cur.length + 1) = (tx.drop bg).drop (cur.length + 1) := by rw [List.drop_drop]; congr 1
        rw [this, hd, show cur ++ ch :: r = (cur ++ [ch]) ++ r by simp, show cur.length + 1 = (cur ++ [ch]).length by simp, List.drop_left]; rfl
    · rw [if_neg (by simpa using he)]
      refine gok htx r (cur ++ [ch]) bg _ hcc hr (hp.snoc (by rw [Nat.zero_add]; (first | lia | omega))) (by rw [hd]; simp) (by rw [List.length_append, List.length_singleton]; (first | lia | omega)) hbg
theorem cut_filter {α : Type} (d : α) (P : α → Bool) : ∀ (l : List α) (q : Nat → Bool), (∀ i, i < l.length → P (l.getD i d) = !q i) → (∀ i j, i ≤ j → j < l.length → q i = true → q j = true) → Cut q 0 l.length (l.filter P).length
  | [], q, _, _ => ⟨Nat.le_refl _, Nat.le_refl _, fun i _ h => absurd h (Nat.not_lt_zero _), fun i _ h => absurd h (Nat.not_lt_zero _)⟩
  | x :: xs, q, hP, hm => by
    have h0 : P x = !q 0 := hP 0 (by simp)
    cases hq : q 0 with
    | true =>
      have hall : ∀ i, i < (x :: xs).length → q i = true := fun i hi => hm 0 i (Nat.zero_le _) hi hq
      have : (x :: xs).filter P = [] := by
        rw [List.filter_eq_nil_iff]
        intro a ha
        obtain ⟨i, hi, rfl⟩ := List.getElem_of_mem ha
        have := hP i hi
        rw [List.getD_eq_getElem?_getD, List.getElem?_eq_getElem hi, hall i hi] at this
        simpa using this
      rw [this]
      exact ⟨Nat.le_refl _, Nat.zero_le _, fun i _ h => absurd h (Nat.not_lt_zero _), fun i _ h => hall i h⟩
    | false =>
      have ih := cut_filter d P xs (fun i => q (i + 1)) (fun i hi => hP (i + 1) (by simpa using hi)) (fun i j hij hj => hm (i + 1) (j + 1) (by (first | lia | omega)) (by simpa using hj))
      rw [List.filter_cons, h0, hq]
      simp only [Bool.not_false, if_true, List.length_cons]
      refine ⟨Nat.zero_le _, by have := ih.hi1; (first | lia | omega), fun i _ h => ?_, fun i h1 h2 => ?_⟩
      · cases i with
        | zero => exact hq
        | succ i => exact ih.no i (Nat.zero_le _) (by (first | lia | omega))
      · cases i with
        | zero => (first | lia | omega)
        | succ i => exact ih.yes i (by (first | lia | omega)) (by (first | lia | omega))
theorem lexlt_le {a b : Int × Int} : (!lexlt a b) = lexle b a := by
  unfold lexlt lexle
  rw [Bool.eq_iff_iff]
  simp only [Bool.not_eq_true', decide_eq_false_iff_not, decide_eq_true_eq]
  omega
theorem lexle_tr {a b x : Int × Int} (h1 : lexle a b = true) (h2 : lexle b x = true) : lexle a x = true := by
  unfold lexle at *
  rw [decide_eq_true_eq] at *
  (first | lia | omega)
theorem lexle_lt {a b x : Int × Int} (h1 : lexle a b = true) (h2 : lexlt x a = true) : lexlt x b = true := by
  unfold lexle at h1
  unfold lexlt at *
  rw [decide_eq_true_eq] at *
  (first | lia | omega)
structure Sorted (st : List (Int × Int)) (R : Nat) : Prop where
  mono : ∀ i j, i ≤ j → j < st.length → lexle (st.getD i (0, 0)) (st.getD j (0, 0)) = true
  pos : ∀ i, i < st.length → 0 ≤ (st.getD i (0, 0)).1 ∧ 0 ≤ (st.getD i (0, 0)).2 ∧ (st.getD i (0, 0)).1 ≤ R
theorem cutsH {st : List (Int × Int)} {R : Nat} (s : Sorted st R) (z : Nat) :
    Cut (fun i => !lexlt (st.getD i (0, 0)) ((z : Int), 0)) 0 st.length (fewN st z) ∧ Cut (fun i => !decide ((st.getD i (0, 0)).1 < (z : Int))) 0 st.length (fewN st z) ∧ Cut (fun i => decide ((z : Int) < (st.getD i (0, 0)).1)) 0 st.length (mostN st z) := by
  refine ⟨cut_filter (0, 0) _ st _ (fun i hi => ?_) (fun i j hij hj h => ?_), cut_filter (0, 0) _ st _ (fun i hi => by simp) (fun i j hij hj h => ?_), cut_filter (0, 0) _ st _ (fun i hi => ?_) (fun i j hij hj h => ?_)⟩
  · have := s.pos i hi
    unfold lexlt
    rw [Bool.not_not, decide_eq_decide]
    simp only
    omega
  · rw [lexlt_le] at h ⊢
    exact lexle_tr h (s.mono i j hij hj)
  · have := s.mono i j hij hj
    unfold lexle at this
    simp only [Bool.not_eq_true', decide_eq_false_iff_not, decide_eq_true_eq] at h this ⊢
    omega
  · rw [Bool.eq_iff_iff]; simp
  · have := s.mono i j hij hj
    unfold lexle at this
    simp only [decide_eq_true_eq] at h this ⊢
    omega
theorem cutsK {st : List (Int × Int)} {row : List (Nat × Int)} (s : Sorted st row.length) (z : Nat) (hz : z < st.length) : KOk row st z where
  h1 := cut_filter (0, 0) _ st _ (fun i hi => by simp) fun i j hij hj h => by
    rw [lexlt_le] at h ⊢
    exact lexle_tr h (s.mono i j hij hj)
  h2 := cut_filter (0, 0) _ st _ (fun i hi => lexlt_le.symm) fun i j hij hj h => lexle_lt (s.mono i j hij hj) h
  h3 := ⟨Nat.zero_le _, Nat.le_refl _, fun i _ h => by
    have := s.mono i z (by omega) hz
    rw [← lexlt_le] at this
    simpa using this, fun i h1 h2 => by omega⟩
  h4 := ⟨Nat.le_refl _, by omega, fun i h1 h2 => by omega, fun i h1 h2 => by
    rw [lexlt_le]; exact s.mono z i (by omega) h2⟩
  h5 := ⟨Nat.zero_le _, Nat.le_refl _, fun i _ h => by
    have := s.pos i (by omega)
    unfold lexlt
    simp only [Bool.not_eq_false', decide_eq_true_eq]
    omega, fun i h1 h2 => by omega⟩
  h6 := ⟨Nat.le_refl _, by omega, fun i h1 h2 => by omega, fun i h1 h2 => by
    have := s.pos i h2
    unfold lexlt
    simp only [decide_eq_true_eq]
    omega⟩
theorem sorted_w {ds : List Nat} {x6 x7 c5 : Int} {zs : List Nat} (h6 : 0 ≤ x6) (h7 : 0 ≤ x7) : Sorted ((List.range 8).map (wSt ds x6 x7 c5 zs)) (wRow ds x6 x7 c5 zs 7).length := by
  have hg : ∀ i, i < 8 → ((List.range 8).map (wSt ds x6 x7 c5 zs)).getD i (0, 0) = wSt ds x6 x7 c5 zs i := fun i hi => by
    rw [List.getD_eq_getElem?_getD, List.getElem?_map, List.getElem?_range hi]; rfl
  refine ⟨fun i j hij hj => ?_, fun i hi => ?_⟩
  · have hj : j < 8 := by simpa using hj
    rw [hg i (by (first | lia | omega)), hg j hj]
    exact wSt_mono h6 h7 hij
  · have hi : i < 8 := by simpa using hi
    rw [hg i hi]
    have h1 := wSt_pos ds x6 x7 c5 zs i
    have h2 := wSt_mono (ds := ds) (c5 := c5) (zs := zs) h6 h7 (show i ≤ 7 by (first | lia | omega))
    refine ⟨h1.1, h1.2, ?_⟩
    unfold lexle at h2
    rw [decide_eq_true_eq] at h2
    have e : (wSt ds x6 x7 c5 zs 7).1 = ((wRow ds x6 x7 c5 zs 7).length : Int) := rfl
    (first | lia | omega)
end
section
theorem law1 : LawC 187 := by
  intro w h tk c l vs ns kp hl hi hn
  refine ph_a kp hl hi hn ?_
  intro L ha tka ob a5 u5 m5 vl c0 c1 c2 c3 c4 c5 c6 c7 hu5 sta
  refine ph_b hu5 sta ?_
  intro hb tkb ds x6 x7 aV uV mV aA uA mA aC uC mC aI uI mI a5 m5 vd ts hd5 hds x60 x70 hts hA hC hI hV stb
  have hts7 : ts.length = 7 := by rw [← hts]; simp [hd5]
  refine ph_c hts7 hV stb ?_
  intro hc tkc aO uO mO zs ps cs hord hO hT stc
  refine ph_d hts7 hV hord hO hT stc ?_
  intro hd tkd ps cs hT std
  refine @ph_e w c (h.hide tabA) tkd L ob aV aA aC aI a5 uV uA uC uI u5 mV mA mC mI m5 vl ds x6 x7 c0 c1 c2 c3 c4 c5 c6 c7 _ hd aO uO mO zs ps cs hO hT hu5 hA hC hI std ?_
  intro base he tke aB aS bs tb kb hbs ste
  have hz7 := hord.length
  refine ph_f kb hd5 hz7 (fun d _ => wOk ds zs hbs d) ste ?_
  intro hf tkf us m aR oR items mR cd tbi tt hus hRc hRd hRl stf
  have wk := wOk ds zs hbs 7
  have hrl : (wRow ds x6 x7 c5 zs 7).length < 1000 := by
    have h1 : (wRow ds x6 x7 c5 zs 7).length ≤ (wText ds zs 7).length := cntGo_len _ _ _ _
    have := wk.lt; (first | lia | omega)
  have e8 : rStates ds x6 x7 c5 zs 8 = ((List.range 8).map (wSt ds x6 x7 c5 zs)).map dSt := by unfold rStates; rw [List.map_map]; rfl
  rw [e8] at stf
  have srt := sorted_w (ds := ds) (c5 := c5) (zs := zs) x60 x70
  have hsl : ((List.range 8).map (wSt ds x6 x7 c5 zs)).length = 8 := by simp
  refine ph_g (w := w) (c := c) (tk := tkf) (L := L) (ob := ob) (h0 := h.hide tabA) (base := base) (bi := wBias x6 x7 c5 zs 7) (tx := wText ds zs 7) (row := wRow ds x6 x7 c5 zs 7) (states := (List.range 8).map (wSt ds x6 x7 c5 zs)) (aR := aR) (aS := aS) (aB := aB) (oR := oR) (us := us) (items := items) (m := m) (mR := mR) (cd := cd) (tbi := tbi) (tt := tt) (tb := tb) (bsx := S [bs]) (ps := ps) (cs := cs) (h1 := hf) kb.ext hT (hus.trans hsl.symm) hRc hRd hRl (by have := wk.lt; (first | lia | omega)) (fun ch hm => by have := wk.lf ch hm; (first | lia | omega)) hrl (gok (by have := wk.lt; (first | lia | omega)) (wText ds zs 7) [] 0 0 (fun _ hx => nomatch hx) wk.lf trivial rfl rfl (Nat.zero_le _)) stf ?_
  intro base2 hg tkg ks stg
  refine ph_h (w := w) (c := c) (tk := tkg) (L := L) (ob := ob) (h0 := h.hide tabA) (base := base2) (row := wRow ds x6 x7 c5 zs 7) (states := (List.range 8).map (wSt ds x6 x7 c5 zs)) (aR := aR) (ps := ps) (cs := cs) (h1 := hg) ks hT hsl hrl (fun z _ => ?_) stg ?_
  · obtain ⟨h1, h2, h3⟩ := cutsH srt z
    rw [hsl] at h2 h3
    exact ⟨h1, h2, h3⟩
  intro hh tkh aW uW cv ps cs sth
  refine ph_i (w := w) (c := c) (tk := tkh) (L := L) (ob := ob) (h0 := h.hide tabA) (base := base2) (row := wRow ds x6 x7 c5 zs 7) (states := (List.range 8).map (wSt ds x6 x7 c5 zs)) (aR := aR) (aW := aW) (uW := uW) (cv := cv) (ps := ps) (cs := cs) (h1 := hh) ks hsl hrl (fun z hz => cutsK srt z (by rw [hsl]; exact hz)) sth ?_
  intro hi' tki vs' cv' sti
  refine ⟨hi', tki, ps, rfl, rfl, fun b o hne e => ?_, sti.get (by walk_at "M.mem")⟩
  exact sti.keep _ _ (ks.ext _ _ ((Heap.hide_ne h hne).trans e))
theorem fin1 : PySem.Challenge.rw_wb0081_01.Holds := holds_from_law2 law1
end
end
end Mine
end
theorem PySem.Challenge.cw_wb0081_01_holds : PySem.Challenge.rw_wb0081_01.Holds := by
  exact Mine.fin1
