import PyProof.Rows.All
import Wide.All
import OpenK.AllK
import Wide.FinOn
import PySem.Challenge.RW_mj0050_01
open PySem PySem.W PyProof.Rows
set_option Elab.async false
set_option linter.unusedVariables false
set_option linter.unusedSimpArgs false
section HeadS
set_option maxRecDepth 100000
set_option maxHeartbeats 0
namespace Mine
noncomputable section
abbrev pp : Program := PySem.Challenge.pw_mj0050_01
def vi (n t : Nat) : Value := .int (Int.ofNat n) t
def ei (n t : Nat) : Int × Value := (Int.ofNat n, .int (Int.ofNat n) t)
def lif : Life := (PySem.Life.mk [] [] [] 0 [] [] Bool.false #[] [] 0 Bool.false Bool.false Bool.false 0 [2000, 10, 10] Bool.false 0 Bool.true [] [] 0 Bool.false)
def drw : Drawn := (PySem.Drawn.mk 0 0 0 0)
def fnAt (i : Nat) : Option (Arguments × List Stmt × Scope) := match pp.main.body[i]? with | some (.FunctionDef _ a b _ _ _ sc ..) => some (a, b, sc) | _ => none
@[reducible] def mkF (i : Nat) {a : Arguments} {b : List Stmt} {c : Scope} (_ : fnAt i = some (a, b, c)) (gl bu : Addr) (name qual : Str) (dflt kwd doc pm : Value) (an : Option Addr) (code ct : Value) : FuncData :=
  { name := name, qualname := qual, params := a, body := .stmts b, scope := c, globals := gl, closure := [], defaults := dflt, kwdefaults := kwd, doc := doc, pyModule := pm, annotations := an, code := code, closureTuple := ct, builtins := bu }
def ann : Option Value := (some (PySem.Value.ref 6))
def env : Env := { scope := pp.main.scope, locals := mainNs, globals := mainNs, cells := [], code := (PySem.Value.ref 13), frame := some 14 }
def cE : Code := .body (behindTheImports pp) env
def qpos : Pos := (PySem.Pos.mk 0 0 0 0)
def BB : List Frame := [topFrame qpos]
def prePos : Pos := (PySem.Pos.mk 0 0 0 0)
def pos0 : Pos := (PySem.Pos.mk 0 0 0 0)
def k11 (P : Params) : BT := .node (boot_o_7 P) .nil .nil
def k12 (P : Params) : BT := .node (boot_o_3 P) (k11 P) .nil
def k13 (P : Params) : BT := .node (boot_o_9 P) .nil .nil
def k14 (P : Params) : BT := .node (boot_o_5 P) (k13 P) .nil
def k15 (P : Params) : BT := .node (boot_o_1 P) (k12 P) (k14 P)
def k16 (P : Params) : BT := .node (boot_o_8 P) .nil .nil
def k17 (P : Params) : BT := .node (boot_o_4 P) (k16 P) .nil
def k18 (P : Params) : BT := .node (boot_o_10 P) .nil .nil
def k19 (P : Params) : BT := .node (boot_o_6 P) (k18 P) .nil
def k20 (P : Params) : BT := .node (boot_o_2 P) (k17 P) (k19 P)
def k21 (P : Params) : BT := .node (boot_o_0 P) (k15 P) (k20 P)
def SB (w : World) (os : OsState) : SharedT := ⟨(k21 w.params), 11, lif, #[], drw, 181, os⟩
def o11v22 (P : Params) : Obj := (PySem.Obj.mk (PySem.Value.type "tuple") none (PySem.Data.seq #[] 0) #[])
def o12v23 (P : Params) : Obj := (PySem.Obj.mk PySem.Value.none none (PySem.Data.fields #[]) #[])
def o13v24 (P : Params) : Obj := (PySem.Obj.mk (PySem.Value.type "code") none (PySem.Data.fields #[(PySem.Value.str (PySem.Str.ofString "<module>") 182), (PySem.Value.str (PySem.Str.ofString "<module>") 183), (PySem.Value.str (PySem.Str.ofString "/claim/cut.py") 184), (vi 1 0), (vi 0 0), (vi 0 0), (vi 0 0), (vi 0 0), (PySem.Value.ref 11), (PySem.Value.bool Bool.false), (vi 181 0), (PySem.Value.ref 12), PySem.Value.none, PySem.Value.none, PySem.Value.none, PySem.Value.none, (vi 185 0), (vi 1 0), (PySem.Value.str (PySem.Str.ofString "/claim/cut.py") 186)]) #[])
def o14v25 (P : Params) : Obj := (PySem.Obj.mk (PySem.Value.type "frame") none PySem.Data.plain #[(some (PySem.Value.ref 13)), (some (PySem.Value.ref 3)), (some (PySem.Value.ref 3)), none, (some (PySem.Value.str (PySem.Str.ofString "__main__") 164)), none, (some (PySem.Value.ref 0))])
def k26 (P : Params) : BT := .node (o11v22 P) .nil .nil
def k27 (P : Params) : BT := .node (boot_o_3 P) (k11 P) (k26 P)
def k28 (P : Params) : BT := .node (o13v24 P) .nil .nil
def k29 (P : Params) : BT := .node (boot_o_5 P) (k13 P) (k28 P)
def k30 (P : Params) : BT := .node (boot_o_1 P) (k27 P) (k29 P)
def k31 (P : Params) : BT := .node (o12v23 P) .nil .nil
def k32 (P : Params) : BT := .node (boot_o_4 P) (k16 P) (k31 P)
def k33 (P : Params) : BT := .node (o14v25 P) .nil .nil
def k34 (P : Params) : BT := .node (boot_o_6 P) (k18 P) (k33 P)
def k35 (P : Params) : BT := .node (boot_o_2 P) (k32 P) (k34 P)
def k36 (P : Params) : BT := .node (boot_o_0 P) (k30 P) (k35 P)
def SA (w : World) (os : OsState) : SharedT := ⟨(k36 w.params), 15, lif, #[], drw, 187, os⟩
def S0 (w : World) (os : OsState) : SharedT := ⟨(k36 w.params), 15, lif, #[], drw, 187, os⟩
def pos1 : Pos := (PySem.Pos.mk 1 0 1 8)
def o3v37 (P : Params) : Obj := (PySem.Obj.mk (PySem.Value.type "dict") none (PySem.Data.dict #[(PySem.DictEntry.mk (PySem.PyData.keyHash P (PySem.Str.ofString "__name__")) (PySem.Value.str (PySem.Str.ofString "__name__") 165) (PySem.Value.str (PySem.Str.ofString "cpy313.stringprep") 187)), (PySem.DictEntry.mk (PySem.PyData.keyHash P (PySem.Str.ofString "__doc__")) (PySem.Value.str (PySem.Str.ofString "__doc__") 166) PySem.Value.none), (PySem.DictEntry.mk (PySem.PyData.keyHash P (PySem.Str.ofString "__package__")) (PySem.Value.str (PySem.Str.ofString "__package__") 167) PySem.Value.none), (PySem.DictEntry.mk (PySem.PyData.keyHash P (PySem.Str.ofString "__loader__")) (PySem.Value.str (PySem.Str.ofString "__loader__") 168) (PySem.Value.builtin "__main__.__loader__#opaque")), (PySem.DictEntry.mk (PySem.PyData.keyHash P (PySem.Str.ofString "__spec__")) (PySem.Value.str (PySem.Str.ofString "__spec__") 169) PySem.Value.none), (PySem.DictEntry.mk (PySem.PyData.keyHash P (PySem.Str.ofString "__annotations__")) (PySem.Value.str (PySem.Str.ofString "__annotations__") 170) (PySem.Value.ref 6)), (PySem.DictEntry.mk (PySem.PyData.keyHash P (PySem.Str.ofString "__builtins__")) (PySem.Value.str (PySem.Str.ofString "__builtins__") 171) (PySem.Value.ref 4)), (PySem.DictEntry.mk (PySem.PyData.keyHash P (PySem.Str.ofString "__file__")) (PySem.Value.str (PySem.Str.ofString "__file__") 173) (PySem.Value.str (PySem.Str.ofString "/claim/cut.py") 172)), (PySem.DictEntry.mk (PySem.PyData.keyHash P (PySem.Str.ofString "__cached__")) (PySem.Value.str (PySem.Str.ofString "__cached__") 174) PySem.Value.none)] 9) #[])
def k38 (P : Params) : BT := .node (o3v37 P) (k11 P) (k26 P)
def k39 (P : Params) : BT := .node (boot_o_1 P) (k38 P) (k29 P)
def k40 (P : Params) : BT := .node (boot_o_0 P) (k39 P) (k35 P)
def S1 (w : World) (os : OsState) : SharedT := ⟨(k40 w.params), 15, lif, #[], drw, 189, os⟩
def o15v41 (P : Params) : Obj := (PySem.Obj.mk (PySem.Value.type "list") none (PySem.Data.seq #[(vi 173 189), (vi 847 190), (vi 6150 191), (vi 6155 192), (vi 6156 193), (vi 6157 194), (vi 8203 195), (vi 8204 196), (vi 8205 197), (vi 8288 198), (vi 65279 199)] 0) #[])
def o16v42 (P : Params) : Obj := (PySem.Obj.mk (PySem.Value.type "range") none (PySem.Data.fields #[(vi 65024 200), (vi 65040 201), (vi 1 202)]) #[])
def o17v43 (P : Params) : Obj := (PySem.Obj.mk (PySem.Value.type "list") none (PySem.Data.seq #[(vi 65024 205)] 3) #[])
def o18v44 (P : Params) : Obj := (PySem.Obj.mk (PySem.Value.type "range_iterator") none (PySem.Data.fields #[(vi 65025 0), (vi 15 0), (vi 1 0)]) #[])
def k45 (P : Params) : BT := .node (o15v41 P) .nil .nil
def k46 (P : Params) : BT := .node (boot_o_7 P) (k45 P) .nil
def k47 (P : Params) : BT := .node (o3v37 P) (k46 P) (k26 P)
def k48 (P : Params) : BT := .node (o17v43 P) .nil .nil
def k49 (P : Params) : BT := .node (boot_o_9 P) (k48 P) .nil
def k50 (P : Params) : BT := .node (boot_o_5 P) (k49 P) (k28 P)
def k51 (P : Params) : BT := .node (boot_o_1 P) (k47 P) (k50 P)
def k52 (P : Params) : BT := .node (o16v42 P) .nil .nil
def k53 (P : Params) : BT := .node (boot_o_8 P) (k52 P) .nil
def k54 (P : Params) : BT := .node (boot_o_4 P) (k53 P) (k31 P)
def k55 (P : Params) : BT := .node (o18v44 P) .nil .nil
def k56 (P : Params) : BT := .node (boot_o_10 P) (k55 P) .nil
def k57 (P : Params) : BT := .node (boot_o_6 P) (k56 P) (k33 P)
def k58 (P : Params) : BT := .node (boot_o_2 P) (k54 P) (k57 P)
def k59 (P : Params) : BT := .node (boot_o_0 P) (k51 P) (k58 P)
def S1L0c0 (w : World) (os : OsState) : SharedT := ⟨(k59 w.params), 19, lif, #[], drw, 206, os⟩
def o17v60 (P : Params) : Obj := (PySem.Obj.mk (PySem.Value.type "list") none (PySem.Data.seq #[(vi 65024 205), (vi 65025 206), (vi 65026 207), (vi 65027 208), (vi 65028 209), (vi 65029 210), (vi 65030 211), (vi 65031 212), (vi 65032 213)] 11) #[])
def o18v61 (P : Params) : Obj := (PySem.Obj.mk (PySem.Value.type "range_iterator") none (PySem.Data.fields #[(vi 65033 0), (vi 7 0), (vi 1 0)]) #[])
def k62 (P : Params) : BT := .node (o17v60 P) .nil .nil
def k63 (P : Params) : BT := .node (boot_o_9 P) (k62 P) .nil
def k64 (P : Params) : BT := .node (boot_o_5 P) (k63 P) (k28 P)
def k65 (P : Params) : BT := .node (boot_o_1 P) (k47 P) (k64 P)
def k66 (P : Params) : BT := .node (o18v61 P) .nil .nil
def k67 (P : Params) : BT := .node (boot_o_10 P) (k66 P) .nil
def k68 (P : Params) : BT := .node (boot_o_6 P) (k67 P) (k33 P)
def k69 (P : Params) : BT := .node (boot_o_2 P) (k54 P) (k68 P)
def k70 (P : Params) : BT := .node (boot_o_0 P) (k65 P) (k69 P)
def S1L0c1 (w : World) (os : OsState) : SharedT := ⟨(k70 w.params), 19, lif, #[], drw, 214, os⟩
def o17v71 (P : Params) : Obj := (PySem.Obj.mk (PySem.Value.type "list") none (PySem.Data.seq #[(vi 65024 205), (vi 65025 206), (vi 65026 207), (vi 65027 208), (vi 65028 209), (vi 65029 210), (vi 65030 211), (vi 65031 212), (vi 65032 213), (vi 65033 214), (vi 65034 215), (vi 65035 216), (vi 65036 217), (vi 65037 218), (vi 65038 219), (vi 65039 220)] 18) #[])
def o18v72 (P : Params) : Obj := (PySem.Obj.mk (PySem.Value.type "range_iterator") none (PySem.Data.fields #[(vi 65040 0), (vi 0 0), (vi 1 0)]) #[])
def k73 (P : Params) : BT := .node (o17v71 P) .nil .nil
def k74 (P : Params) : BT := .node (boot_o_9 P) (k73 P) .nil
def k75 (P : Params) : BT := .node (boot_o_5 P) (k74 P) (k28 P)
def k76 (P : Params) : BT := .node (boot_o_1 P) (k47 P) (k75 P)
def k77 (P : Params) : BT := .node (o18v72 P) .nil .nil
def k78 (P : Params) : BT := .node (boot_o_10 P) (k77 P) .nil
def k79 (P : Params) : BT := .node (boot_o_6 P) (k78 P) (k33 P)
def k80 (P : Params) : BT := .node (boot_o_2 P) (k54 P) (k79 P)
def k81 (P : Params) : BT := .node (boot_o_0 P) (k76 P) (k80 P)
def S1L0c2 (w : World) (os : OsState) : SharedT := ⟨(k81 w.params), 19, lif, #[], drw, 221, os⟩
def o19v82 (P : Params) : Obj := (PySem.Obj.mk (PySem.Value.type "tuple") none (PySem.Data.seq #[] 0) #[])
def o20v83 (P : Params) : Obj := (PySem.Obj.mk (PySem.Value.type "StopIteration") none (PySem.Data.fields #[(PySem.Value.ref 19), PySem.Value.none, PySem.Value.none, PySem.Value.none, (PySem.Value.bool Bool.false), PySem.Value.none]) #[])
def o21v84 (P : Params) : Obj := (PySem.Obj.mk (PySem.Value.type "list") none (PySem.Data.seq #[(vi 173 189), (vi 847 190), (vi 6150 191), (vi 6155 192), (vi 6156 193), (vi 6157 194), (vi 8203 195), (vi 8204 196), (vi 8205 197), (vi 8288 198), (vi 65279 199), (vi 65024 205), (vi 65025 206), (vi 65026 207), (vi 65027 208), (vi 65028 209), (vi 65029 210), (vi 65030 211), (vi 65031 212), (vi 65032 213), (vi 65033 214), (vi 65034 215), (vi 65035 216), (vi 65036 217), (vi 65037 218), (vi 65038 219), (vi 65039 220)] 0) #[])
def o22v85 (P : Params) : Obj := ⟨(PySem.Value.type "set"), none, .set #[(ei 173 189)] 1 ⟨7, #[5], #[], 0, (!P.followText "set-order"), 0, true⟩, #[]⟩
def o23v86 (P : Params) : Obj := (PySem.Obj.mk (PySem.Value.type "list_iterator") none (PySem.Data.fields #[(PySem.Value.ref 21), (vi 1 0)]) #[])
def k87 (P : Params) : BT := .node (o23v86 P) .nil .nil
def k88 (P : Params) : BT := .node (boot_o_7 P) (k45 P) (k87 P)
def k89 (P : Params) : BT := .node (o19v82 P) .nil .nil
def k90 (P : Params) : BT := .node (o11v22 P) (k89 P) .nil
def k91 (P : Params) : BT := .node (o3v37 P) (k88 P) (k90 P)
def k92 (P : Params) : BT := .node (o21v84 P) .nil .nil
def k93 (P : Params) : BT := .node (o13v24 P) (k92 P) .nil
def k94 (P : Params) : BT := .node (boot_o_5 P) (k74 P) (k93 P)
def k95 (P : Params) : BT := .node (boot_o_1 P) (k91 P) (k94 P)
def k96 (P : Params) : BT := .node (o20v83 P) .nil .nil
def k97 (P : Params) : BT := .node (o12v23 P) (k96 P) .nil
def k98 (P : Params) : BT := .node (boot_o_4 P) (k53 P) (k97 P)
def k99 (P : Params) : BT := .node (o22v85 P) .nil .nil
def k100 (P : Params) : BT := .node (o14v25 P) (k99 P) .nil
def k101 (P : Params) : BT := .node (boot_o_6 P) (k78 P) (k100 P)
def k102 (P : Params) : BT := .node (boot_o_2 P) (k98 P) (k101 P)
def k103 (P : Params) : BT := .node (boot_o_0 P) (k95 P) (k102 P)
def S1Z0c0 (w : World) (os : OsState) : SharedT := ⟨(k103 w.params), 24, lif, #[], drw, 222, os⟩
def o22v104 (P : Params) : Obj := ⟨(PySem.Value.type "set"), none, .set #[(ei 6150 191), (ei 6155 192), (ei 6156 193), (ei 173 189), (ei 6157 194), (ei 847 190), (ei 8203 195), (ei 8204 196), (ei 8205 197)] 10 ⟨31, #[6, 11, 12, 13, 14, 15, 16, 17, 18], #[], 0, (!P.followText "set-order"), 1, true⟩, #[]⟩
def o23v105 (P : Params) : Obj := (PySem.Obj.mk (PySem.Value.type "list_iterator") none (PySem.Data.fields #[(PySem.Value.ref 21), (vi 9 0)]) #[])
def k106 (P : Params) : BT := .node (o23v105 P) .nil .nil
def k107 (P : Params) : BT := .node (boot_o_7 P) (k45 P) (k106 P)
def k108 (P : Params) : BT := .node (o3v37 P) (k107 P) (k90 P)
def k109 (P : Params) : BT := .node (boot_o_1 P) (k108 P) (k94 P)
def k110 (P : Params) : BT := .node (o22v104 P) .nil .nil
def k111 (P : Params) : BT := .node (o14v25 P) (k110 P) .nil
def k112 (P : Params) : BT := .node (boot_o_6 P) (k78 P) (k111 P)
def k113 (P : Params) : BT := .node (boot_o_2 P) (k98 P) (k112 P)
def k114 (P : Params) : BT := .node (boot_o_0 P) (k109 P) (k113 P)
def S1Z0c1 (w : World) (os : OsState) : SharedT := ⟨(k114 w.params), 24, lif, #[], drw, 230, os⟩
def o22v115 (P : Params) : Obj := ⟨(PySem.Value.type "set"), none, .set #[(ei 8288 198), (ei 65024 205), (ei 65025 206), (ei 65026 207), (ei 65027 208), (ei 65028 209), (ei 6150 191), (ei 65029 210), (ei 6155 192), (ei 6156 193), (ei 173 189), (ei 6157 194), (ei 847 190), (ei 8203 195), (ei 8204 196), (ei 8205 197), (ei 65279 199)] 18 ⟨31, #[0, 1, 2, 3, 4, 5, 6, 7, 11, 12, 13, 14, 15, 16, 17, 18, 31], #[], 0, (!P.followText "set-order"), 1, true⟩, #[]⟩
def o23v116 (P : Params) : Obj := (PySem.Obj.mk (PySem.Value.type "list_iterator") none (PySem.Data.fields #[(PySem.Value.ref 21), (vi 17 0)]) #[])
def k117 (P : Params) : BT := .node (o23v116 P) .nil .nil
def k118 (P : Params) : BT := .node (boot_o_7 P) (k45 P) (k117 P)
def k119 (P : Params) : BT := .node (o3v37 P) (k118 P) (k90 P)
def k120 (P : Params) : BT := .node (boot_o_1 P) (k119 P) (k94 P)
def k121 (P : Params) : BT := .node (o22v115 P) .nil .nil
def k122 (P : Params) : BT := .node (o14v25 P) (k121 P) .nil
def k123 (P : Params) : BT := .node (boot_o_6 P) (k78 P) (k122 P)
def k124 (P : Params) : BT := .node (boot_o_2 P) (k98 P) (k123 P)
def k125 (P : Params) : BT := .node (boot_o_0 P) (k120 P) (k124 P)
def S1Z0c2 (w : World) (os : OsState) : SharedT := ⟨(k125 w.params), 24, lif, #[], drw, 238, os⟩
def o22v126 (P : Params) : Obj := ⟨(PySem.Value.type "set"), none, .set #[(ei 65024 205), (ei 65025 206), (ei 65026 207), (ei 65027 208), (ei 65028 209), (ei 65029 210), (ei 6150 191), (ei 65030 211), (ei 65031 212), (ei 65032 213), (ei 65033 214), (ei 6155 192), (ei 6156 193), (ei 6157 194), (ei 8203 195), (ei 8204 196), (ei 8205 197), (ei 65034 215), (ei 65035 216), (ei 65036 217), (ei 65037 218), (ei 173 189), (ei 847 190), (ei 8288 198), (ei 65279 199)] 27 ⟨127, #[0, 1, 2, 3, 4, 5, 6, 7, 8, 9, 10, 11, 12, 13, 14, 15, 16, 17, 18, 19, 20, 45, 79, 96, 127], #[], 0, (!P.followText "set-order"), 2, true⟩, #[]⟩
def o23v127 (P : Params) : Obj := (PySem.Obj.mk (PySem.Value.type "list_iterator") none (PySem.Data.fields #[(PySem.Value.ref 21), (vi 25 0)]) #[])
def k128 (P : Params) : BT := .node (o23v127 P) .nil .nil
def k129 (P : Params) : BT := .node (boot_o_7 P) (k45 P) (k128 P)
def k130 (P : Params) : BT := .node (o3v37 P) (k129 P) (k90 P)
def k131 (P : Params) : BT := .node (boot_o_1 P) (k130 P) (k94 P)
def k132 (P : Params) : BT := .node (o22v126 P) .nil .nil
def k133 (P : Params) : BT := .node (o14v25 P) (k132 P) .nil
def k134 (P : Params) : BT := .node (boot_o_6 P) (k78 P) (k133 P)
def k135 (P : Params) : BT := .node (boot_o_2 P) (k98 P) (k134 P)
def k136 (P : Params) : BT := .node (boot_o_0 P) (k131 P) (k135 P)
def S1Z0c3 (w : World) (os : OsState) : SharedT := ⟨(k136 w.params), 24, lif, #[], drw, 246, os⟩
@[reducible] def o22v137 (P : Params) : Obj := ⟨(PySem.Value.type "set"), none, .set #[(ei 65024 205), (ei 65025 206), (ei 65026 207), (ei 65027 208), (ei 65028 209), (ei 65029 210), (ei 6150 191), (ei 65030 211), (ei 65031 212), (ei 65032 213), (ei 65033 214), (ei 6155 192), (ei 6156 193), (ei 6157 194), (ei 8203 195), (ei 8204 196), (ei 8205 197), (ei 65034 215), (ei 65035 216), (ei 65036 217), (ei 65037 218), (ei 65038 219), (ei 65039 220), (ei 173 189), (ei 847 190), (ei 8288 198), (ei 65279 199)] 29 ⟨127, #[0, 1, 2, 3, 4, 5, 6, 7, 8, 9, 10, 11, 12, 13, 14, 15, 16, 17, 18, 19, 20, 21, 22, 45, 79, 96, 127], #[], 0, (!P.followText "set-order"), 2, true⟩, #[]⟩
def o23v138 (P : Params) : Obj := (PySem.Obj.mk (PySem.Value.type "list_iterator") none (PySem.Data.fields #[(PySem.Value.ref 21), (vi 27 0)]) #[])
def k139 (P : Params) : BT := .node (o23v138 P) .nil .nil
def k140 (P : Params) : BT := .node (boot_o_7 P) (k45 P) (k139 P)
def k141 (P : Params) : BT := .node (o3v37 P) (k140 P) (k90 P)
def k142 (P : Params) : BT := .node (boot_o_1 P) (k141 P) (k94 P)
def k143 (P : Params) : BT := .node (o22v137 P) .nil .nil
def k144 (P : Params) : BT := .node (o14v25 P) (k143 P) .nil
def k145 (P : Params) : BT := .node (boot_o_6 P) (k78 P) (k144 P)
def k146 (P : Params) : BT := .node (boot_o_2 P) (k98 P) (k145 P)
def k147 (P : Params) : BT := .node (boot_o_0 P) (k142 P) (k146 P)
def S1Z0c4 (w : World) (os : OsState) : SharedT := ⟨(k147 w.params), 24, lif, #[], drw, 248, os⟩
def pos2 : Pos := (PySem.Pos.mk 2 0 2 6)
def o3v148 (P : Params) : Obj := (PySem.Obj.mk (PySem.Value.type "dict") none (PySem.Data.dict #[(PySem.DictEntry.mk (PySem.PyData.keyHash P (PySem.Str.ofString "__name__")) (PySem.Value.str (PySem.Str.ofString "__name__") 165) (PySem.Value.str (PySem.Str.ofString "cpy313.stringprep") 187)), (PySem.DictEntry.mk (PySem.PyData.keyHash P (PySem.Str.ofString "__doc__")) (PySem.Value.str (PySem.Str.ofString "__doc__") 166) PySem.Value.none), (PySem.DictEntry.mk (PySem.PyData.keyHash P (PySem.Str.ofString "__package__")) (PySem.Value.str (PySem.Str.ofString "__package__") 167) PySem.Value.none), (PySem.DictEntry.mk (PySem.PyData.keyHash P (PySem.Str.ofString "__loader__")) (PySem.Value.str (PySem.Str.ofString "__loader__") 168) (PySem.Value.builtin "__main__.__loader__#opaque")), (PySem.DictEntry.mk (PySem.PyData.keyHash P (PySem.Str.ofString "__spec__")) (PySem.Value.str (PySem.Str.ofString "__spec__") 169) PySem.Value.none), (PySem.DictEntry.mk (PySem.PyData.keyHash P (PySem.Str.ofString "__annotations__")) (PySem.Value.str (PySem.Str.ofString "__annotations__") 170) (PySem.Value.ref 6)), (PySem.DictEntry.mk (PySem.PyData.keyHash P (PySem.Str.ofString "__builtins__")) (PySem.Value.str (PySem.Str.ofString "__builtins__") 171) (PySem.Value.ref 4)), (PySem.DictEntry.mk (PySem.PyData.keyHash P (PySem.Str.ofString "__file__")) (PySem.Value.str (PySem.Str.ofString "__file__") 173) (PySem.Value.str (PySem.Str.ofString "/claim/cut.py") 172)), (PySem.DictEntry.mk (PySem.PyData.keyHash P (PySem.Str.ofString "__cached__")) (PySem.Value.str (PySem.Str.ofString "__cached__") 174) PySem.Value.none), (PySem.DictEntry.mk (PySem.PyData.keyHash P (PySem.Str.ofString "b1_set")) (PySem.Value.str (PySem.Str.ofString "b1_set") 248) (PySem.Value.ref 22))] 10) #[])
def o23v149 (P : Params) : Obj := (PySem.Obj.mk (PySem.Value.type "list_iterator") none (PySem.Data.fields #[PySem.Value.none, (vi 27 0)]) #[])
def o24v150 (P : Params) : Obj := (PySem.Obj.mk (PySem.Value.type "tuple") none (PySem.Data.seq #[] 0) #[])
def o25v151 (P : Params) : Obj := (PySem.Obj.mk (PySem.Value.type "StopIteration") none (PySem.Data.fields #[(PySem.Value.ref 24), PySem.Value.none, PySem.Value.none, PySem.Value.none, (PySem.Value.bool Bool.false), PySem.Value.none]) #[])
def k152 (P : Params) : BT := .node (o23v149 P) .nil .nil
def k153 (P : Params) : BT := .node (boot_o_7 P) (k45 P) (k152 P)
def k154 (P : Params) : BT := .node (o3v148 P) (k153 P) (k90 P)
def k155 (P : Params) : BT := .node (o25v151 P) .nil .nil
def k156 (P : Params) : BT := .node (boot_o_9 P) (k73 P) (k155 P)
def k157 (P : Params) : BT := .node (boot_o_5 P) (k156 P) (k93 P)
def k158 (P : Params) : BT := .node (boot_o_1 P) (k154 P) (k157 P)
def k159 (P : Params) : BT := .node (o24v150 P) .nil .nil
def k160 (P : Params) : BT := .node (boot_o_8 P) (k52 P) (k159 P)
def k161 (P : Params) : BT := .node (boot_o_4 P) (k160 P) (k97 P)
def k162 (P : Params) : BT := .node (boot_o_2 P) (k161 P) (k145 P)
def k163 (P : Params) : BT := .node (boot_o_0 P) (k158 P) (k162 P)
def S2 (w : World) (os : OsState) : SharedT := ⟨(k163 w.params), 26, lif, #[], drw, 249, os⟩
def pos3 : Pos := (PySem.Pos.mk 3 0 4 30)
def o3v164 (P : Params) : Obj := (PySem.Obj.mk (PySem.Value.type "dict") none (PySem.Data.dict #[(PySem.DictEntry.mk (PySem.PyData.keyHash P (PySem.Str.ofString "__name__")) (PySem.Value.str (PySem.Str.ofString "__name__") 165) (PySem.Value.str (PySem.Str.ofString "cpy313.stringprep") 187)), (PySem.DictEntry.mk (PySem.PyData.keyHash P (PySem.Str.ofString "__doc__")) (PySem.Value.str (PySem.Str.ofString "__doc__") 166) PySem.Value.none), (PySem.DictEntry.mk (PySem.PyData.keyHash P (PySem.Str.ofString "__package__")) (PySem.Value.str (PySem.Str.ofString "__package__") 167) PySem.Value.none), (PySem.DictEntry.mk (PySem.PyData.keyHash P (PySem.Str.ofString "__loader__")) (PySem.Value.str (PySem.Str.ofString "__loader__") 168) (PySem.Value.builtin "__main__.__loader__#opaque")), (PySem.DictEntry.mk (PySem.PyData.keyHash P (PySem.Str.ofString "__spec__")) (PySem.Value.str (PySem.Str.ofString "__spec__") 169) PySem.Value.none), (PySem.DictEntry.mk (PySem.PyData.keyHash P (PySem.Str.ofString "__annotations__")) (PySem.Value.str (PySem.Str.ofString "__annotations__") 170) (PySem.Value.ref 6)), (PySem.DictEntry.mk (PySem.PyData.keyHash P (PySem.Str.ofString "__builtins__")) (PySem.Value.str (PySem.Str.ofString "__builtins__") 171) (PySem.Value.ref 4)), (PySem.DictEntry.mk (PySem.PyData.keyHash P (PySem.Str.ofString "__file__")) (PySem.Value.str (PySem.Str.ofString "__file__") 173) (PySem.Value.str (PySem.Str.ofString "/claim/cut.py") 172)), (PySem.DictEntry.mk (PySem.PyData.keyHash P (PySem.Str.ofString "__cached__")) (PySem.Value.str (PySem.Str.ofString "__cached__") 174) PySem.Value.none), (PySem.DictEntry.mk (PySem.PyData.keyHash P (PySem.Str.ofString "b1_set")) (PySem.Value.str (PySem.Str.ofString "b1_set") 248) (PySem.Value.ref 22)), (PySem.DictEntry.mk (PySem.PyData.keyHash P (PySem.Str.ofString "in_table_b1")) (PySem.Value.str (PySem.Str.ofString "in_table_b1") 255) (PySem.Value.ref 32))] 11) #[])
def o12v165 (P : Params) : Obj := (PySem.Obj.mk PySem.Value.none none (PySem.Data.fields #[(vi 3 0), (vi 0 0), (PySem.Value.ref 31)]) #[])
@[reducible] def o26v166 (P : Params) : Obj := (PySem.Obj.mk (PySem.Value.type "tuple") none (PySem.Data.seq #[] 0) #[])
def o27v167 (P : Params) : Obj := (PySem.Obj.mk PySem.Value.none none (PySem.Data.fields #[]) #[])
@[reducible] def o28v168 (P : Params) : Obj := (PySem.Obj.mk (PySem.Value.type "tuple") none (PySem.Data.seq #[(PySem.Value.str (PySem.Str.ofString "code") 252)] 0) #[])
@[reducible] def o29v169 (P : Params) : Obj := (PySem.Obj.mk (PySem.Value.type "tuple") none (PySem.Data.seq #[] 0) #[])
def o30v170 (P : Params) : Obj := ⟨PySem.Value.none, none, .func (mkF 2 rfl 0 0 (PySem.Str.ofString "in_table_b1") (PySem.Str.ofString "in_table_b1") PySem.Value.none PySem.Value.none PySem.Value.none PySem.Value.none none PySem.Value.none PySem.Value.none), #[]⟩
@[reducible] def o31v171 (P : Params) : Obj := (PySem.Obj.mk (PySem.Value.type "code") none (PySem.Data.fields #[(PySem.Value.str (PySem.Str.ofString "in_table_b1") 249), (PySem.Value.str (PySem.Str.ofString "in_table_b1") 250), (PySem.Value.str (PySem.Str.ofString "/claim/cut.py") 251), (vi 3 0), (vi 1 0), (vi 0 0), (vi 0 0), (vi 3 0), (PySem.Value.ref 26), (PySem.Value.bool Bool.true), (vi 181 0), (PySem.Value.ref 27), PySem.Value.none, (PySem.Value.ref 28), (PySem.Value.ref 29), (PySem.Value.ref 30), (vi 253 0), (vi 3 0), (PySem.Value.str (PySem.Str.ofString "/claim/cut.py") 254)]) #[])
@[reducible] def o32v172 (P : Params) : Obj := ⟨(PySem.Value.type "function"), none, .func (mkF 2 rfl 3 0 (PySem.Str.ofString "in_table_b1") (PySem.Str.ofString "in_table_b1") PySem.Value.none PySem.Value.none PySem.Value.none (PySem.Value.str (PySem.Str.ofString "cpy313.stringprep") 187) none (PySem.Value.ref 31) PySem.Value.none), #[]⟩
def k173 (P : Params) : BT := .node (o31v171 P) .nil .nil
def k174 (P : Params) : BT := .node (o15v41 P) (k173 P) .nil
def k175 (P : Params) : BT := .node (boot_o_7 P) (k174 P) (k152 P)
def k176 (P : Params) : BT := .node (o27v167 P) .nil .nil
def k177 (P : Params) : BT := .node (o11v22 P) (k89 P) (k176 P)
def k178 (P : Params) : BT := .node (o3v164 P) (k175 P) (k177 P)
def k179 (P : Params) : BT := .node (o29v169 P) .nil .nil
def k180 (P : Params) : BT := .node (o13v24 P) (k92 P) (k179 P)
def k181 (P : Params) : BT := .node (boot_o_5 P) (k156 P) (k180 P)
def k182 (P : Params) : BT := .node (boot_o_1 P) (k178 P) (k181 P)
def k183 (P : Params) : BT := .node (o32v172 P) .nil .nil
def k184 (P : Params) : BT := .node (o16v42 P) (k183 P) .nil
def k185 (P : Params) : BT := .node (boot_o_8 P) (k184 P) (k159 P)
def k186 (P : Params) : BT := .node (o28v168 P) .nil .nil
def k187 (P : Params) : BT := .node (o12v165 P) (k96 P) (k186 P)
def k188 (P : Params) : BT := .node (boot_o_4 P) (k185 P) (k187 P)
def k189 (P : Params) : BT := .node (o26v166 P) .nil .nil
def k190 (P : Params) : BT := .node (boot_o_10 P) (k77 P) (k189 P)
def k191 (P : Params) : BT := .node (o30v170 P) .nil .nil
def k192 (P : Params) : BT := .node (o14v25 P) (k143 P) (k191 P)
def k193 (P : Params) : BT := .node (boot_o_6 P) (k190 P) (k192 P)
def k194 (P : Params) : BT := .node (boot_o_2 P) (k188 P) (k193 P)
def k195 (P : Params) : BT := .node (boot_o_0 P) (k182 P) (k194 P)
def S3 (w : World) (os : OsState) : SharedT := ⟨(k195 w.params), 33, lif, #[], drw, 256, os⟩
def o33v196 (P : Params) : Obj := (PySem.Obj.mk (PySem.Value.type "list") none (PySem.Data.seq #[(vi 832 256), (vi 833 257), (vi 8206 258), (vi 8207 259)] 0) #[])
def o34v197 (P : Params) : Obj := (PySem.Obj.mk (PySem.Value.type "range") none (PySem.Data.fields #[(vi 8234 260), (vi 8239 261), (vi 1 262)]) #[])
def o35v198 (P : Params) : Obj := (PySem.Obj.mk (PySem.Value.type "list") none (PySem.Data.seq #[(vi 8234 265)] 3) #[])
def o36v199 (P : Params) : Obj := (PySem.Obj.mk (PySem.Value.type "range_iterator") none (PySem.Data.fields #[(vi 8235 0), (vi 4 0), (vi 1 0)]) #[])
def k200 (P : Params) : BT := .node (o35v198 P) .nil .nil
def k201 (P : Params) : BT := .node (o19v82 P) (k200 P) .nil
def k202 (P : Params) : BT := .node (o11v22 P) (k201 P) (k176 P)
def k203 (P : Params) : BT := .node (o3v164 P) (k175 P) (k202 P)
def k204 (P : Params) : BT := .node (o33v196 P) .nil .nil
def k205 (P : Params) : BT := .node (o17v71 P) (k204 P) .nil
def k206 (P : Params) : BT := .node (boot_o_9 P) (k205 P) (k155 P)
def k207 (P : Params) : BT := .node (boot_o_5 P) (k206 P) (k180 P)
def k208 (P : Params) : BT := .node (boot_o_1 P) (k203 P) (k207 P)
def k209 (P : Params) : BT := .node (o36v199 P) .nil .nil
def k210 (P : Params) : BT := .node (o20v83 P) (k209 P) .nil
def k211 (P : Params) : BT := .node (o12v165 P) (k210 P) (k186 P)
def k212 (P : Params) : BT := .node (boot_o_4 P) (k185 P) (k211 P)
def k213 (P : Params) : BT := .node (o34v197 P) .nil .nil
def k214 (P : Params) : BT := .node (o18v72 P) (k213 P) .nil
def k215 (P : Params) : BT := .node (boot_o_10 P) (k214 P) (k189 P)
def k216 (P : Params) : BT := .node (boot_o_6 P) (k215 P) (k192 P)
def k217 (P : Params) : BT := .node (boot_o_2 P) (k212 P) (k216 P)
def k218 (P : Params) : BT := .node (boot_o_0 P) (k208 P) (k217 P)
def S3L0c0 (w : World) (os : OsState) : SharedT := ⟨(k218 w.params), 37, lif, #[], drw, 266, os⟩
def o35v219 (P : Params) : Obj := (PySem.Obj.mk (PySem.Value.type "list") none (PySem.Data.seq #[(vi 8234 265), (vi 8235 266), (vi 8236 267), (vi 8237 268), (vi 8238 269)] 7) #[])
def o36v220 (P : Params) : Obj := (PySem.Obj.mk (PySem.Value.type "range_iterator") none (PySem.Data.fields #[(vi 8239 0), (vi 0 0), (vi 1 0)]) #[])
def k221 (P : Params) : BT := .node (o35v219 P) .nil .nil
def k222 (P : Params) : BT := .node (o19v82 P) (k221 P) .nil
def k223 (P : Params) : BT := .node (o11v22 P) (k222 P) (k176 P)
def k224 (P : Params) : BT := .node (o3v164 P) (k175 P) (k223 P)
def k225 (P : Params) : BT := .node (boot_o_1 P) (k224 P) (k207 P)
def k226 (P : Params) : BT := .node (o36v220 P) .nil .nil
def k227 (P : Params) : BT := .node (o20v83 P) (k226 P) .nil
def k228 (P : Params) : BT := .node (o12v165 P) (k227 P) (k186 P)
def k229 (P : Params) : BT := .node (boot_o_4 P) (k185 P) (k228 P)
def k230 (P : Params) : BT := .node (boot_o_2 P) (k229 P) (k216 P)
def k231 (P : Params) : BT := .node (boot_o_0 P) (k225 P) (k230 P)
def S3L0c1 (w : World) (os : OsState) : SharedT := ⟨(k231 w.params), 37, lif, #[], drw, 270, os⟩
def o37v232 (P : Params) : Obj := (PySem.Obj.mk (PySem.Value.type "tuple") none (PySem.Data.seq #[] 0) #[])
def o38v233 (P : Params) : Obj := (PySem.Obj.mk (PySem.Value.type "StopIteration") none (PySem.Data.fields #[(PySem.Value.ref 37), PySem.Value.none, PySem.Value.none, PySem.Value.none, (PySem.Value.bool Bool.false), PySem.Value.none]) #[])
def o39v234 (P : Params) : Obj := (PySem.Obj.mk (PySem.Value.type "list") none (PySem.Data.seq #[(vi 832 256), (vi 833 257), (vi 8206 258), (vi 8207 259), (vi 8234 265), (vi 8235 266), (vi 8236 267), (vi 8237 268), (vi 8238 269)] 0) #[])
def o40v235 (P : Params) : Obj := (PySem.Obj.mk (PySem.Value.type "range") none (PySem.Data.fields #[(vi 8298 270), (vi 8304 271), (vi 1 272)]) #[])
def o41v236 (P : Params) : Obj := (PySem.Obj.mk (PySem.Value.type "list") none (PySem.Data.seq #[(vi 8298 275)] 3) #[])
def o42v237 (P : Params) : Obj := (PySem.Obj.mk (PySem.Value.type "range_iterator") none (PySem.Data.fields #[(vi 8299 0), (vi 5 0), (vi 1 0)]) #[])
def k238 (P : Params) : BT := .node (o39v234 P) .nil .nil
def k239 (P : Params) : BT := .node (o23v149 P) (k238 P) .nil
def k240 (P : Params) : BT := .node (boot_o_7 P) (k174 P) (k239 P)
def k241 (P : Params) : BT := .node (o3v164 P) (k240 P) (k223 P)
def k242 (P : Params) : BT := .node (o41v236 P) .nil .nil
def k243 (P : Params) : BT := .node (o25v151 P) (k242 P) .nil
def k244 (P : Params) : BT := .node (boot_o_9 P) (k205 P) (k243 P)
def k245 (P : Params) : BT := .node (o37v232 P) .nil .nil
def k246 (P : Params) : BT := .node (o21v84 P) (k245 P) .nil
def k247 (P : Params) : BT := .node (o13v24 P) (k246 P) (k179 P)
def k248 (P : Params) : BT := .node (boot_o_5 P) (k244 P) (k247 P)
def k249 (P : Params) : BT := .node (boot_o_1 P) (k241 P) (k248 P)
def k250 (P : Params) : BT := .node (o40v235 P) .nil .nil
def k251 (P : Params) : BT := .node (o24v150 P) (k250 P) .nil
def k252 (P : Params) : BT := .node (boot_o_8 P) (k184 P) (k251 P)
def k253 (P : Params) : BT := .node (boot_o_4 P) (k252 P) (k228 P)
def k254 (P : Params) : BT := .node (o42v237 P) .nil .nil
def k255 (P : Params) : BT := .node (o26v166 P) (k254 P) .nil
def k256 (P : Params) : BT := .node (boot_o_10 P) (k214 P) (k255 P)
def k257 (P : Params) : BT := .node (o38v233 P) .nil .nil
def k258 (P : Params) : BT := .node (o22v137 P) (k257 P) .nil
def k259 (P : Params) : BT := .node (o14v25 P) (k258 P) (k191 P)
def k260 (P : Params) : BT := .node (boot_o_6 P) (k256 P) (k259 P)
def k261 (P : Params) : BT := .node (boot_o_2 P) (k253 P) (k260 P)
def k262 (P : Params) : BT := .node (boot_o_0 P) (k249 P) (k261 P)
def S3L1c0 (w : World) (os : OsState) : SharedT := ⟨(k262 w.params), 43, lif, #[], drw, 276, os⟩
def o41v263 (P : Params) : Obj := (PySem.Obj.mk (PySem.Value.type "list") none (PySem.Data.seq #[(vi 8298 275), (vi 8299 276), (vi 8300 277), (vi 8301 278), (vi 8302 279), (vi 8303 280)] 8) #[])
def o42v264 (P : Params) : Obj := (PySem.Obj.mk (PySem.Value.type "range_iterator") none (PySem.Data.fields #[(vi 8304 0), (vi 0 0), (vi 1 0)]) #[])
def k265 (P : Params) : BT := .node (o41v263 P) .nil .nil
def k266 (P : Params) : BT := .node (o25v151 P) (k265 P) .nil
def k267 (P : Params) : BT := .node (boot_o_9 P) (k205 P) (k266 P)
def k268 (P : Params) : BT := .node (boot_o_5 P) (k267 P) (k247 P)
def k269 (P : Params) : BT := .node (boot_o_1 P) (k241 P) (k268 P)
def k270 (P : Params) : BT := .node (o42v264 P) .nil .nil
def k271 (P : Params) : BT := .node (o26v166 P) (k270 P) .nil
def k272 (P : Params) : BT := .node (boot_o_10 P) (k214 P) (k271 P)
def k273 (P : Params) : BT := .node (boot_o_6 P) (k272 P) (k259 P)
def k274 (P : Params) : BT := .node (boot_o_2 P) (k253 P) (k273 P)
def k275 (P : Params) : BT := .node (boot_o_0 P) (k269 P) (k274 P)
def S3L1c1 (w : World) (os : OsState) : SharedT := ⟨(k275 w.params), 43, lif, #[], drw, 281, os⟩
def o43v276 (P : Params) : Obj := (PySem.Obj.mk (PySem.Value.type "tuple") none (PySem.Data.seq #[] 0) #[])
def o44v277 (P : Params) : Obj := (PySem.Obj.mk (PySem.Value.type "StopIteration") none (PySem.Data.fields #[(PySem.Value.ref 43), PySem.Value.none, PySem.Value.none, PySem.Value.none, (PySem.Value.bool Bool.false), PySem.Value.none]) #[])
def o45v278 (P : Params) : Obj := (PySem.Obj.mk (PySem.Value.type "list") none (PySem.Data.seq #[(vi 832 256), (vi 833 257), (vi 8206 258), (vi 8207 259), (vi 8234 265), (vi 8235 266), (vi 8236 267), (vi 8237 268), (vi 8238 269), (vi 8298 275), (vi 8299 276), (vi 8300 277), (vi 8301 278), (vi 8302 279), (vi 8303 280)] 0) #[])
def o46v279 (P : Params) : Obj := ⟨(PySem.Value.type "set"), none, .set #[(ei 832 256)] 1 ⟨7, #[0], #[], 0, (!P.followText "set-order"), 0, true⟩, #[]⟩
def o47v280 (P : Params) : Obj := (PySem.Obj.mk (PySem.Value.type "list_iterator") none (PySem.Data.fields #[(PySem.Value.ref 45), (vi 1 0)]) #[])
def k281 (P : Params) : BT := .node (o47v280 P) .nil .nil
def k282 (P : Params) : BT := .node (o15v41 P) (k173 P) (k281 P)
def k283 (P : Params) : BT := .node (boot_o_7 P) (k282 P) (k239 P)
def k284 (P : Params) : BT := .node (o43v276 P) .nil .nil
def k285 (P : Params) : BT := .node (o27v167 P) (k284 P) .nil
def k286 (P : Params) : BT := .node (o11v22 P) (k222 P) (k285 P)
def k287 (P : Params) : BT := .node (o3v164 P) (k283 P) (k286 P)
def k288 (P : Params) : BT := .node (o45v278 P) .nil .nil
def k289 (P : Params) : BT := .node (o29v169 P) (k288 P) .nil
def k290 (P : Params) : BT := .node (o13v24 P) (k246 P) (k289 P)
def k291 (P : Params) : BT := .node (boot_o_5 P) (k267 P) (k290 P)
def k292 (P : Params) : BT := .node (boot_o_1 P) (k287 P) (k291 P)
def k293 (P : Params) : BT := .node (o44v277 P) .nil .nil
def k294 (P : Params) : BT := .node (o28v168 P) (k293 P) .nil
def k295 (P : Params) : BT := .node (o12v165 P) (k227 P) (k294 P)
def k296 (P : Params) : BT := .node (boot_o_4 P) (k252 P) (k295 P)
def k297 (P : Params) : BT := .node (o46v279 P) .nil .nil
def k298 (P : Params) : BT := .node (o30v170 P) (k297 P) .nil
def k299 (P : Params) : BT := .node (o14v25 P) (k258 P) (k298 P)
def k300 (P : Params) : BT := .node (boot_o_6 P) (k272 P) (k299 P)
def k301 (P : Params) : BT := .node (boot_o_2 P) (k296 P) (k300 P)
def k302 (P : Params) : BT := .node (boot_o_0 P) (k292 P) (k301 P)
def S3Z0c0 (w : World) (os : OsState) : SharedT := ⟨(k302 w.params), 48, lif, #[], drw, 282, os⟩
def o46v303 (P : Params) : Obj := ⟨(PySem.Value.type "set"), none, .set #[(ei 832 256), (ei 833 257), (ei 8234 265), (ei 8235 266), (ei 8236 267), (ei 8237 268), (ei 8206 258), (ei 8207 259), (ei 8238 269)] 10 ⟨31, #[0, 1, 10, 11, 12, 13, 14, 15, 16], #[], 0, (!P.followText "set-order"), 1, true⟩, #[]⟩
def o47v304 (P : Params) : Obj := (PySem.Obj.mk (PySem.Value.type "list_iterator") none (PySem.Data.fields #[(PySem.Value.ref 45), (vi 9 0)]) #[])
def k305 (P : Params) : BT := .node (o47v304 P) .nil .nil
def k306 (P : Params) : BT := .node (o15v41 P) (k173 P) (k305 P)
def k307 (P : Params) : BT := .node (boot_o_7 P) (k306 P) (k239 P)
def k308 (P : Params) : BT := .node (o3v164 P) (k307 P) (k286 P)
def k309 (P : Params) : BT := .node (boot_o_1 P) (k308 P) (k291 P)
def k310 (P : Params) : BT := .node (o46v303 P) .nil .nil
def k311 (P : Params) : BT := .node (o30v170 P) (k310 P) .nil
def k312 (P : Params) : BT := .node (o14v25 P) (k258 P) (k311 P)
def k313 (P : Params) : BT := .node (boot_o_6 P) (k272 P) (k312 P)
def k314 (P : Params) : BT := .node (boot_o_2 P) (k296 P) (k313 P)
def k315 (P : Params) : BT := .node (boot_o_0 P) (k309 P) (k314 P)
def S3Z0c1 (w : World) (os : OsState) : SharedT := ⟨(k315 w.params), 48, lif, #[], drw, 290, os⟩
@[reducible] def o46v316 (P : Params) : Obj := ⟨(PySem.Value.type "set"), none, .set #[(ei 832 256), (ei 833 257), (ei 8234 265), (ei 8235 266), (ei 8236 267), (ei 8237 268), (ei 8206 258), (ei 8207 259), (ei 8238 269), (ei 8298 275), (ei 8299 276), (ei 8300 277), (ei 8301 278), (ei 8302 279), (ei 8303 280)] 16 ⟨31, #[0, 1, 10, 11, 12, 13, 14, 15, 16, 17, 18, 19, 20, 21, 22], #[], 0, (!P.followText "set-order"), 1, true⟩, #[]⟩
def o47v317 (P : Params) : Obj := (PySem.Obj.mk (PySem.Value.type "list_iterator") none (PySem.Data.fields #[(PySem.Value.ref 45), (vi 15 0)]) #[])
def k318 (P : Params) : BT := .node (o47v317 P) .nil .nil
def k319 (P : Params) : BT := .node (o15v41 P) (k173 P) (k318 P)
def k320 (P : Params) : BT := .node (boot_o_7 P) (k319 P) (k239 P)
def k321 (P : Params) : BT := .node (o3v164 P) (k320 P) (k286 P)
def k322 (P : Params) : BT := .node (boot_o_1 P) (k321 P) (k291 P)
def k323 (P : Params) : BT := .node (o46v316 P) .nil .nil
def k324 (P : Params) : BT := .node (o30v170 P) (k323 P) .nil
def k325 (P : Params) : BT := .node (o14v25 P) (k258 P) (k324 P)
def k326 (P : Params) : BT := .node (boot_o_6 P) (k272 P) (k325 P)
def k327 (P : Params) : BT := .node (boot_o_2 P) (k296 P) (k326 P)
def k328 (P : Params) : BT := .node (boot_o_0 P) (k322 P) (k327 P)
def S3Z0c2 (w : World) (os : OsState) : SharedT := ⟨(k328 w.params), 48, lif, #[], drw, 296, os⟩
def pos4 : Pos := (PySem.Pos.mk 5 0 5 6)
def o3v329 (P : Params) : Obj := (PySem.Obj.mk (PySem.Value.type "dict") none (PySem.Data.dict #[(PySem.DictEntry.mk (PySem.PyData.keyHash P (PySem.Str.ofString "__name__")) (PySem.Value.str (PySem.Str.ofString "__name__") 165) (PySem.Value.str (PySem.Str.ofString "cpy313.stringprep") 187)), (PySem.DictEntry.mk (PySem.PyData.keyHash P (PySem.Str.ofString "__doc__")) (PySem.Value.str (PySem.Str.ofString "__doc__") 166) PySem.Value.none), (PySem.DictEntry.mk (PySem.PyData.keyHash P (PySem.Str.ofString "__package__")) (PySem.Value.str (PySem.Str.ofString "__package__") 167) PySem.Value.none), (PySem.DictEntry.mk (PySem.PyData.keyHash P (PySem.Str.ofString "__loader__")) (PySem.Value.str (PySem.Str.ofString "__loader__") 168) (PySem.Value.builtin "__main__.__loader__#opaque")), (PySem.DictEntry.mk (PySem.PyData.keyHash P (PySem.Str.ofString "__spec__")) (PySem.Value.str (PySem.Str.ofString "__spec__") 169) PySem.Value.none), (PySem.DictEntry.mk (PySem.PyData.keyHash P (PySem.Str.ofString "__annotations__")) (PySem.Value.str (PySem.Str.ofString "__annotations__") 170) (PySem.Value.ref 6)), (PySem.DictEntry.mk (PySem.PyData.keyHash P (PySem.Str.ofString "__builtins__")) (PySem.Value.str (PySem.Str.ofString "__builtins__") 171) (PySem.Value.ref 4)), (PySem.DictEntry.mk (PySem.PyData.keyHash P (PySem.Str.ofString "__file__")) (PySem.Value.str (PySem.Str.ofString "__file__") 173) (PySem.Value.str (PySem.Str.ofString "/claim/cut.py") 172)), (PySem.DictEntry.mk (PySem.PyData.keyHash P (PySem.Str.ofString "__cached__")) (PySem.Value.str (PySem.Str.ofString "__cached__") 174) PySem.Value.none), (PySem.DictEntry.mk (PySem.PyData.keyHash P (PySem.Str.ofString "b1_set")) (PySem.Value.str (PySem.Str.ofString "b1_set") 248) (PySem.Value.ref 22)), (PySem.DictEntry.mk (PySem.PyData.keyHash P (PySem.Str.ofString "in_table_b1")) (PySem.Value.str (PySem.Str.ofString "in_table_b1") 255) (PySem.Value.ref 32)), (PySem.DictEntry.mk (PySem.PyData.keyHash P (PySem.Str.ofString "c8_set")) (PySem.Value.str (PySem.Str.ofString "c8_set") 296) (PySem.Value.ref 46))] 12) #[])
def o47v330 (P : Params) : Obj := (PySem.Obj.mk (PySem.Value.type "list_iterator") none (PySem.Data.fields #[PySem.Value.none, (vi 15 0)]) #[])
def o48v331 (P : Params) : Obj := (PySem.Obj.mk (PySem.Value.type "tuple") none (PySem.Data.seq #[] 0) #[])
def o49v332 (P : Params) : Obj := (PySem.Obj.mk (PySem.Value.type "StopIteration") none (PySem.Data.fields #[(PySem.Value.ref 48), PySem.Value.none, PySem.Value.none, PySem.Value.none, (PySem.Value.bool Bool.false), PySem.Value.none]) #[])
def k333 (P : Params) : BT := .node (o47v330 P) .nil .nil
def k334 (P : Params) : BT := .node (o15v41 P) (k173 P) (k333 P)
def k335 (P : Params) : BT := .node (boot_o_7 P) (k334 P) (k239 P)
def k336 (P : Params) : BT := .node (o3v329 P) (k335 P) (k286 P)
def k337 (P : Params) : BT := .node (o49v332 P) .nil .nil
def k338 (P : Params) : BT := .node (o17v71 P) (k204 P) (k337 P)
def k339 (P : Params) : BT := .node (boot_o_9 P) (k338 P) (k266 P)
def k340 (P : Params) : BT := .node (boot_o_5 P) (k339 P) (k290 P)
def k341 (P : Params) : BT := .node (boot_o_1 P) (k336 P) (k340 P)
def k342 (P : Params) : BT := .node (o48v331 P) .nil .nil
def k343 (P : Params) : BT := .node (o16v42 P) (k183 P) (k342 P)
def k344 (P : Params) : BT := .node (boot_o_8 P) (k343 P) (k251 P)
def k345 (P : Params) : BT := .node (boot_o_4 P) (k344 P) (k295 P)
def k346 (P : Params) : BT := .node (boot_o_2 P) (k345 P) (k326 P)
def k347 (P : Params) : BT := .node (boot_o_0 P) (k341 P) (k346 P)
def S4 (w : World) (os : OsState) : SharedT := ⟨(k347 w.params), 50, lif, #[], drw, 297, os⟩
def pos5 : Pos := (PySem.Pos.mk 6 0 7 30)
def o3v348 (P : Params) : Obj := (PySem.Obj.mk (PySem.Value.type "dict") none (PySem.Data.dict #[(PySem.DictEntry.mk (PySem.PyData.keyHash P (PySem.Str.ofString "__name__")) (PySem.Value.str (PySem.Str.ofString "__name__") 165) (PySem.Value.str (PySem.Str.ofString "cpy313.stringprep") 187)), (PySem.DictEntry.mk (PySem.PyData.keyHash P (PySem.Str.ofString "__doc__")) (PySem.Value.str (PySem.Str.ofString "__doc__") 166) PySem.Value.none), (PySem.DictEntry.mk (PySem.PyData.keyHash P (PySem.Str.ofString "__package__")) (PySem.Value.str (PySem.Str.ofString "__package__") 167) PySem.Value.none), (PySem.DictEntry.mk (PySem.PyData.keyHash P (PySem.Str.ofString "__loader__")) (PySem.Value.str (PySem.Str.ofString "__loader__") 168) (PySem.Value.builtin "__main__.__loader__#opaque")), (PySem.DictEntry.mk (PySem.PyData.keyHash P (PySem.Str.ofString "__spec__")) (PySem.Value.str (PySem.Str.ofString "__spec__") 169) PySem.Value.none), (PySem.DictEntry.mk (PySem.PyData.keyHash P (PySem.Str.ofString "__annotations__")) (PySem.Value.str (PySem.Str.ofString "__annotations__") 170) (PySem.Value.ref 6)), (PySem.DictEntry.mk (PySem.PyData.keyHash P (PySem.Str.ofString "__builtins__")) (PySem.Value.str (PySem.Str.ofString "__builtins__") 171) (PySem.Value.ref 4)), (PySem.DictEntry.mk (PySem.PyData.keyHash P (PySem.Str.ofString "__file__")) (PySem.Value.str (PySem.Str.ofString "__file__") 173) (PySem.Value.str (PySem.Str.ofString "/claim/cut.py") 172)), (PySem.DictEntry.mk (PySem.PyData.keyHash P (PySem.Str.ofString "__cached__")) (PySem.Value.str (PySem.Str.ofString "__cached__") 174) PySem.Value.none), (PySem.DictEntry.mk (PySem.PyData.keyHash P (PySem.Str.ofString "b1_set")) (PySem.Value.str (PySem.Str.ofString "b1_set") 248) (PySem.Value.ref 22)), (PySem.DictEntry.mk (PySem.PyData.keyHash P (PySem.Str.ofString "in_table_b1")) (PySem.Value.str (PySem.Str.ofString "in_table_b1") 255) (PySem.Value.ref 32)), (PySem.DictEntry.mk (PySem.PyData.keyHash P (PySem.Str.ofString "c8_set")) (PySem.Value.str (PySem.Str.ofString "c8_set") 296) (PySem.Value.ref 46)), (PySem.DictEntry.mk (PySem.PyData.keyHash P (PySem.Str.ofString "in_table_c8")) (PySem.Value.str (PySem.Str.ofString "in_table_c8") 303) (PySem.Value.ref 56))] 13) #[])
def o12v349 (P : Params) : Obj := (PySem.Obj.mk PySem.Value.none none (PySem.Data.fields #[(vi 3 0), (vi 0 0), (PySem.Value.ref 31), (vi 6 0), (vi 0 0), (PySem.Value.ref 55)]) #[])
@[reducible] def o50v350 (P : Params) : Obj := (PySem.Obj.mk (PySem.Value.type "tuple") none (PySem.Data.seq #[] 0) #[])
def o51v351 (P : Params) : Obj := (PySem.Obj.mk PySem.Value.none none (PySem.Data.fields #[]) #[])
@[reducible] def o52v352 (P : Params) : Obj := (PySem.Obj.mk (PySem.Value.type "tuple") none (PySem.Data.seq #[(PySem.Value.str (PySem.Str.ofString "code") 300)] 0) #[])
@[reducible] def o53v353 (P : Params) : Obj := (PySem.Obj.mk (PySem.Value.type "tuple") none (PySem.Data.seq #[] 0) #[])
def o54v354 (P : Params) : Obj := ⟨PySem.Value.none, none, .func (mkF 4 rfl 0 0 (PySem.Str.ofString "in_table_c8") (PySem.Str.ofString "in_table_c8") PySem.Value.none PySem.Value.none PySem.Value.none PySem.Value.none none PySem.Value.none PySem.Value.none), #[]⟩
@[reducible] def o55v355 (P : Params) : Obj := (PySem.Obj.mk (PySem.Value.type "code") none (PySem.Data.fields #[(PySem.Value.str (PySem.Str.ofString "in_table_c8") 297), (PySem.Value.str (PySem.Str.ofString "in_table_c8") 298), (PySem.Value.str (PySem.Str.ofString "/claim/cut.py") 299), (vi 6 0), (vi 1 0), (vi 0 0), (vi 0 0), (vi 3 0), (PySem.Value.ref 50), (PySem.Value.bool Bool.true), (vi 181 0), (PySem.Value.ref 51), PySem.Value.none, (PySem.Value.ref 52), (PySem.Value.ref 53), (PySem.Value.ref 54), (vi 301 0), (vi 6 0), (PySem.Value.str (PySem.Str.ofString "/claim/cut.py") 302)]) #[])
@[reducible] def o56v356 (P : Params) : Obj := ⟨(PySem.Value.type "function"), none, .func (mkF 4 rfl 3 0 (PySem.Str.ofString "in_table_c8") (PySem.Str.ofString "in_table_c8") PySem.Value.none PySem.Value.none PySem.Value.none (PySem.Value.str (PySem.Str.ofString "cpy313.stringprep") 187) none (PySem.Value.ref 55) PySem.Value.none), #[]⟩
def k357 (P : Params) : BT := .node (o55v355 P) .nil .nil
def k358 (P : Params) : BT := .node (o23v149 P) (k238 P) (k357 P)
def k359 (P : Params) : BT := .node (boot_o_7 P) (k334 P) (k358 P)
def k360 (P : Params) : BT := .node (o51v351 P) .nil .nil
def k361 (P : Params) : BT := .node (o19v82 P) (k221 P) (k360 P)
def k362 (P : Params) : BT := .node (o11v22 P) (k361 P) (k285 P)
def k363 (P : Params) : BT := .node (o3v348 P) (k359 P) (k362 P)
def k364 (P : Params) : BT := .node (o53v353 P) .nil .nil
def k365 (P : Params) : BT := .node (o21v84 P) (k245 P) (k364 P)
def k366 (P : Params) : BT := .node (o13v24 P) (k365 P) (k289 P)
def k367 (P : Params) : BT := .node (boot_o_5 P) (k339 P) (k366 P)
def k368 (P : Params) : BT := .node (boot_o_1 P) (k363 P) (k367 P)
def k369 (P : Params) : BT := .node (o56v356 P) .nil .nil
def k370 (P : Params) : BT := .node (o24v150 P) (k250 P) (k369 P)
def k371 (P : Params) : BT := .node (boot_o_8 P) (k343 P) (k370 P)
def k372 (P : Params) : BT := .node (o52v352 P) .nil .nil
def k373 (P : Params) : BT := .node (o20v83 P) (k226 P) (k372 P)
def k374 (P : Params) : BT := .node (o12v349 P) (k373 P) (k294 P)
def k375 (P : Params) : BT := .node (boot_o_4 P) (k371 P) (k374 P)
def k376 (P : Params) : BT := .node (o50v350 P) .nil .nil
def k377 (P : Params) : BT := .node (o18v72 P) (k213 P) (k376 P)
def k378 (P : Params) : BT := .node (boot_o_10 P) (k377 P) (k271 P)
def k379 (P : Params) : BT := .node (o54v354 P) .nil .nil
def k380 (P : Params) : BT := .node (o22v137 P) (k257 P) (k379 P)
def k381 (P : Params) : BT := .node (o14v25 P) (k380 P) (k324 P)
def k382 (P : Params) : BT := .node (boot_o_6 P) (k378 P) (k381 P)
def k383 (P : Params) : BT := .node (boot_o_2 P) (k375 P) (k382 P)
def k384 (P : Params) : BT := .node (boot_o_0 P) (k368 P) (k383 P)
def S5 (w : World) (os : OsState) : SharedT := ⟨(k384 w.params), 57, lif, #[], drw, 304, os⟩
def o57v385 (P : Params) : Obj := (PySem.Obj.mk (PySem.Value.type "list") none (PySem.Data.seq #[(vi 917505 304)] 0) #[])
def o58v386 (P : Params) : Obj := (PySem.Obj.mk (PySem.Value.type "range") none (PySem.Data.fields #[(vi 917536 305), (vi 917632 306), (vi 1 307)]) #[])
def o59v387 (P : Params) : Obj := (PySem.Obj.mk (PySem.Value.type "list") none (PySem.Data.seq #[(vi 917536 310)] 3) #[])
def o60v388 (P : Params) : Obj := (PySem.Obj.mk (PySem.Value.type "range_iterator") none (PySem.Data.fields #[(vi 917537 0), (vi 95 0), (vi 1 0)]) #[])
def k389 (P : Params) : BT := .node (o59v387 P) .nil .nil
def k390 (P : Params) : BT := .node (o27v167 P) (k284 P) (k389 P)
def k391 (P : Params) : BT := .node (o11v22 P) (k361 P) (k390 P)
def k392 (P : Params) : BT := .node (o3v348 P) (k359 P) (k391 P)
def k393 (P : Params) : BT := .node (o57v385 P) .nil .nil
def k394 (P : Params) : BT := .node (o25v151 P) (k265 P) (k393 P)
def k395 (P : Params) : BT := .node (boot_o_9 P) (k338 P) (k394 P)
def k396 (P : Params) : BT := .node (boot_o_5 P) (k395 P) (k366 P)
def k397 (P : Params) : BT := .node (boot_o_1 P) (k392 P) (k396 P)
def k398 (P : Params) : BT := .node (o60v388 P) .nil .nil
def k399 (P : Params) : BT := .node (o28v168 P) (k293 P) (k398 P)
def k400 (P : Params) : BT := .node (o12v349 P) (k373 P) (k399 P)
def k401 (P : Params) : BT := .node (boot_o_4 P) (k371 P) (k400 P)
def k402 (P : Params) : BT := .node (o58v386 P) .nil .nil
def k403 (P : Params) : BT := .node (o26v166 P) (k270 P) (k402 P)
def k404 (P : Params) : BT := .node (boot_o_10 P) (k377 P) (k403 P)
def k405 (P : Params) : BT := .node (boot_o_6 P) (k404 P) (k381 P)
def k406 (P : Params) : BT := .node (boot_o_2 P) (k401 P) (k405 P)
def k407 (P : Params) : BT := .node (boot_o_0 P) (k397 P) (k406 P)
def S5L0c0 (w : World) (os : OsState) : SharedT := ⟨(k407 w.params), 61, lif, #[], drw, 311, os⟩
def o59v408 (P : Params) : Obj := (PySem.Obj.mk (PySem.Value.type "list") none (PySem.Data.seq #[(vi 917536 310), (vi 917537 311), (vi 917538 312), (vi 917539 313), (vi 917540 314), (vi 917541 315), (vi 917542 316), (vi 917543 317), (vi 917544 318)] 11) #[])
def o60v409 (P : Params) : Obj := (PySem.Obj.mk (PySem.Value.type "range_iterator") none (PySem.Data.fields #[(vi 917545 0), (vi 87 0), (vi 1 0)]) #[])
def k410 (P : Params) : BT := .node (o59v408 P) .nil .nil
def k411 (P : Params) : BT := .node (o27v167 P) (k284 P) (k410 P)
def k412 (P : Params) : BT := .node (o11v22 P) (k361 P) (k411 P)
def k413 (P : Params) : BT := .node (o3v348 P) (k359 P) (k412 P)
def k414 (P : Params) : BT := .node (boot_o_1 P) (k413 P) (k396 P)
def k415 (P : Params) : BT := .node (o60v409 P) .nil .nil
def k416 (P : Params) : BT := .node (o28v168 P) (k293 P) (k415 P)
def k417 (P : Params) : BT := .node (o12v349 P) (k373 P) (k416 P)
def k418 (P : Params) : BT := .node (boot_o_4 P) (k371 P) (k417 P)
def k419 (P : Params) : BT := .node (boot_o_2 P) (k418 P) (k405 P)
def k420 (P : Params) : BT := .node (boot_o_0 P) (k414 P) (k419 P)
def S5L0c1 (w : World) (os : OsState) : SharedT := ⟨(k420 w.params), 61, lif, #[], drw, 319, os⟩
def o59v421 (P : Params) : Obj := (PySem.Obj.mk (PySem.Value.type "list") none (PySem.Data.seq #[(vi 917536 310), (vi 917537 311), (vi 917538 312), (vi 917539 313), (vi 917540 314), (vi 917541 315), (vi 917542 316), (vi 917543 317), (vi 917544 318), (vi 917545 319), (vi 917546 320), (vi 917547 321), (vi 917548 322), (vi 917549 323), (vi 917550 324), (vi 917551 325), (vi 917552 326)] 19) #[])
def o60v422 (P : Params) : Obj := (PySem.Obj.mk (PySem.Value.type "range_iterator") none (PySem.Data.fields #[(vi 917553 0), (vi 79 0), (vi 1 0)]) #[])
def k423 (P : Params) : BT := .node (o59v421 P) .nil .nil
def k424 (P : Params) : BT := .node (o27v167 P) (k284 P) (k423 P)
def k425 (P : Params) : BT := .node (o11v22 P) (k361 P) (k424 P)
def k426 (P : Params) : BT := .node (o3v348 P) (k359 P) (k425 P)
def k427 (P : Params) : BT := .node (boot_o_1 P) (k426 P) (k396 P)
def k428 (P : Params) : BT := .node (o60v422 P) .nil .nil
def k429 (P : Params) : BT := .node (o28v168 P) (k293 P) (k428 P)
def k430 (P : Params) : BT := .node (o12v349 P) (k373 P) (k429 P)
def k431 (P : Params) : BT := .node (boot_o_4 P) (k371 P) (k430 P)
def k432 (P : Params) : BT := .node (boot_o_2 P) (k431 P) (k405 P)
def k433 (P : Params) : BT := .node (boot_o_0 P) (k427 P) (k432 P)
def S5L0c2 (w : World) (os : OsState) : SharedT := ⟨(k433 w.params), 61, lif, #[], drw, 327, os⟩
def o59v434 (P : Params) : Obj := (PySem.Obj.mk (PySem.Value.type "list") none (PySem.Data.seq #[(vi 917536 310), (vi 917537 311), (vi 917538 312), (vi 917539 313), (vi 917540 314), (vi 917541 315), (vi 917542 316), (vi 917543 317), (vi 917544 318), (vi 917545 319), (vi 917546 320), (vi 917547 321), (vi 917548 322), (vi 917549 323), (vi 917550 324), (vi 917551 325), (vi 917552 326), (vi 917553 327), (vi 917554 328), (vi 917555 329), (vi 917556 330), (vi 917557 331), (vi 917558 332), (vi 917559 333), (vi 917560 334)] 27) #[])
def o60v435 (P : Params) : Obj := (PySem.Obj.mk (PySem.Value.type "range_iterator") none (PySem.Data.fields #[(vi 917561 0), (vi 71 0), (vi 1 0)]) #[])
def k436 (P : Params) : BT := .node (o59v434 P) .nil .nil
def k437 (P : Params) : BT := .node (o27v167 P) (k284 P) (k436 P)
def k438 (P : Params) : BT := .node (o11v22 P) (k361 P) (k437 P)
def k439 (P : Params) : BT := .node (o3v348 P) (k359 P) (k438 P)
def k440 (P : Params) : BT := .node (boot_o_1 P) (k439 P) (k396 P)
def k441 (P : Params) : BT := .node (o60v435 P) .nil .nil
def k442 (P : Params) : BT := .node (o28v168 P) (k293 P) (k441 P)
def k443 (P : Params) : BT := .node (o12v349 P) (k373 P) (k442 P)
def k444 (P : Params) : BT := .node (boot_o_4 P) (k371 P) (k443 P)
def k445 (P : Params) : BT := .node (boot_o_2 P) (k444 P) (k405 P)
def k446 (P : Params) : BT := .node (boot_o_0 P) (k440 P) (k445 P)
def S5L0c3 (w : World) (os : OsState) : SharedT := ⟨(k446 w.params), 61, lif, #[], drw, 335, os⟩
def o59v447 (P : Params) : Obj := (PySem.Obj.mk (PySem.Value.type "list") none (PySem.Data.seq #[(vi 917536 310), (vi 917537 311), (vi 917538 312), (vi 917539 313), (vi 917540 314), (vi 917541 315), (vi 917542 316), (vi 917543 317), (vi 917544 318), (vi 917545 319), (vi 917546 320), (vi 917547 321), (vi 917548 322), (vi 917549 323), (vi 917550 324), (vi 917551 325), (vi 917552 326), (vi 917553 327), (vi 917554 328), (vi 917555 329), (vi 917556 330), (vi 917557 331), (vi 917558 332), (vi 917559 333), (vi 917560 334), (vi 917561 335), (vi 917562 336), (vi 917563 337), (vi 917564 338), (vi 917565 339), (vi 917566 340), (vi 917567 341), (vi 917568 342)] 35) #[])
def o60v448 (P : Params) : Obj := (PySem.Obj.mk (PySem.Value.type "range_iterator") none (PySem.Data.fields #[(vi 917569 0), (vi 63 0), (vi 1 0)]) #[])
def k449 (P : Params) : BT := .node (o59v447 P) .nil .nil
def k450 (P : Params) : BT := .node (o27v167 P) (k284 P) (k449 P)
def k451 (P : Params) : BT := .node (o11v22 P) (k361 P) (k450 P)
def k452 (P : Params) : BT := .node (o3v348 P) (k359 P) (k451 P)
def k453 (P : Params) : BT := .node (boot_o_1 P) (k452 P) (k396 P)
def k454 (P : Params) : BT := .node (o60v448 P) .nil .nil
def k455 (P : Params) : BT := .node (o28v168 P) (k293 P) (k454 P)
def k456 (P : Params) : BT := .node (o12v349 P) (k373 P) (k455 P)
def k457 (P : Params) : BT := .node (boot_o_4 P) (k371 P) (k456 P)
def k458 (P : Params) : BT := .node (boot_o_2 P) (k457 P) (k405 P)
def k459 (P : Params) : BT := .node (boot_o_0 P) (k453 P) (k458 P)
def S5L0c4 (w : World) (os : OsState) : SharedT := ⟨(k459 w.params), 61, lif, #[], drw, 343, os⟩
def o59v460 (P : Params) : Obj := (PySem.Obj.mk (PySem.Value.type "list") none (PySem.Data.seq #[(vi 917536 310), (vi 917537 311), (vi 917538 312), (vi 917539 313), (vi 917540 314), (vi 917541 315), (vi 917542 316), (vi 917543 317), (vi 917544 318), (vi 917545 319), (vi 917546 320), (vi 917547 321), (vi 917548 322), (vi 917549 323), (vi 917550 324), (vi 917551 325), (vi 917552 326), (vi 917553 327), (vi 917554 328), (vi 917555 329), (vi 917556 330), (vi 917557 331), (vi 917558 332), (vi 917559 333), (vi 917560 334), (vi 917561 335), (vi 917562 336), (vi 917563 337), (vi 917564 338), (vi 917565 339), (vi 917566 340), (vi 917567 341), (vi 917568 342), (vi 917569 343), (vi 917570 344), (vi 917571 345), (vi 917572 346), (vi 917573 347), (vi 917574 348), (vi 917575 349), (vi 917576 350)] 43) #[])
def o60v461 (P : Params) : Obj := (PySem.Obj.mk (PySem.Value.type "range_iterator") none (PySem.Data.fields #[(vi 917577 0), (vi 55 0), (vi 1 0)]) #[])
def k462 (P : Params) : BT := .node (o59v460 P) .nil .nil
def k463 (P : Params) : BT := .node (o27v167 P) (k284 P) (k462 P)
def k464 (P : Params) : BT := .node (o11v22 P) (k361 P) (k463 P)
def k465 (P : Params) : BT := .node (o3v348 P) (k359 P) (k464 P)
def k466 (P : Params) : BT := .node (boot_o_1 P) (k465 P) (k396 P)
def k467 (P : Params) : BT := .node (o60v461 P) .nil .nil
def k468 (P : Params) : BT := .node (o28v168 P) (k293 P) (k467 P)
def k469 (P : Params) : BT := .node (o12v349 P) (k373 P) (k468 P)
def k470 (P : Params) : BT := .node (boot_o_4 P) (k371 P) (k469 P)
def k471 (P : Params) : BT := .node (boot_o_2 P) (k470 P) (k405 P)
def k472 (P : Params) : BT := .node (boot_o_0 P) (k466 P) (k471 P)
def S5L0c5 (w : World) (os : OsState) : SharedT := ⟨(k472 w.params), 61, lif, #[], drw, 351, os⟩
def o59v473 (P : Params) : Obj := (PySem.Obj.mk (PySem.Value.type "list") none (PySem.Data.seq #[(vi 917536 310), (vi 917537 311), (vi 917538 312), (vi 917539 313), (vi 917540 314), (vi 917541 315), (vi 917542 316), (vi 917543 317), (vi 917544 318), (vi 917545 319), (vi 917546 320), (vi 917547 321), (vi 917548 322), (vi 917549 323), (vi 917550 324), (vi 917551 325), (vi 917552 326), (vi 917553 327), (vi 917554 328), (vi 917555 329), (vi 917556 330), (vi 917557 331), (vi 917558 332), (vi 917559 333), (vi 917560 334), (vi 917561 335), (vi 917562 336), (vi 917563 337), (vi 917564 338), (vi 917565 339), (vi 917566 340), (vi 917567 341), (vi 917568 342), (vi 917569 343), (vi 917570 344), (vi 917571 345), (vi 917572 346), (vi 917573 347), (vi 917574 348), (vi 917575 349), (vi 917576 350), (vi 917577 351), (vi 917578 352), (vi 917579 353), (vi 917580 354), (vi 917581 355), (vi 917582 356), (vi 917583 357), (vi 917584 358)] 51) #[])
def o60v474 (P : Params) : Obj := (PySem.Obj.mk (PySem.Value.type "range_iterator") none (PySem.Data.fields #[(vi 917585 0), (vi 47 0), (vi 1 0)]) #[])
def k475 (P : Params) : BT := .node (o59v473 P) .nil .nil
def k476 (P : Params) : BT := .node (o27v167 P) (k284 P) (k475 P)
def k477 (P : Params) : BT := .node (o11v22 P) (k361 P) (k476 P)
def k478 (P : Params) : BT := .node (o3v348 P) (k359 P) (k477 P)
def k479 (P : Params) : BT := .node (boot_o_1 P) (k478 P) (k396 P)
def k480 (P : Params) : BT := .node (o60v474 P) .nil .nil
def k481 (P : Params) : BT := .node (o28v168 P) (k293 P) (k480 P)
def k482 (P : Params) : BT := .node (o12v349 P) (k373 P) (k481 P)
def k483 (P : Params) : BT := .node (boot_o_4 P) (k371 P) (k482 P)
def k484 (P : Params) : BT := .node (boot_o_2 P) (k483 P) (k405 P)
def k485 (P : Params) : BT := .node (boot_o_0 P) (k479 P) (k484 P)
def S5L0c6 (w : World) (os : OsState) : SharedT := ⟨(k485 w.params), 61, lif, #[], drw, 359, os⟩
def o59v486 (P : Params) : Obj := (PySem.Obj.mk (PySem.Value.type "list") none (PySem.Data.seq #[(vi 917536 310), (vi 917537 311), (vi 917538 312), (vi 917539 313), (vi 917540 314), (vi 917541 315), (vi 917542 316), (vi 917543 317), (vi 917544 318), (vi 917545 319), (vi 917546 320), (vi 917547 321), (vi 917548 322), (vi 917549 323), (vi 917550 324), (vi 917551 325), (vi 917552 326), (vi 917553 327), (vi 917554 328), (vi 917555 329), (vi 917556 330), (vi 917557 331), (vi 917558 332), (vi 917559 333), (vi 917560 334), (vi 917561 335), (vi 917562 336), (vi 917563 337), (vi 917564 338), (vi 917565 339), (vi 917566 340), (vi 917567 341), (vi 917568 342), (vi 917569 343), (vi 917570 344), (vi 917571 345), (vi 917572 346), (vi 917573 347), (vi 917574 348), (vi 917575 349), (vi 917576 350), (vi 917577 351), (vi 917578 352), (vi 917579 353), (vi 917580 354), (vi 917581 355), (vi 917582 356), (vi 917583 357), (vi 917584 358), (vi 917585 359), (vi 917586 360), (vi 917587 361), (vi 917588 362), (vi 917589 363), (vi 917590 364), (vi 917591 365), (vi 917592 366)] 59) #[])
def o60v487 (P : Params) : Obj := (PySem.Obj.mk (PySem.Value.type "range_iterator") none (PySem.Data.fields #[(vi 917593 0), (vi 39 0), (vi 1 0)]) #[])
def k488 (P : Params) : BT := .node (o59v486 P) .nil .nil
def k489 (P : Params) : BT := .node (o27v167 P) (k284 P) (k488 P)
def k490 (P : Params) : BT := .node (o11v22 P) (k361 P) (k489 P)
def k491 (P : Params) : BT := .node (o3v348 P) (k359 P) (k490 P)
def k492 (P : Params) : BT := .node (boot_o_1 P) (k491 P) (k396 P)
def k493 (P : Params) : BT := .node (o60v487 P) .nil .nil
def k494 (P : Params) : BT := .node (o28v168 P) (k293 P) (k493 P)
def k495 (P : Params) : BT := .node (o12v349 P) (k373 P) (k494 P)
def k496 (P : Params) : BT := .node (boot_o_4 P) (k371 P) (k495 P)
def k497 (P : Params) : BT := .node (boot_o_2 P) (k496 P) (k405 P)
def k498 (P : Params) : BT := .node (boot_o_0 P) (k492 P) (k497 P)
def S5L0c7 (w : World) (os : OsState) : SharedT := ⟨(k498 w.params), 61, lif, #[], drw, 367, os⟩
def o59v499 (P : Params) : Obj := (PySem.Obj.mk (PySem.Value.type "list") none (PySem.Data.seq (List.toArray ((vi 917536 310) :: (vi 917537 311) :: (vi 917538 312) :: (vi 917539 313) :: (vi 917540 314) :: (vi 917541 315) :: (vi 917542 316) :: (vi 917543 317) :: (vi 917544 318) :: (vi 917545 319) :: (vi 917546 320) :: (vi 917547 321) :: (vi 917548 322) :: (vi 917549 323) :: (vi 917550 324) :: (vi 917551 325) :: (vi 917552 326) :: (vi 917553 327) :: (vi 917554 328) :: (vi 917555 329) :: (vi 917556 330) :: (vi 917557 331) :: (vi 917558 332) :: (vi 917559 333) :: (vi 917560 334) :: (vi 917561 335) :: (vi 917562 336) :: (vi 917563 337) :: (vi 917564 338) :: (vi 917565 339) :: (vi 917566 340) :: (vi 917567 341) :: (vi 917568 342) :: (vi 917569 343) :: (vi 917570 344) :: (vi 917571 345) :: (vi 917572 346) :: (vi 917573 347) :: (vi 917574 348) :: (vi 917575 349) :: (vi 917576 350) :: (vi 917577 351) :: (vi 917578 352) :: (vi 917579 353) :: (vi 917580 354) :: (vi 917581 355) :: (vi 917582 356) :: (vi 917583 357) :: (vi 917584 358) :: (vi 917585 359) :: (vi 917586 360) :: (vi 917587 361) :: (vi 917588 362) :: (vi 917589 363) :: (vi 917590 364) :: (vi 917591 365) :: (vi 917592 366) :: (vi 917593 367) :: (vi 917594 368) :: (vi 917595 369) :: (vi 917596 370) :: (vi 917597 371) :: (vi 917598 372) :: (vi 917599 373) :: (vi 917600 374) :: [])) 67) #[])
def o60v500 (P : Params) : Obj := (PySem.Obj.mk (PySem.Value.type "range_iterator") none (PySem.Data.fields #[(vi 917601 0), (vi 31 0), (vi 1 0)]) #[])
def k501 (P : Params) : BT := .node (o59v499 P) .nil .nil
def k502 (P : Params) : BT := .node (o27v167 P) (k284 P) (k501 P)
def k503 (P : Params) : BT := .node (o11v22 P) (k361 P) (k502 P)
def k504 (P : Params) : BT := .node (o3v348 P) (k359 P) (k503 P)
def k505 (P : Params) : BT := .node (boot_o_1 P) (k504 P) (k396 P)
def k506 (P : Params) : BT := .node (o60v500 P) .nil .nil
def k507 (P : Params) : BT := .node (o28v168 P) (k293 P) (k506 P)
def k508 (P : Params) : BT := .node (o12v349 P) (k373 P) (k507 P)
def k509 (P : Params) : BT := .node (boot_o_4 P) (k371 P) (k508 P)
def k510 (P : Params) : BT := .node (boot_o_2 P) (k509 P) (k405 P)
def k511 (P : Params) : BT := .node (boot_o_0 P) (k505 P) (k510 P)
def S5L0c8 (w : World) (os : OsState) : SharedT := ⟨(k511 w.params), 61, lif, #[], drw, 375, os⟩
def o59v512 (P : Params) : Obj := (PySem.Obj.mk (PySem.Value.type "list") none (PySem.Data.seq (List.toArray ((vi 917536 310) :: (vi 917537 311) :: (vi 917538 312) :: (vi 917539 313) :: (vi 917540 314) :: (vi 917541 315) :: (vi 917542 316) :: (vi 917543 317) :: (vi 917544 318) :: (vi 917545 319) :: (vi 917546 320) :: (vi 917547 321) :: (vi 917548 322) :: (vi 917549 323) :: (vi 917550 324) :: (vi 917551 325) :: (vi 917552 326) :: (vi 917553 327) :: (vi 917554 328) :: (vi 917555 329) :: (vi 917556 330) :: (vi 917557 331) :: (vi 917558 332) :: (vi 917559 333) :: (vi 917560 334) :: (vi 917561 335) :: (vi 917562 336) :: (vi 917563 337) :: (vi 917564 338) :: (vi 917565 339) :: (vi 917566 340) :: (vi 917567 341) :: (vi 917568 342) :: (vi 917569 343) :: (vi 917570 344) :: (vi 917571 345) :: (vi 917572 346) :: (vi 917573 347) :: (vi 917574 348) :: (vi 917575 349) :: (vi 917576 350) :: (vi 917577 351) :: (vi 917578 352) :: (vi 917579 353) :: (vi 917580 354) :: (vi 917581 355) :: (vi 917582 356) :: (vi 917583 357) :: (vi 917584 358) :: (vi 917585 359) :: (vi 917586 360) :: (vi 917587 361) :: (vi 917588 362) :: (vi 917589 363) :: (vi 917590 364) :: (vi 917591 365) :: (vi 917592 366) :: (vi 917593 367) :: (vi 917594 368) :: (vi 917595 369) :: (vi 917596 370) :: (vi 917597 371) :: (vi 917598 372) :: (vi 917599 373) :: (vi 917600 374) :: (vi 917601 375) :: (vi 917602 376) :: (vi 917603 377) :: (vi 917604 378) :: (vi 917605 379) :: (vi 917606 380) :: (vi 917607 381) :: (vi 917608 382) :: [])) 75) #[])
def o60v513 (P : Params) : Obj := (PySem.Obj.mk (PySem.Value.type "range_iterator") none (PySem.Data.fields #[(vi 917609 0), (vi 23 0), (vi 1 0)]) #[])
def k514 (P : Params) : BT := .node (o59v512 P) .nil .nil
def k515 (P : Params) : BT := .node (o27v167 P) (k284 P) (k514 P)
def k516 (P : Params) : BT := .node (o11v22 P) (k361 P) (k515 P)
def k517 (P : Params) : BT := .node (o3v348 P) (k359 P) (k516 P)
def k518 (P : Params) : BT := .node (boot_o_1 P) (k517 P) (k396 P)
def k519 (P : Params) : BT := .node (o60v513 P) .nil .nil
def k520 (P : Params) : BT := .node (o28v168 P) (k293 P) (k519 P)
def k521 (P : Params) : BT := .node (o12v349 P) (k373 P) (k520 P)
def k522 (P : Params) : BT := .node (boot_o_4 P) (k371 P) (k521 P)
def k523 (P : Params) : BT := .node (boot_o_2 P) (k522 P) (k405 P)
def k524 (P : Params) : BT := .node (boot_o_0 P) (k518 P) (k523 P)
def S5L0c9 (w : World) (os : OsState) : SharedT := ⟨(k524 w.params), 61, lif, #[], drw, 383, os⟩
def o59v525 (P : Params) : Obj := (PySem.Obj.mk (PySem.Value.type "list") none (PySem.Data.seq (List.toArray ((vi 917536 310) :: (vi 917537 311) :: (vi 917538 312) :: (vi 917539 313) :: (vi 917540 314) :: (vi 917541 315) :: (vi 917542 316) :: (vi 917543 317) :: (vi 917544 318) :: (vi 917545 319) :: (vi 917546 320) :: (vi 917547 321) :: (vi 917548 322) :: (vi 917549 323) :: (vi 917550 324) :: (vi 917551 325) :: (vi 917552 326) :: (vi 917553 327) :: (vi 917554 328) :: (vi 917555 329) :: (vi 917556 330) :: (vi 917557 331) :: (vi 917558 332) :: (vi 917559 333) :: (vi 917560 334) :: (vi 917561 335) :: (vi 917562 336) :: (vi 917563 337) :: (vi 917564 338) :: (vi 917565 339) :: (vi 917566 340) :: (vi 917567 341) :: (vi 917568 342) :: (vi 917569 343) :: (vi 917570 344) :: (vi 917571 345) :: (vi 917572 346) :: (vi 917573 347) :: (vi 917574 348) :: (vi 917575 349) :: (vi 917576 350) :: (vi 917577 351) :: (vi 917578 352) :: (vi 917579 353) :: (vi 917580 354) :: (vi 917581 355) :: (vi 917582 356) :: (vi 917583 357) :: (vi 917584 358) :: (vi 917585 359) :: (vi 917586 360) :: (vi 917587 361) :: (vi 917588 362) :: (vi 917589 363) :: (vi 917590 364) :: (vi 917591 365) :: (vi 917592 366) :: (vi 917593 367) :: (vi 917594 368) :: (vi 917595 369) :: (vi 917596 370) :: (vi 917597 371) :: (vi 917598 372) :: (vi 917599 373) :: (vi 917600 374) :: (vi 917601 375) :: (vi 917602 376) :: (vi 917603 377) :: (vi 917604 378) :: (vi 917605 379) :: (vi 917606 380) :: (vi 917607 381) :: (vi 917608 382) :: (vi 917609 383) :: (vi 917610 384) :: (vi 917611 385) :: (vi 917612 386) :: (vi 917613 387) :: (vi 917614 388) :: (vi 917615 389) :: (vi 917616 390) :: [])) 83) #[])
def o60v526 (P : Params) : Obj := (PySem.Obj.mk (PySem.Value.type "range_iterator") none (PySem.Data.fields #[(vi 917617 0), (vi 15 0), (vi 1 0)]) #[])
def k527 (P : Params) : BT := .node (o59v525 P) .nil .nil
def k528 (P : Params) : BT := .node (o27v167 P) (k284 P) (k527 P)
def k529 (P : Params) : BT := .node (o11v22 P) (k361 P) (k528 P)
def k530 (P : Params) : BT := .node (o3v348 P) (k359 P) (k529 P)
def k531 (P : Params) : BT := .node (boot_o_1 P) (k530 P) (k396 P)
def k532 (P : Params) : BT := .node (o60v526 P) .nil .nil
def k533 (P : Params) : BT := .node (o28v168 P) (k293 P) (k532 P)
def k534 (P : Params) : BT := .node (o12v349 P) (k373 P) (k533 P)
def k535 (P : Params) : BT := .node (boot_o_4 P) (k371 P) (k534 P)
def k536 (P : Params) : BT := .node (boot_o_2 P) (k535 P) (k405 P)
def k537 (P : Params) : BT := .node (boot_o_0 P) (k531 P) (k536 P)
def S5L0c10 (w : World) (os : OsState) : SharedT := ⟨(k537 w.params), 61, lif, #[], drw, 391, os⟩
def o59v538 (P : Params) : Obj := (PySem.Obj.mk (PySem.Value.type "list") none (PySem.Data.seq (List.toArray ((vi 917536 310) :: (vi 917537 311) :: (vi 917538 312) :: (vi 917539 313) :: (vi 917540 314) :: (vi 917541 315) :: (vi 917542 316) :: (vi 917543 317) :: (vi 917544 318) :: (vi 917545 319) :: (vi 917546 320) :: (vi 917547 321) :: (vi 917548 322) :: (vi 917549 323) :: (vi 917550 324) :: (vi 917551 325) :: (vi 917552 326) :: (vi 917553 327) :: (vi 917554 328) :: (vi 917555 329) :: (vi 917556 330) :: (vi 917557 331) :: (vi 917558 332) :: (vi 917559 333) :: (vi 917560 334) :: (vi 917561 335) :: (vi 917562 336) :: (vi 917563 337) :: (vi 917564 338) :: (vi 917565 339) :: (vi 917566 340) :: (vi 917567 341) :: (vi 917568 342) :: (vi 917569 343) :: (vi 917570 344) :: (vi 917571 345) :: (vi 917572 346) :: (vi 917573 347) :: (vi 917574 348) :: (vi 917575 349) :: (vi 917576 350) :: (vi 917577 351) :: (vi 917578 352) :: (vi 917579 353) :: (vi 917580 354) :: (vi 917581 355) :: (vi 917582 356) :: (vi 917583 357) :: (vi 917584 358) :: (vi 917585 359) :: (vi 917586 360) :: (vi 917587 361) :: (vi 917588 362) :: (vi 917589 363) :: (vi 917590 364) :: (vi 917591 365) :: (vi 917592 366) :: (vi 917593 367) :: (vi 917594 368) :: (vi 917595 369) :: (vi 917596 370) :: (vi 917597 371) :: (vi 917598 372) :: (vi 917599 373) :: (vi 917600 374) :: (vi 917601 375) :: (vi 917602 376) :: (vi 917603 377) :: (vi 917604 378) :: (vi 917605 379) :: (vi 917606 380) :: (vi 917607 381) :: (vi 917608 382) :: (vi 917609 383) :: (vi 917610 384) :: (vi 917611 385) :: (vi 917612 386) :: (vi 917613 387) :: (vi 917614 388) :: (vi 917615 389) :: (vi 917616 390) :: (vi 917617 391) :: (vi 917618 392) :: (vi 917619 393) :: (vi 917620 394) :: (vi 917621 395) :: (vi 917622 396) :: (vi 917623 397) :: (vi 917624 398) :: [])) 91) #[])
def o60v539 (P : Params) : Obj := (PySem.Obj.mk (PySem.Value.type "range_iterator") none (PySem.Data.fields #[(vi 917625 0), (vi 7 0), (vi 1 0)]) #[])
def k540 (P : Params) : BT := .node (o59v538 P) .nil .nil
def k541 (P : Params) : BT := .node (o27v167 P) (k284 P) (k540 P)
def k542 (P : Params) : BT := .node (o11v22 P) (k361 P) (k541 P)
def k543 (P : Params) : BT := .node (o3v348 P) (k359 P) (k542 P)
def k544 (P : Params) : BT := .node (boot_o_1 P) (k543 P) (k396 P)
def k545 (P : Params) : BT := .node (o60v539 P) .nil .nil
def k546 (P : Params) : BT := .node (o28v168 P) (k293 P) (k545 P)
def k547 (P : Params) : BT := .node (o12v349 P) (k373 P) (k546 P)
def k548 (P : Params) : BT := .node (boot_o_4 P) (k371 P) (k547 P)
def k549 (P : Params) : BT := .node (boot_o_2 P) (k548 P) (k405 P)
def k550 (P : Params) : BT := .node (boot_o_0 P) (k544 P) (k549 P)
def S5L0c11 (w : World) (os : OsState) : SharedT := ⟨(k550 w.params), 61, lif, #[], drw, 399, os⟩
def o59v551 (P : Params) : Obj := (PySem.Obj.mk (PySem.Value.type "list") none (PySem.Data.seq (List.toArray ((vi 917536 310) :: (vi 917537 311) :: (vi 917538 312) :: (vi 917539 313) :: (vi 917540 314) :: (vi 917541 315) :: (vi 917542 316) :: (vi 917543 317) :: (vi 917544 318) :: (vi 917545 319) :: (vi 917546 320) :: (vi 917547 321) :: (vi 917548 322) :: (vi 917549 323) :: (vi 917550 324) :: (vi 917551 325) :: (vi 917552 326) :: (vi 917553 327) :: (vi 917554 328) :: (vi 917555 329) :: (vi 917556 330) :: (vi 917557 331) :: (vi 917558 332) :: (vi 917559 333) :: (vi 917560 334) :: (vi 917561 335) :: (vi 917562 336) :: (vi 917563 337) :: (vi 917564 338) :: (vi 917565 339) :: (vi 917566 340) :: (vi 917567 341) :: (vi 917568 342) :: (vi 917569 343) :: (vi 917570 344) :: (vi 917571 345) :: (vi 917572 346) :: (vi 917573 347) :: (vi 917574 348) :: (vi 917575 349) :: (vi 917576 350) :: (vi 917577 351) :: (vi 917578 352) :: (vi 917579 353) :: (vi 917580 354) :: (vi 917581 355) :: (vi 917582 356) :: (vi 917583 357) :: (vi 917584 358) :: (vi 917585 359) :: (vi 917586 360) :: (vi 917587 361) :: (vi 917588 362) :: (vi 917589 363) :: (vi 917590 364) :: (vi 917591 365) :: (vi 917592 366) :: (vi 917593 367) :: (vi 917594 368) :: (vi 917595 369) :: (vi 917596 370) :: (vi 917597 371) :: (vi 917598 372) :: (vi 917599 373) :: (vi 917600 374) :: (vi 917601 375) :: (vi 917602 376) :: (vi 917603 377) :: (vi 917604 378) :: (vi 917605 379) :: (vi 917606 380) :: (vi 917607 381) :: (vi 917608 382) :: (vi 917609 383) :: (vi 917610 384) :: (vi 917611 385) :: (vi 917612 386) :: (vi 917613 387) :: (vi 917614 388) :: (vi 917615 389) :: (vi 917616 390) :: (vi 917617 391) :: (vi 917618 392) :: (vi 917619 393) :: (vi 917620 394) :: (vi 917621 395) :: (vi 917622 396) :: (vi 917623 397) :: (vi 917624 398) :: (vi 917625 399) :: (vi 917626 400) :: (vi 917627 401) :: (vi 917628 402) :: (vi 917629 403) :: (vi 917630 404) :: (vi 917631 405) :: [])) 98) #[])
def o60v552 (P : Params) : Obj := (PySem.Obj.mk (PySem.Value.type "range_iterator") none (PySem.Data.fields #[(vi 917632 0), (vi 0 0), (vi 1 0)]) #[])
def k553 (P : Params) : BT := .node (o59v551 P) .nil .nil
def k554 (P : Params) : BT := .node (o27v167 P) (k284 P) (k553 P)
def k555 (P : Params) : BT := .node (o11v22 P) (k361 P) (k554 P)
def k556 (P : Params) : BT := .node (o3v348 P) (k359 P) (k555 P)
def k557 (P : Params) : BT := .node (boot_o_1 P) (k556 P) (k396 P)
def k558 (P : Params) : BT := .node (o60v552 P) .nil .nil
def k559 (P : Params) : BT := .node (o28v168 P) (k293 P) (k558 P)
def k560 (P : Params) : BT := .node (o12v349 P) (k373 P) (k559 P)
def k561 (P : Params) : BT := .node (boot_o_4 P) (k371 P) (k560 P)
def k562 (P : Params) : BT := .node (boot_o_2 P) (k561 P) (k405 P)
def k563 (P : Params) : BT := .node (boot_o_0 P) (k557 P) (k562 P)
def S5L0c12 (w : World) (os : OsState) : SharedT := ⟨(k563 w.params), 61, lif, #[], drw, 406, os⟩
def o61v564 (P : Params) : Obj := (PySem.Obj.mk (PySem.Value.type "tuple") none (PySem.Data.seq #[] 0) #[])
def o62v565 (P : Params) : Obj := (PySem.Obj.mk (PySem.Value.type "StopIteration") none (PySem.Data.fields #[(PySem.Value.ref 61), PySem.Value.none, PySem.Value.none, PySem.Value.none, (PySem.Value.bool Bool.false), PySem.Value.none]) #[])
def o63v566 (P : Params) : Obj := (PySem.Obj.mk (PySem.Value.type "list") none (PySem.Data.seq (List.toArray ((vi 917505 304) :: (vi 917536 310) :: (vi 917537 311) :: (vi 917538 312) :: (vi 917539 313) :: (vi 917540 314) :: (vi 917541 315) :: (vi 917542 316) :: (vi 917543 317) :: (vi 917544 318) :: (vi 917545 319) :: (vi 917546 320) :: (vi 917547 321) :: (vi 917548 322) :: (vi 917549 323) :: (vi 917550 324) :: (vi 917551 325) :: (vi 917552 326) :: (vi 917553 327) :: (vi 917554 328) :: (vi 917555 329) :: (vi 917556 330) :: (vi 917557 331) :: (vi 917558 332) :: (vi 917559 333) :: (vi 917560 334) :: (vi 917561 335) :: (vi 917562 336) :: (vi 917563 337) :: (vi 917564 338) :: (vi 917565 339) :: (vi 917566 340) :: (vi 917567 341) :: (vi 917568 342) :: (vi 917569 343) :: (vi 917570 344) :: (vi 917571 345) :: (vi 917572 346) :: (vi 917573 347) :: (vi 917574 348) :: (vi 917575 349) :: (vi 917576 350) :: (vi 917577 351) :: (vi 917578 352) :: (vi 917579 353) :: (vi 917580 354) :: (vi 917581 355) :: (vi 917582 356) :: (vi 917583 357) :: (vi 917584 358) :: (vi 917585 359) :: (vi 917586 360) :: (vi 917587 361) :: (vi 917588 362) :: (vi 917589 363) :: (vi 917590 364) :: (vi 917591 365) :: (vi 917592 366) :: (vi 917593 367) :: (vi 917594 368) :: (vi 917595 369) :: (vi 917596 370) :: (vi 917597 371) :: (vi 917598 372) :: (vi 917599 373) :: (vi 917600 374) :: (vi 917601 375) :: (vi 917602 376) :: (vi 917603 377) :: (vi 917604 378) :: (vi 917605 379) :: (vi 917606 380) :: (vi 917607 381) :: (vi 917608 382) :: (vi 917609 383) :: (vi 917610 384) :: (vi 917611 385) :: (vi 917612 386) :: (vi 917613 387) :: (vi 917614 388) :: (vi 917615 389) :: (vi 917616 390) :: (vi 917617 391) :: (vi 917618 392) :: (vi 917619 393) :: (vi 917620 394) :: (vi 917621 395) :: (vi 917622 396) :: (vi 917623 397) :: (vi 917624 398) :: (vi 917625 399) :: (vi 917626 400) :: (vi 917627 401) :: (vi 917628 402) :: (vi 917629 403) :: (vi 917630 404) :: (vi 917631 405) :: [])) 0) #[])
def o64v567 (P : Params) : Obj := ⟨(PySem.Value.type "set"), none, .set #[(ei 917505 304)] 1 ⟨7, #[1], #[], 0, (!P.followText "set-order"), 0, true⟩, #[]⟩
def o65v568 (P : Params) : Obj := (PySem.Obj.mk (PySem.Value.type "list_iterator") none (PySem.Data.fields #[(PySem.Value.ref 63), (vi 1 0)]) #[])
def k569 (P : Params) : BT := .node (o63v566 P) .nil .nil
def k570 (P : Params) : BT := .node (o31v171 P) (k569 P) .nil
def k571 (P : Params) : BT := .node (o15v41 P) (k570 P) (k333 P)
def k572 (P : Params) : BT := .node (boot_o_7 P) (k571 P) (k358 P)
def k573 (P : Params) : BT := .node (o3v348 P) (k572 P) (k555 P)
def k574 (P : Params) : BT := .node (o65v568 P) .nil .nil
def k575 (P : Params) : BT := .node (o33v196 P) (k574 P) .nil
def k576 (P : Params) : BT := .node (o17v71 P) (k575 P) (k337 P)
def k577 (P : Params) : BT := .node (boot_o_9 P) (k576 P) (k394 P)
def k578 (P : Params) : BT := .node (o61v564 P) .nil .nil
def k579 (P : Params) : BT := .node (o29v169 P) (k288 P) (k578 P)
def k580 (P : Params) : BT := .node (o13v24 P) (k365 P) (k579 P)
def k581 (P : Params) : BT := .node (boot_o_5 P) (k577 P) (k580 P)
def k582 (P : Params) : BT := .node (boot_o_1 P) (k573 P) (k581 P)
def k583 (P : Params) : BT := .node (o64v567 P) .nil .nil
def k584 (P : Params) : BT := .node (o32v172 P) (k583 P) .nil
def k585 (P : Params) : BT := .node (o16v42 P) (k584 P) (k342 P)
def k586 (P : Params) : BT := .node (boot_o_8 P) (k585 P) (k370 P)
def k587 (P : Params) : BT := .node (boot_o_4 P) (k586 P) (k560 P)
def k588 (P : Params) : BT := .node (o62v565 P) .nil .nil
def k589 (P : Params) : BT := .node (o30v170 P) (k323 P) (k588 P)
def k590 (P : Params) : BT := .node (o14v25 P) (k380 P) (k589 P)
def k591 (P : Params) : BT := .node (boot_o_6 P) (k404 P) (k590 P)
def k592 (P : Params) : BT := .node (boot_o_2 P) (k587 P) (k591 P)
def k593 (P : Params) : BT := .node (boot_o_0 P) (k582 P) (k592 P)
def S5Z0c0 (w : World) (os : OsState) : SharedT := ⟨(k593 w.params), 66, lif, #[], drw, 407, os⟩
def o64v594 (P : Params) : Obj := ⟨(PySem.Value.type "set"), none, .set #[(ei 917536 310), (ei 917505 304), (ei 917538 312), (ei 917539 313), (ei 917537 311), (ei 917540 314), (ei 917541 315), (ei 917542 316), (ei 917543 317)] 10 ⟨31, #[0, 1, 2, 3, 4, 5, 6, 7, 8], #[], 0, (!P.followText "set-order"), 1, true⟩, #[]⟩
def o65v595 (P : Params) : Obj := (PySem.Obj.mk (PySem.Value.type "list_iterator") none (PySem.Data.fields #[(PySem.Value.ref 63), (vi 9 0)]) #[])
def k596 (P : Params) : BT := .node (o65v595 P) .nil .nil
def k597 (P : Params) : BT := .node (o33v196 P) (k596 P) .nil
def k598 (P : Params) : BT := .node (o17v71 P) (k597 P) (k337 P)
def k599 (P : Params) : BT := .node (boot_o_9 P) (k598 P) (k394 P)
def k600 (P : Params) : BT := .node (boot_o_5 P) (k599 P) (k580 P)
def k601 (P : Params) : BT := .node (boot_o_1 P) (k573 P) (k600 P)
def k602 (P : Params) : BT := .node (o64v594 P) .nil .nil
def k603 (P : Params) : BT := .node (o32v172 P) (k602 P) .nil
def k604 (P : Params) : BT := .node (o16v42 P) (k603 P) (k342 P)
def k605 (P : Params) : BT := .node (boot_o_8 P) (k604 P) (k370 P)
def k606 (P : Params) : BT := .node (boot_o_4 P) (k605 P) (k560 P)
def k607 (P : Params) : BT := .node (boot_o_2 P) (k606 P) (k591 P)
def k608 (P : Params) : BT := .node (boot_o_0 P) (k601 P) (k607 P)
def S5Z0c1 (w : World) (os : OsState) : SharedT := ⟨(k608 w.params), 66, lif, #[], drw, 415, os⟩
def o64v609 (P : Params) : Obj := ⟨(PySem.Value.type "set"), none, .set #[(ei 917536 310), (ei 917505 304), (ei 917538 312), (ei 917539 313), (ei 917537 311), (ei 917540 314), (ei 917541 315), (ei 917542 316), (ei 917543 317), (ei 917544 318), (ei 917545 319), (ei 917546 320), (ei 917547 321), (ei 917548 322), (ei 917549 323), (ei 917550 324), (ei 917551 325)] 18 ⟨31, #[0, 1, 2, 3, 4, 5, 6, 7, 8, 9, 10, 11, 12, 13, 14, 15, 16], #[], 0, (!P.followText "set-order"), 1, true⟩, #[]⟩
def o65v610 (P : Params) : Obj := (PySem.Obj.mk (PySem.Value.type "list_iterator") none (PySem.Data.fields #[(PySem.Value.ref 63), (vi 17 0)]) #[])
def k611 (P : Params) : BT := .node (o65v610 P) .nil .nil
def k612 (P : Params) : BT := .node (o33v196 P) (k611 P) .nil
def k613 (P : Params) : BT := .node (o17v71 P) (k612 P) (k337 P)
def k614 (P : Params) : BT := .node (boot_o_9 P) (k613 P) (k394 P)
def k615 (P : Params) : BT := .node (boot_o_5 P) (k614 P) (k580 P)
def k616 (P : Params) : BT := .node (boot_o_1 P) (k573 P) (k615 P)
def k617 (P : Params) : BT := .node (o64v609 P) .nil .nil
def k618 (P : Params) : BT := .node (o32v172 P) (k617 P) .nil
def k619 (P : Params) : BT := .node (o16v42 P) (k618 P) (k342 P)
def k620 (P : Params) : BT := .node (boot_o_8 P) (k619 P) (k370 P)
def k621 (P : Params) : BT := .node (boot_o_4 P) (k620 P) (k560 P)
def k622 (P : Params) : BT := .node (boot_o_2 P) (k621 P) (k591 P)
def k623 (P : Params) : BT := .node (boot_o_0 P) (k616 P) (k622 P)
def S5Z0c2 (w : World) (os : OsState) : SharedT := ⟨(k623 w.params), 66, lif, #[], drw, 423, os⟩
def o64v624 (P : Params) : Obj := ⟨(PySem.Value.type "set"), none, .set #[(ei 917505 304), (ei 917536 310), (ei 917537 311), (ei 917538 312), (ei 917539 313), (ei 917540 314), (ei 917541 315), (ei 917542 316), (ei 917543 317), (ei 917544 318), (ei 917545 319), (ei 917546 320), (ei 917547 321), (ei 917548 322), (ei 917549 323), (ei 917550 324), (ei 917551 325), (ei 917552 326), (ei 917553 327), (ei 917554 328), (ei 917555 329), (ei 917556 330), (ei 917557 331), (ei 917558 332), (ei 917559 333)] 27 ⟨127, #[1, 32, 33, 34, 35, 36, 37, 38, 39, 40, 41, 42, 43, 44, 45, 46, 47, 48, 49, 50, 51, 52, 53, 54, 55], #[], 0, (!P.followText "set-order"), 2, true⟩, #[]⟩
def o65v625 (P : Params) : Obj := (PySem.Obj.mk (PySem.Value.type "list_iterator") none (PySem.Data.fields #[(PySem.Value.ref 63), (vi 25 0)]) #[])
def k626 (P : Params) : BT := .node (o65v625 P) .nil .nil
def k627 (P : Params) : BT := .node (o33v196 P) (k626 P) .nil
def k628 (P : Params) : BT := .node (o17v71 P) (k627 P) (k337 P)
def k629 (P : Params) : BT := .node (boot_o_9 P) (k628 P) (k394 P)
def k630 (P : Params) : BT := .node (boot_o_5 P) (k629 P) (k580 P)
def k631 (P : Params) : BT := .node (boot_o_1 P) (k573 P) (k630 P)
def k632 (P : Params) : BT := .node (o64v624 P) .nil .nil
def k633 (P : Params) : BT := .node (o32v172 P) (k632 P) .nil
def k634 (P : Params) : BT := .node (o16v42 P) (k633 P) (k342 P)
def k635 (P : Params) : BT := .node (boot_o_8 P) (k634 P) (k370 P)
def k636 (P : Params) : BT := .node (boot_o_4 P) (k635 P) (k560 P)
def k637 (P : Params) : BT := .node (boot_o_2 P) (k636 P) (k591 P)
def k638 (P : Params) : BT := .node (boot_o_0 P) (k631 P) (k637 P)
def S5Z0c3 (w : World) (os : OsState) : SharedT := ⟨(k638 w.params), 66, lif, #[], drw, 431, os⟩
def o64v639 (P : Params) : Obj := ⟨(PySem.Value.type "set"), none, .set #[(ei 917505 304), (ei 917536 310), (ei 917537 311), (ei 917538 312), (ei 917539 313), (ei 917540 314), (ei 917541 315), (ei 917542 316), (ei 917543 317), (ei 917544 318), (ei 917545 319), (ei 917546 320), (ei 917547 321), (ei 917548 322), (ei 917549 323), (ei 917550 324), (ei 917551 325), (ei 917552 326), (ei 917553 327), (ei 917554 328), (ei 917555 329), (ei 917556 330), (ei 917557 331), (ei 917558 332), (ei 917559 333), (ei 917560 334), (ei 917561 335), (ei 917562 336), (ei 917563 337), (ei 917564 338), (ei 917565 339), (ei 917566 340), (ei 917567 341)] 35 ⟨127, #[1, 32, 33, 34, 35, 36, 37, 38, 39, 40, 41, 42, 43, 44, 45, 46, 47, 48, 49, 50, 51, 52, 53, 54, 55, 56, 57, 58, 59, 60, 61, 62, 63], #[], 0, (!P.followText "set-order"), 2, true⟩, #[]⟩
def o65v640 (P : Params) : Obj := (PySem.Obj.mk (PySem.Value.type "list_iterator") none (PySem.Data.fields #[(PySem.Value.ref 63), (vi 33 0)]) #[])
def k641 (P : Params) : BT := .node (o65v640 P) .nil .nil
def k642 (P : Params) : BT := .node (o33v196 P) (k641 P) .nil
def k643 (P : Params) : BT := .node (o17v71 P) (k642 P) (k337 P)
def k644 (P : Params) : BT := .node (boot_o_9 P) (k643 P) (k394 P)
def k645 (P : Params) : BT := .node (boot_o_5 P) (k644 P) (k580 P)
def k646 (P : Params) : BT := .node (boot_o_1 P) (k573 P) (k645 P)
def k647 (P : Params) : BT := .node (o64v639 P) .nil .nil
def k648 (P : Params) : BT := .node (o32v172 P) (k647 P) .nil
def k649 (P : Params) : BT := .node (o16v42 P) (k648 P) (k342 P)
def k650 (P : Params) : BT := .node (boot_o_8 P) (k649 P) (k370 P)
def k651 (P : Params) : BT := .node (boot_o_4 P) (k650 P) (k560 P)
def k652 (P : Params) : BT := .node (boot_o_2 P) (k651 P) (k591 P)
def k653 (P : Params) : BT := .node (boot_o_0 P) (k646 P) (k652 P)
def S5Z0c4 (w : World) (os : OsState) : SharedT := ⟨(k653 w.params), 66, lif, #[], drw, 439, os⟩
def o64v654 (P : Params) : Obj := ⟨(PySem.Value.type "set"), none, .set #[(ei 917505 304), (ei 917536 310), (ei 917537 311), (ei 917538 312), (ei 917539 313), (ei 917540 314), (ei 917541 315), (ei 917542 316), (ei 917543 317), (ei 917544 318), (ei 917545 319), (ei 917546 320), (ei 917547 321), (ei 917548 322), (ei 917549 323), (ei 917550 324), (ei 917551 325), (ei 917552 326), (ei 917553 327), (ei 917554 328), (ei 917555 329), (ei 917556 330), (ei 917557 331), (ei 917558 332), (ei 917559 333), (ei 917560 334), (ei 917561 335), (ei 917562 336), (ei 917563 337), (ei 917564 338), (ei 917565 339), (ei 917566 340), (ei 917567 341), (ei 917568 342), (ei 917569 343), (ei 917570 344), (ei 917571 345), (ei 917572 346), (ei 917573 347), (ei 917574 348), (ei 917575 349)] 43 ⟨127, #[1, 32, 33, 34, 35, 36, 37, 38, 39, 40, 41, 42, 43, 44, 45, 46, 47, 48, 49, 50, 51, 52, 53, 54, 55, 56, 57, 58, 59, 60, 61, 62, 63, 64, 65, 66, 67, 68, 69, 70, 71], #[], 0, (!P.followText "set-order"), 2, true⟩, #[]⟩
def o65v655 (P : Params) : Obj := (PySem.Obj.mk (PySem.Value.type "list_iterator") none (PySem.Data.fields #[(PySem.Value.ref 63), (vi 41 0)]) #[])
def k656 (P : Params) : BT := .node (o65v655 P) .nil .nil
def k657 (P : Params) : BT := .node (o33v196 P) (k656 P) .nil
def k658 (P : Params) : BT := .node (o17v71 P) (k657 P) (k337 P)
def k659 (P : Params) : BT := .node (boot_o_9 P) (k658 P) (k394 P)
def k660 (P : Params) : BT := .node (boot_o_5 P) (k659 P) (k580 P)
def k661 (P : Params) : BT := .node (boot_o_1 P) (k573 P) (k660 P)
def k662 (P : Params) : BT := .node (o64v654 P) .nil .nil
def k663 (P : Params) : BT := .node (o32v172 P) (k662 P) .nil
def k664 (P : Params) : BT := .node (o16v42 P) (k663 P) (k342 P)
def k665 (P : Params) : BT := .node (boot_o_8 P) (k664 P) (k370 P)
def k666 (P : Params) : BT := .node (boot_o_4 P) (k665 P) (k560 P)
def k667 (P : Params) : BT := .node (boot_o_2 P) (k666 P) (k591 P)
def k668 (P : Params) : BT := .node (boot_o_0 P) (k661 P) (k667 P)
def S5Z0c5 (w : World) (os : OsState) : SharedT := ⟨(k668 w.params), 66, lif, #[], drw, 447, os⟩
def o64v669 (P : Params) : Obj := ⟨(PySem.Value.type "set"), none, .set #[(ei 917505 304), (ei 917536 310), (ei 917537 311), (ei 917538 312), (ei 917539 313), (ei 917540 314), (ei 917541 315), (ei 917542 316), (ei 917543 317), (ei 917544 318), (ei 917545 319), (ei 917546 320), (ei 917547 321), (ei 917548 322), (ei 917549 323), (ei 917550 324), (ei 917551 325), (ei 917552 326), (ei 917553 327), (ei 917554 328), (ei 917555 329), (ei 917556 330), (ei 917557 331), (ei 917558 332), (ei 917559 333), (ei 917560 334), (ei 917561 335), (ei 917562 336), (ei 917563 337), (ei 917564 338), (ei 917565 339), (ei 917566 340), (ei 917567 341), (ei 917568 342), (ei 917569 343), (ei 917570 344), (ei 917571 345), (ei 917572 346), (ei 917573 347), (ei 917574 348), (ei 917575 349), (ei 917576 350), (ei 917577 351), (ei 917578 352), (ei 917579 353), (ei 917580 354), (ei 917581 355), (ei 917582 356), (ei 917583 357)] 51 ⟨127, #[1, 32, 33, 34, 35, 36, 37, 38, 39, 40, 41, 42, 43, 44, 45, 46, 47, 48, 49, 50, 51, 52, 53, 54, 55, 56, 57, 58, 59, 60, 61, 62, 63, 64, 65, 66, 67, 68, 69, 70, 71, 72, 73, 74, 75, 76, 77, 78, 79], #[], 0, (!P.followText "set-order"), 2, true⟩, #[]⟩
def o65v670 (P : Params) : Obj := (PySem.Obj.mk (PySem.Value.type "list_iterator") none (PySem.Data.fields #[(PySem.Value.ref 63), (vi 49 0)]) #[])
def k671 (P : Params) : BT := .node (o65v670 P) .nil .nil
def k672 (P : Params) : BT := .node (o33v196 P) (k671 P) .nil
def k673 (P : Params) : BT := .node (o17v71 P) (k672 P) (k337 P)
def k674 (P : Params) : BT := .node (boot_o_9 P) (k673 P) (k394 P)
def k675 (P : Params) : BT := .node (boot_o_5 P) (k674 P) (k580 P)
def k676 (P : Params) : BT := .node (boot_o_1 P) (k573 P) (k675 P)
def k677 (P : Params) : BT := .node (o64v669 P) .nil .nil
def k678 (P : Params) : BT := .node (o32v172 P) (k677 P) .nil
def k679 (P : Params) : BT := .node (o16v42 P) (k678 P) (k342 P)
def k680 (P : Params) : BT := .node (boot_o_8 P) (k679 P) (k370 P)
def k681 (P : Params) : BT := .node (boot_o_4 P) (k680 P) (k560 P)
def k682 (P : Params) : BT := .node (boot_o_2 P) (k681 P) (k591 P)
def k683 (P : Params) : BT := .node (boot_o_0 P) (k676 P) (k682 P)
def S5Z0c6 (w : World) (os : OsState) : SharedT := ⟨(k683 w.params), 66, lif, #[], drw, 455, os⟩
def o64v684 (P : Params) : Obj := ⟨(PySem.Value.type "set"), none, .set #[(ei 917505 304), (ei 917536 310), (ei 917537 311), (ei 917538 312), (ei 917539 313), (ei 917540 314), (ei 917541 315), (ei 917542 316), (ei 917543 317), (ei 917544 318), (ei 917545 319), (ei 917546 320), (ei 917547 321), (ei 917548 322), (ei 917549 323), (ei 917550 324), (ei 917551 325), (ei 917552 326), (ei 917553 327), (ei 917554 328), (ei 917555 329), (ei 917556 330), (ei 917557 331), (ei 917558 332), (ei 917559 333), (ei 917560 334), (ei 917561 335), (ei 917562 336), (ei 917563 337), (ei 917564 338), (ei 917565 339), (ei 917566 340), (ei 917567 341), (ei 917568 342), (ei 917569 343), (ei 917570 344), (ei 917571 345), (ei 917572 346), (ei 917573 347), (ei 917574 348), (ei 917575 349), (ei 917576 350), (ei 917577 351), (ei 917578 352), (ei 917579 353), (ei 917580 354), (ei 917581 355), (ei 917582 356), (ei 917583 357), (ei 917584 358), (ei 917585 359), (ei 917586 360), (ei 917587 361)] 55 ⟨127, #[1, 32, 33, 34, 35, 36, 37, 38, 39, 40, 41, 42, 43, 44, 45, 46, 47, 48, 49, 50, 51, 52, 53, 54, 55, 56, 57, 58, 59, 60, 61, 62, 63, 64, 65, 66, 67, 68, 69, 70, 71, 72, 73, 74, 75, 76, 77, 78, 79, 80, 81, 82, 83], #[], 0, (!P.followText "set-order"), 2, true⟩, #[]⟩
def o65v685 (P : Params) : Obj := (PySem.Obj.mk (PySem.Value.type "list_iterator") none (PySem.Data.fields #[(PySem.Value.ref 63), (vi 53 0)]) #[])
def k686 (P : Params) : BT := .node (o65v685 P) .nil .nil
def k687 (P : Params) : BT := .node (o33v196 P) (k686 P) .nil
def k688 (P : Params) : BT := .node (o17v71 P) (k687 P) (k337 P)
def k689 (P : Params) : BT := .node (boot_o_9 P) (k688 P) (k394 P)
def k690 (P : Params) : BT := .node (boot_o_5 P) (k689 P) (k580 P)
def k691 (P : Params) : BT := .node (boot_o_1 P) (k573 P) (k690 P)
def k692 (P : Params) : BT := .node (o64v684 P) .nil .nil
def k693 (P : Params) : BT := .node (o32v172 P) (k692 P) .nil
def k694 (P : Params) : BT := .node (o16v42 P) (k693 P) (k342 P)
def k695 (P : Params) : BT := .node (boot_o_8 P) (k694 P) (k370 P)
def k696 (P : Params) : BT := .node (boot_o_4 P) (k695 P) (k560 P)
def k697 (P : Params) : BT := .node (boot_o_2 P) (k696 P) (k591 P)
def k698 (P : Params) : BT := .node (boot_o_0 P) (k691 P) (k697 P)
def S5Z0c7 (w : World) (os : OsState) : SharedT := ⟨(k698 w.params), 66, lif, #[], drw, 459, os⟩
def o64v699 (P : Params) : Obj := ⟨(PySem.Value.type "set"), none, .set #[(ei 917505 304), (ei 917536 310), (ei 917537 311), (ei 917538 312), (ei 917539 313), (ei 917540 314), (ei 917541 315), (ei 917542 316), (ei 917543 317), (ei 917544 318), (ei 917545 319), (ei 917546 320), (ei 917547 321), (ei 917548 322), (ei 917549 323), (ei 917550 324), (ei 917551 325), (ei 917552 326), (ei 917553 327), (ei 917554 328), (ei 917555 329), (ei 917556 330), (ei 917557 331), (ei 917558 332), (ei 917559 333), (ei 917560 334), (ei 917561 335), (ei 917562 336), (ei 917563 337), (ei 917564 338), (ei 917565 339), (ei 917566 340), (ei 917567 341), (ei 917568 342), (ei 917569 343), (ei 917570 344), (ei 917571 345), (ei 917572 346), (ei 917573 347), (ei 917574 348), (ei 917575 349), (ei 917576 350), (ei 917577 351), (ei 917578 352), (ei 917579 353), (ei 917580 354), (ei 917581 355), (ei 917582 356), (ei 917583 357), (ei 917584 358), (ei 917585 359), (ei 917586 360), (ei 917587 361), (ei 917588 362), (ei 917589 363), (ei 917590 364), (ei 917591 365)] 59 ⟨127, #[1, 32, 33, 34, 35, 36, 37, 38, 39, 40, 41, 42, 43, 44, 45, 46, 47, 48, 49, 50, 51, 52, 53, 54, 55, 56, 57, 58, 59, 60, 61, 62, 63, 64, 65, 66, 67, 68, 69, 70, 71, 72, 73, 74, 75, 76, 77, 78, 79, 80, 81, 82, 83, 84, 85, 86, 87], #[], 0, (!P.followText "set-order"), 2, true⟩, #[]⟩
def o65v700 (P : Params) : Obj := (PySem.Obj.mk (PySem.Value.type "list_iterator") none (PySem.Data.fields #[(PySem.Value.ref 63), (vi 57 0)]) #[])
def k701 (P : Params) : BT := .node (o65v700 P) .nil .nil
def k702 (P : Params) : BT := .node (o33v196 P) (k701 P) .nil
def k703 (P : Params) : BT := .node (o17v71 P) (k702 P) (k337 P)
def k704 (P : Params) : BT := .node (boot_o_9 P) (k703 P) (k394 P)
def k705 (P : Params) : BT := .node (boot_o_5 P) (k704 P) (k580 P)
def k706 (P : Params) : BT := .node (boot_o_1 P) (k573 P) (k705 P)
def k707 (P : Params) : BT := .node (o64v699 P) .nil .nil
def k708 (P : Params) : BT := .node (o32v172 P) (k707 P) .nil
def k709 (P : Params) : BT := .node (o16v42 P) (k708 P) (k342 P)
def k710 (P : Params) : BT := .node (boot_o_8 P) (k709 P) (k370 P)
def k711 (P : Params) : BT := .node (boot_o_4 P) (k710 P) (k560 P)
def k712 (P : Params) : BT := .node (boot_o_2 P) (k711 P) (k591 P)
def k713 (P : Params) : BT := .node (boot_o_0 P) (k706 P) (k712 P)
def S5Z0c8 (w : World) (os : OsState) : SharedT := ⟨(k713 w.params), 66, lif, #[], drw, 463, os⟩
def o64v714 (P : Params) : Obj := ⟨(PySem.Value.type "set"), none, .set (List.toArray ((ei 917505 304) :: (ei 917536 310) :: (ei 917537 311) :: (ei 917538 312) :: (ei 917539 313) :: (ei 917540 314) :: (ei 917541 315) :: (ei 917542 316) :: (ei 917543 317) :: (ei 917544 318) :: (ei 917545 319) :: (ei 917546 320) :: (ei 917547 321) :: (ei 917548 322) :: (ei 917549 323) :: (ei 917550 324) :: (ei 917551 325) :: (ei 917552 326) :: (ei 917553 327) :: (ei 917554 328) :: (ei 917555 329) :: (ei 917556 330) :: (ei 917557 331) :: (ei 917558 332) :: (ei 917559 333) :: (ei 917560 334) :: (ei 917561 335) :: (ei 917562 336) :: (ei 917563 337) :: (ei 917564 338) :: (ei 917565 339) :: (ei 917566 340) :: (ei 917567 341) :: (ei 917568 342) :: (ei 917569 343) :: (ei 917570 344) :: (ei 917571 345) :: (ei 917572 346) :: (ei 917573 347) :: (ei 917574 348) :: (ei 917575 349) :: (ei 917576 350) :: (ei 917577 351) :: (ei 917578 352) :: (ei 917579 353) :: (ei 917580 354) :: (ei 917581 355) :: (ei 917582 356) :: (ei 917583 357) :: (ei 917584 358) :: (ei 917585 359) :: (ei 917586 360) :: (ei 917587 361) :: (ei 917588 362) :: (ei 917589 363) :: (ei 917590 364) :: (ei 917591 365) :: (ei 917592 366) :: (ei 917593 367) :: (ei 917594 368) :: (ei 917595 369) :: [])) 63 ⟨127, (List.toArray (1 :: 32 :: 33 :: 34 :: 35 :: 36 :: 37 :: 38 :: 39 :: 40 :: 41 :: 42 :: 43 :: 44 :: 45 :: 46 :: 47 :: 48 :: 49 :: 50 :: 51 :: 52 :: 53 :: 54 :: 55 :: 56 :: 57 :: 58 :: 59 :: 60 :: 61 :: 62 :: 63 :: 64 :: 65 :: 66 :: 67 :: 68 :: 69 :: 70 :: 71 :: 72 :: 73 :: 74 :: 75 :: 76 :: 77 :: 78 :: 79 :: 80 :: 81 :: 82 :: 83 :: 84 :: 85 :: 86 :: 87 :: 88 :: 89 :: 90 :: 91 :: [])), #[], 0, (!P.followText "set-order"), 2, true⟩, #[]⟩
def o65v715 (P : Params) : Obj := (PySem.Obj.mk (PySem.Value.type "list_iterator") none (PySem.Data.fields #[(PySem.Value.ref 63), (vi 61 0)]) #[])
def k716 (P : Params) : BT := .node (o65v715 P) .nil .nil
def k717 (P : Params) : BT := .node (o33v196 P) (k716 P) .nil
def k718 (P : Params) : BT := .node (o17v71 P) (k717 P) (k337 P)
def k719 (P : Params) : BT := .node (boot_o_9 P) (k718 P) (k394 P)
def k720 (P : Params) : BT := .node (boot_o_5 P) (k719 P) (k580 P)
def k721 (P : Params) : BT := .node (boot_o_1 P) (k573 P) (k720 P)
def k722 (P : Params) : BT := .node (o64v714 P) .nil .nil
def k723 (P : Params) : BT := .node (o32v172 P) (k722 P) .nil
def k724 (P : Params) : BT := .node (o16v42 P) (k723 P) (k342 P)
def k725 (P : Params) : BT := .node (boot_o_8 P) (k724 P) (k370 P)
def k726 (P : Params) : BT := .node (boot_o_4 P) (k725 P) (k560 P)
def k727 (P : Params) : BT := .node (boot_o_2 P) (k726 P) (k591 P)
def k728 (P : Params) : BT := .node (boot_o_0 P) (k721 P) (k727 P)
def S5Z0c9 (w : World) (os : OsState) : SharedT := ⟨(k728 w.params), 66, lif, #[], drw, 467, os⟩
def o64v729 (P : Params) : Obj := ⟨(PySem.Value.type "set"), none, .set (List.toArray ((ei 917505 304) :: (ei 917536 310) :: (ei 917537 311) :: (ei 917538 312) :: (ei 917539 313) :: (ei 917540 314) :: (ei 917541 315) :: (ei 917542 316) :: (ei 917543 317) :: (ei 917544 318) :: (ei 917545 319) :: (ei 917546 320) :: (ei 917547 321) :: (ei 917548 322) :: (ei 917549 323) :: (ei 917550 324) :: (ei 917551 325) :: (ei 917552 326) :: (ei 917553 327) :: (ei 917554 328) :: (ei 917555 329) :: (ei 917556 330) :: (ei 917557 331) :: (ei 917558 332) :: (ei 917559 333) :: (ei 917560 334) :: (ei 917561 335) :: (ei 917562 336) :: (ei 917563 337) :: (ei 917564 338) :: (ei 917565 339) :: (ei 917566 340) :: (ei 917567 341) :: (ei 917568 342) :: (ei 917569 343) :: (ei 917570 344) :: (ei 917571 345) :: (ei 917572 346) :: (ei 917573 347) :: (ei 917574 348) :: (ei 917575 349) :: (ei 917576 350) :: (ei 917577 351) :: (ei 917578 352) :: (ei 917579 353) :: (ei 917580 354) :: (ei 917581 355) :: (ei 917582 356) :: (ei 917583 357) :: (ei 917584 358) :: (ei 917585 359) :: (ei 917586 360) :: (ei 917587 361) :: (ei 917588 362) :: (ei 917589 363) :: (ei 917590 364) :: (ei 917591 365) :: (ei 917592 366) :: (ei 917593 367) :: (ei 917594 368) :: (ei 917595 369) :: (ei 917596 370) :: (ei 917597 371) :: (ei 917598 372) :: (ei 917599 373) :: [])) 67 ⟨127, (List.toArray (1 :: 32 :: 33 :: 34 :: 35 :: 36 :: 37 :: 38 :: 39 :: 40 :: 41 :: 42 :: 43 :: 44 :: 45 :: 46 :: 47 :: 48 :: 49 :: 50 :: 51 :: 52 :: 53 :: 54 :: 55 :: 56 :: 57 :: 58 :: 59 :: 60 :: 61 :: 62 :: 63 :: 64 :: 65 :: 66 :: 67 :: 68 :: 69 :: 70 :: 71 :: 72 :: 73 :: 74 :: 75 :: 76 :: 77 :: 78 :: 79 :: 80 :: 81 :: 82 :: 83 :: 84 :: 85 :: 86 :: 87 :: 88 :: 89 :: 90 :: 91 :: 92 :: 93 :: 94 :: 95 :: [])), #[], 0, (!P.followText "set-order"), 2, true⟩, #[]⟩
def o65v730 (P : Params) : Obj := (PySem.Obj.mk (PySem.Value.type "list_iterator") none (PySem.Data.fields #[(PySem.Value.ref 63), (vi 65 0)]) #[])
def k731 (P : Params) : BT := .node (o65v730 P) .nil .nil
def k732 (P : Params) : BT := .node (o33v196 P) (k731 P) .nil
def k733 (P : Params) : BT := .node (o17v71 P) (k732 P) (k337 P)
def k734 (P : Params) : BT := .node (boot_o_9 P) (k733 P) (k394 P)
def k735 (P : Params) : BT := .node (boot_o_5 P) (k734 P) (k580 P)
def k736 (P : Params) : BT := .node (boot_o_1 P) (k573 P) (k735 P)
def k737 (P : Params) : BT := .node (o64v729 P) .nil .nil
def k738 (P : Params) : BT := .node (o32v172 P) (k737 P) .nil
def k739 (P : Params) : BT := .node (o16v42 P) (k738 P) (k342 P)
def k740 (P : Params) : BT := .node (boot_o_8 P) (k739 P) (k370 P)
def k741 (P : Params) : BT := .node (boot_o_4 P) (k740 P) (k560 P)
def k742 (P : Params) : BT := .node (boot_o_2 P) (k741 P) (k591 P)
def k743 (P : Params) : BT := .node (boot_o_0 P) (k736 P) (k742 P)
def S5Z0c10 (w : World) (os : OsState) : SharedT := ⟨(k743 w.params), 66, lif, #[], drw, 471, os⟩
def o64v744 (P : Params) : Obj := ⟨(PySem.Value.type "set"), none, .set (List.toArray ((ei 917505 304) :: (ei 917536 310) :: (ei 917537 311) :: (ei 917538 312) :: (ei 917539 313) :: (ei 917540 314) :: (ei 917541 315) :: (ei 917542 316) :: (ei 917543 317) :: (ei 917544 318) :: (ei 917545 319) :: (ei 917546 320) :: (ei 917547 321) :: (ei 917548 322) :: (ei 917549 323) :: (ei 917550 324) :: (ei 917551 325) :: (ei 917552 326) :: (ei 917553 327) :: (ei 917554 328) :: (ei 917555 329) :: (ei 917556 330) :: (ei 917557 331) :: (ei 917558 332) :: (ei 917559 333) :: (ei 917560 334) :: (ei 917561 335) :: (ei 917562 336) :: (ei 917563 337) :: (ei 917564 338) :: (ei 917565 339) :: (ei 917566 340) :: (ei 917567 341) :: (ei 917568 342) :: (ei 917569 343) :: (ei 917570 344) :: (ei 917571 345) :: (ei 917572 346) :: (ei 917573 347) :: (ei 917574 348) :: (ei 917575 349) :: (ei 917576 350) :: (ei 917577 351) :: (ei 917578 352) :: (ei 917579 353) :: (ei 917580 354) :: (ei 917581 355) :: (ei 917582 356) :: (ei 917583 357) :: (ei 917584 358) :: (ei 917585 359) :: (ei 917586 360) :: (ei 917587 361) :: (ei 917588 362) :: (ei 917589 363) :: (ei 917590 364) :: (ei 917591 365) :: (ei 917592 366) :: (ei 917593 367) :: (ei 917594 368) :: (ei 917595 369) :: (ei 917596 370) :: (ei 917597 371) :: (ei 917598 372) :: (ei 917599 373) :: (ei 917600 374) :: (ei 917601 375) :: (ei 917602 376) :: (ei 917603 377) :: [])) 71 ⟨127, (List.toArray (1 :: 32 :: 33 :: 34 :: 35 :: 36 :: 37 :: 38 :: 39 :: 40 :: 41 :: 42 :: 43 :: 44 :: 45 :: 46 :: 47 :: 48 :: 49 :: 50 :: 51 :: 52 :: 53 :: 54 :: 55 :: 56 :: 57 :: 58 :: 59 :: 60 :: 61 :: 62 :: 63 :: 64 :: 65 :: 66 :: 67 :: 68 :: 69 :: 70 :: 71 :: 72 :: 73 :: 74 :: 75 :: 76 :: 77 :: 78 :: 79 :: 80 :: 81 :: 82 :: 83 :: 84 :: 85 :: 86 :: 87 :: 88 :: 89 :: 90 :: 91 :: 92 :: 93 :: 94 :: 95 :: 96 :: 97 :: 98 :: 99 :: [])), #[], 0, (!P.followText "set-order"), 2, true⟩, #[]⟩
def o65v745 (P : Params) : Obj := (PySem.Obj.mk (PySem.Value.type "list_iterator") none (PySem.Data.fields #[(PySem.Value.ref 63), (vi 69 0)]) #[])
def k746 (P : Params) : BT := .node (o65v745 P) .nil .nil
def k747 (P : Params) : BT := .node (o33v196 P) (k746 P) .nil
def k748 (P : Params) : BT := .node (o17v71 P) (k747 P) (k337 P)
def k749 (P : Params) : BT := .node (boot_o_9 P) (k748 P) (k394 P)
def k750 (P : Params) : BT := .node (boot_o_5 P) (k749 P) (k580 P)
def k751 (P : Params) : BT := .node (boot_o_1 P) (k573 P) (k750 P)
def k752 (P : Params) : BT := .node (o64v744 P) .nil .nil
def k753 (P : Params) : BT := .node (o32v172 P) (k752 P) .nil
def k754 (P : Params) : BT := .node (o16v42 P) (k753 P) (k342 P)
def k755 (P : Params) : BT := .node (boot_o_8 P) (k754 P) (k370 P)
def k756 (P : Params) : BT := .node (boot_o_4 P) (k755 P) (k560 P)
def k757 (P : Params) : BT := .node (boot_o_2 P) (k756 P) (k591 P)
def k758 (P : Params) : BT := .node (boot_o_0 P) (k751 P) (k757 P)
def S5Z0c11 (w : World) (os : OsState) : SharedT := ⟨(k758 w.params), 66, lif, #[], drw, 475, os⟩
def o64v759 (P : Params) : Obj := ⟨(PySem.Value.type "set"), none, .set (List.toArray ((ei 917505 304) :: (ei 917536 310) :: (ei 917537 311) :: (ei 917538 312) :: (ei 917539 313) :: (ei 917540 314) :: (ei 917541 315) :: (ei 917542 316) :: (ei 917543 317) :: (ei 917544 318) :: (ei 917545 319) :: (ei 917546 320) :: (ei 917547 321) :: (ei 917548 322) :: (ei 917549 323) :: (ei 917550 324) :: (ei 917551 325) :: (ei 917552 326) :: (ei 917553 327) :: (ei 917554 328) :: (ei 917555 329) :: (ei 917556 330) :: (ei 917557 331) :: (ei 917558 332) :: (ei 917559 333) :: (ei 917560 334) :: (ei 917561 335) :: (ei 917562 336) :: (ei 917563 337) :: (ei 917564 338) :: (ei 917565 339) :: (ei 917566 340) :: (ei 917567 341) :: (ei 917568 342) :: (ei 917569 343) :: (ei 917570 344) :: (ei 917571 345) :: (ei 917572 346) :: (ei 917573 347) :: (ei 917574 348) :: (ei 917575 349) :: (ei 917576 350) :: (ei 917577 351) :: (ei 917578 352) :: (ei 917579 353) :: (ei 917580 354) :: (ei 917581 355) :: (ei 917582 356) :: (ei 917583 357) :: (ei 917584 358) :: (ei 917585 359) :: (ei 917586 360) :: (ei 917587 361) :: (ei 917588 362) :: (ei 917589 363) :: (ei 917590 364) :: (ei 917591 365) :: (ei 917592 366) :: (ei 917593 367) :: (ei 917594 368) :: (ei 917595 369) :: (ei 917596 370) :: (ei 917597 371) :: (ei 917598 372) :: (ei 917599 373) :: (ei 917600 374) :: (ei 917601 375) :: (ei 917602 376) :: (ei 917603 377) :: (ei 917604 378) :: (ei 917605 379) :: (ei 917606 380) :: (ei 917607 381) :: [])) 75 ⟨127, (List.toArray (1 :: 32 :: 33 :: 34 :: 35 :: 36 :: 37 :: 38 :: 39 :: 40 :: 41 :: 42 :: 43 :: 44 :: 45 :: 46 :: 47 :: 48 :: 49 :: 50 :: 51 :: 52 :: 53 :: 54 :: 55 :: 56 :: 57 :: 58 :: 59 :: 60 :: 61 :: 62 :: 63 :: 64 :: 65 :: 66 :: 67 :: 68 :: 69 :: 70 :: 71 :: 72 :: 73 :: 74 :: 75 :: 76 :: 77 :: 78 :: 79 :: 80 :: 81 :: 82 :: 83 :: 84 :: 85 :: 86 :: 87 :: 88 :: 89 :: 90 :: 91 :: 92 :: 93 :: 94 :: 95 :: 96 :: 97 :: 98 :: 99 :: 100 :: 101 :: 102 :: 103 :: [])), #[], 0, (!P.followText "set-order"), 2, true⟩, #[]⟩
def o65v760 (P : Params) : Obj := (PySem.Obj.mk (PySem.Value.type "list_iterator") none (PySem.Data.fields #[(PySem.Value.ref 63), (vi 73 0)]) #[])
def k761 (P : Params) : BT := .node (o65v760 P) .nil .nil
def k762 (P : Params) : BT := .node (o33v196 P) (k761 P) .nil
def k763 (P : Params) : BT := .node (o17v71 P) (k762 P) (k337 P)
def k764 (P : Params) : BT := .node (boot_o_9 P) (k763 P) (k394 P)
def k765 (P : Params) : BT := .node (boot_o_5 P) (k764 P) (k580 P)
def k766 (P : Params) : BT := .node (boot_o_1 P) (k573 P) (k765 P)
def k767 (P : Params) : BT := .node (o64v759 P) .nil .nil
def k768 (P : Params) : BT := .node (o32v172 P) (k767 P) .nil
def k769 (P : Params) : BT := .node (o16v42 P) (k768 P) (k342 P)
def k770 (P : Params) : BT := .node (boot_o_8 P) (k769 P) (k370 P)
def k771 (P : Params) : BT := .node (boot_o_4 P) (k770 P) (k560 P)
def k772 (P : Params) : BT := .node (boot_o_2 P) (k771 P) (k591 P)
def k773 (P : Params) : BT := .node (boot_o_0 P) (k766 P) (k772 P)
def S5Z0c12 (w : World) (os : OsState) : SharedT := ⟨(k773 w.params), 66, lif, #[], drw, 479, os⟩
def o64v774 (P : Params) : Obj := ⟨(PySem.Value.type "set"), none, .set (List.toArray ((ei 917505 304) :: (ei 917536 310) :: (ei 917537 311) :: (ei 917538 312) :: (ei 917539 313) :: (ei 917540 314) :: (ei 917541 315) :: (ei 917542 316) :: (ei 917543 317) :: (ei 917544 318) :: (ei 917545 319) :: (ei 917546 320) :: (ei 917547 321) :: (ei 917548 322) :: (ei 917549 323) :: (ei 917550 324) :: (ei 917551 325) :: (ei 917552 326) :: (ei 917553 327) :: (ei 917554 328) :: (ei 917555 329) :: (ei 917556 330) :: (ei 917557 331) :: (ei 917558 332) :: (ei 917559 333) :: (ei 917560 334) :: (ei 917561 335) :: (ei 917562 336) :: (ei 917563 337) :: (ei 917564 338) :: (ei 917565 339) :: (ei 917566 340) :: (ei 917567 341) :: (ei 917568 342) :: (ei 917569 343) :: (ei 917570 344) :: (ei 917571 345) :: (ei 917572 346) :: (ei 917573 347) :: (ei 917574 348) :: (ei 917575 349) :: (ei 917576 350) :: (ei 917577 351) :: (ei 917578 352) :: (ei 917579 353) :: (ei 917580 354) :: (ei 917581 355) :: (ei 917582 356) :: (ei 917583 357) :: (ei 917584 358) :: (ei 917585 359) :: (ei 917586 360) :: (ei 917587 361) :: (ei 917588 362) :: (ei 917589 363) :: (ei 917590 364) :: (ei 917591 365) :: (ei 917592 366) :: (ei 917593 367) :: (ei 917594 368) :: (ei 917595 369) :: (ei 917596 370) :: (ei 917597 371) :: (ei 917598 372) :: (ei 917599 373) :: (ei 917600 374) :: (ei 917601 375) :: (ei 917602 376) :: (ei 917603 377) :: (ei 917604 378) :: (ei 917605 379) :: (ei 917606 380) :: (ei 917607 381) :: (ei 917608 382) :: (ei 917609 383) :: (ei 917610 384) :: [])) 78 ⟨127, (List.toArray (1 :: 32 :: 33 :: 34 :: 35 :: 36 :: 37 :: 38 :: 39 :: 40 :: 41 :: 42 :: 43 :: 44 :: 45 :: 46 :: 47 :: 48 :: 49 :: 50 :: 51 :: 52 :: 53 :: 54 :: 55 :: 56 :: 57 :: 58 :: 59 :: 60 :: 61 :: 62 :: 63 :: 64 :: 65 :: 66 :: 67 :: 68 :: 69 :: 70 :: 71 :: 72 :: 73 :: 74 :: 75 :: 76 :: 77 :: 78 :: 79 :: 80 :: 81 :: 82 :: 83 :: 84 :: 85 :: 86 :: 87 :: 88 :: 89 :: 90 :: 91 :: 92 :: 93 :: 94 :: 95 :: 96 :: 97 :: 98 :: 99 :: 100 :: 101 :: 102 :: 103 :: 104 :: 105 :: 106 :: [])), #[], 0, (!P.followText "set-order"), 2, true⟩, #[]⟩
def o65v775 (P : Params) : Obj := (PySem.Obj.mk (PySem.Value.type "list_iterator") none (PySem.Data.fields #[(PySem.Value.ref 63), (vi 76 0)]) #[])
def k776 (P : Params) : BT := .node (o65v775 P) .nil .nil
def k777 (P : Params) : BT := .node (o33v196 P) (k776 P) .nil
def k778 (P : Params) : BT := .node (o17v71 P) (k777 P) (k337 P)
def k779 (P : Params) : BT := .node (boot_o_9 P) (k778 P) (k394 P)
def k780 (P : Params) : BT := .node (boot_o_5 P) (k779 P) (k580 P)
def k781 (P : Params) : BT := .node (boot_o_1 P) (k573 P) (k780 P)
def k782 (P : Params) : BT := .node (o64v774 P) .nil .nil
def k783 (P : Params) : BT := .node (o32v172 P) (k782 P) .nil
def k784 (P : Params) : BT := .node (o16v42 P) (k783 P) (k342 P)
def k785 (P : Params) : BT := .node (boot_o_8 P) (k784 P) (k370 P)
def k786 (P : Params) : BT := .node (boot_o_4 P) (k785 P) (k560 P)
def k787 (P : Params) : BT := .node (boot_o_2 P) (k786 P) (k591 P)
def k788 (P : Params) : BT := .node (boot_o_0 P) (k781 P) (k787 P)
def S5Z0c13 (w : World) (os : OsState) : SharedT := ⟨(k788 w.params), 66, lif, #[], drw, 482, os⟩
def o64v789 (P : Params) : Obj := ⟨(PySem.Value.type "set"), none, .set (List.toArray ((ei 917505 304) :: (ei 917536 310) :: (ei 917537 311) :: (ei 917538 312) :: (ei 917539 313) :: (ei 917540 314) :: (ei 917541 315) :: (ei 917542 316) :: (ei 917543 317) :: (ei 917544 318) :: (ei 917545 319) :: (ei 917546 320) :: (ei 917547 321) :: (ei 917548 322) :: (ei 917549 323) :: (ei 917550 324) :: (ei 917551 325) :: (ei 917552 326) :: (ei 917553 327) :: (ei 917554 328) :: (ei 917555 329) :: (ei 917556 330) :: (ei 917557 331) :: (ei 917558 332) :: (ei 917559 333) :: (ei 917560 334) :: (ei 917561 335) :: (ei 917562 336) :: (ei 917563 337) :: (ei 917564 338) :: (ei 917565 339) :: (ei 917566 340) :: (ei 917567 341) :: (ei 917568 342) :: (ei 917569 343) :: (ei 917570 344) :: (ei 917571 345) :: (ei 917572 346) :: (ei 917573 347) :: (ei 917574 348) :: (ei 917575 349) :: (ei 917576 350) :: (ei 917577 351) :: (ei 917578 352) :: (ei 917579 353) :: (ei 917580 354) :: (ei 917581 355) :: (ei 917582 356) :: (ei 917583 357) :: (ei 917584 358) :: (ei 917585 359) :: (ei 917586 360) :: (ei 917587 361) :: (ei 917588 362) :: (ei 917589 363) :: (ei 917590 364) :: (ei 917591 365) :: (ei 917592 366) :: (ei 917593 367) :: (ei 917594 368) :: (ei 917595 369) :: (ei 917596 370) :: (ei 917597 371) :: (ei 917598 372) :: (ei 917599 373) :: (ei 917600 374) :: (ei 917601 375) :: (ei 917602 376) :: (ei 917603 377) :: (ei 917604 378) :: (ei 917605 379) :: (ei 917606 380) :: (ei 917607 381) :: (ei 917608 382) :: (ei 917609 383) :: (ei 917610 384) :: (ei 917611 385) :: [])) 80 ⟨511, (List.toArray (1 :: 32 :: 33 :: 34 :: 35 :: 36 :: 37 :: 38 :: 39 :: 40 :: 41 :: 42 :: 43 :: 44 :: 45 :: 46 :: 47 :: 48 :: 49 :: 50 :: 51 :: 52 :: 53 :: 54 :: 55 :: 56 :: 57 :: 58 :: 59 :: 60 :: 61 :: 62 :: 63 :: 64 :: 65 :: 66 :: 67 :: 68 :: 69 :: 70 :: 71 :: 72 :: 73 :: 74 :: 75 :: 76 :: 77 :: 78 :: 79 :: 80 :: 81 :: 82 :: 83 :: 84 :: 85 :: 86 :: 87 :: 88 :: 89 :: 90 :: 91 :: 92 :: 93 :: 94 :: 95 :: 96 :: 97 :: 98 :: 99 :: 100 :: 101 :: 102 :: 103 :: 104 :: 105 :: 106 :: 107 :: [])), #[], 0, (!P.followText "set-order"), 3, true⟩, #[]⟩
def o65v790 (P : Params) : Obj := (PySem.Obj.mk (PySem.Value.type "list_iterator") none (PySem.Data.fields #[(PySem.Value.ref 63), (vi 77 0)]) #[])
def k791 (P : Params) : BT := .node (o65v790 P) .nil .nil
def k792 (P : Params) : BT := .node (o33v196 P) (k791 P) .nil
def k793 (P : Params) : BT := .node (o17v71 P) (k792 P) (k337 P)
def k794 (P : Params) : BT := .node (boot_o_9 P) (k793 P) (k394 P)
def k795 (P : Params) : BT := .node (boot_o_5 P) (k794 P) (k580 P)
def k796 (P : Params) : BT := .node (boot_o_1 P) (k573 P) (k795 P)
def k797 (P : Params) : BT := .node (o64v789 P) .nil .nil
def k798 (P : Params) : BT := .node (o32v172 P) (k797 P) .nil
def k799 (P : Params) : BT := .node (o16v42 P) (k798 P) (k342 P)
def k800 (P : Params) : BT := .node (boot_o_8 P) (k799 P) (k370 P)
def k801 (P : Params) : BT := .node (boot_o_4 P) (k800 P) (k560 P)
def k802 (P : Params) : BT := .node (boot_o_2 P) (k801 P) (k591 P)
def k803 (P : Params) : BT := .node (boot_o_0 P) (k796 P) (k802 P)
def S5Z0c14 (w : World) (os : OsState) : SharedT := ⟨(k803 w.params), 66, lif, #[], drw, 483, os⟩
def o64v804 (P : Params) : Obj := ⟨(PySem.Value.type "set"), none, .set (List.toArray ((ei 917505 304) :: (ei 917536 310) :: (ei 917537 311) :: (ei 917538 312) :: (ei 917539 313) :: (ei 917540 314) :: (ei 917541 315) :: (ei 917542 316) :: (ei 917543 317) :: (ei 917544 318) :: (ei 917545 319) :: (ei 917546 320) :: (ei 917547 321) :: (ei 917548 322) :: (ei 917549 323) :: (ei 917550 324) :: (ei 917551 325) :: (ei 917552 326) :: (ei 917553 327) :: (ei 917554 328) :: (ei 917555 329) :: (ei 917556 330) :: (ei 917557 331) :: (ei 917558 332) :: (ei 917559 333) :: (ei 917560 334) :: (ei 917561 335) :: (ei 917562 336) :: (ei 917563 337) :: (ei 917564 338) :: (ei 917565 339) :: (ei 917566 340) :: (ei 917567 341) :: (ei 917568 342) :: (ei 917569 343) :: (ei 917570 344) :: (ei 917571 345) :: (ei 917572 346) :: (ei 917573 347) :: (ei 917574 348) :: (ei 917575 349) :: (ei 917576 350) :: (ei 917577 351) :: (ei 917578 352) :: (ei 917579 353) :: (ei 917580 354) :: (ei 917581 355) :: (ei 917582 356) :: (ei 917583 357) :: (ei 917584 358) :: (ei 917585 359) :: (ei 917586 360) :: (ei 917587 361) :: (ei 917588 362) :: (ei 917589 363) :: (ei 917590 364) :: (ei 917591 365) :: (ei 917592 366) :: (ei 917593 367) :: (ei 917594 368) :: (ei 917595 369) :: (ei 917596 370) :: (ei 917597 371) :: (ei 917598 372) :: (ei 917599 373) :: (ei 917600 374) :: (ei 917601 375) :: (ei 917602 376) :: (ei 917603 377) :: (ei 917604 378) :: (ei 917605 379) :: (ei 917606 380) :: (ei 917607 381) :: (ei 917608 382) :: (ei 917609 383) :: (ei 917610 384) :: (ei 917611 385) :: (ei 917612 386) :: (ei 917613 387) :: (ei 917614 388) :: (ei 917615 389) :: [])) 84 ⟨511, (List.toArray (1 :: 32 :: 33 :: 34 :: 35 :: 36 :: 37 :: 38 :: 39 :: 40 :: 41 :: 42 :: 43 :: 44 :: 45 :: 46 :: 47 :: 48 :: 49 :: 50 :: 51 :: 52 :: 53 :: 54 :: 55 :: 56 :: 57 :: 58 :: 59 :: 60 :: 61 :: 62 :: 63 :: 64 :: 65 :: 66 :: 67 :: 68 :: 69 :: 70 :: 71 :: 72 :: 73 :: 74 :: 75 :: 76 :: 77 :: 78 :: 79 :: 80 :: 81 :: 82 :: 83 :: 84 :: 85 :: 86 :: 87 :: 88 :: 89 :: 90 :: 91 :: 92 :: 93 :: 94 :: 95 :: 96 :: 97 :: 98 :: 99 :: 100 :: 101 :: 102 :: 103 :: 104 :: 105 :: 106 :: 107 :: 108 :: 109 :: 110 :: 111 :: [])), #[], 0, (!P.followText "set-order"), 3, true⟩, #[]⟩
def o65v805 (P : Params) : Obj := (PySem.Obj.mk (PySem.Value.type "list_iterator") none (PySem.Data.fields #[(PySem.Value.ref 63), (vi 81 0)]) #[])
def k806 (P : Params) : BT := .node (o65v805 P) .nil .nil
def k807 (P : Params) : BT := .node (o33v196 P) (k806 P) .nil
def k808 (P : Params) : BT := .node (o17v71 P) (k807 P) (k337 P)
def k809 (P : Params) : BT := .node (boot_o_9 P) (k808 P) (k394 P)
def k810 (P : Params) : BT := .node (boot_o_5 P) (k809 P) (k580 P)
def k811 (P : Params) : BT := .node (boot_o_1 P) (k573 P) (k810 P)
def k812 (P : Params) : BT := .node (o64v804 P) .nil .nil
def k813 (P : Params) : BT := .node (o32v172 P) (k812 P) .nil
def k814 (P : Params) : BT := .node (o16v42 P) (k813 P) (k342 P)
def k815 (P : Params) : BT := .node (boot_o_8 P) (k814 P) (k370 P)
def k816 (P : Params) : BT := .node (boot_o_4 P) (k815 P) (k560 P)
def k817 (P : Params) : BT := .node (boot_o_2 P) (k816 P) (k591 P)
def k818 (P : Params) : BT := .node (boot_o_0 P) (k811 P) (k817 P)
def S5Z0c15 (w : World) (os : OsState) : SharedT := ⟨(k818 w.params), 66, lif, #[], drw, 487, os⟩
def o64v819 (P : Params) : Obj := ⟨(PySem.Value.type "set"), none, .set (List.toArray ((ei 917505 304) :: (ei 917536 310) :: (ei 917537 311) :: (ei 917538 312) :: (ei 917539 313) :: (ei 917540 314) :: (ei 917541 315) :: (ei 917542 316) :: (ei 917543 317) :: (ei 917544 318) :: (ei 917545 319) :: (ei 917546 320) :: (ei 917547 321) :: (ei 917548 322) :: (ei 917549 323) :: (ei 917550 324) :: (ei 917551 325) :: (ei 917552 326) :: (ei 917553 327) :: (ei 917554 328) :: (ei 917555 329) :: (ei 917556 330) :: (ei 917557 331) :: (ei 917558 332) :: (ei 917559 333) :: (ei 917560 334) :: (ei 917561 335) :: (ei 917562 336) :: (ei 917563 337) :: (ei 917564 338) :: (ei 917565 339) :: (ei 917566 340) :: (ei 917567 341) :: (ei 917568 342) :: (ei 917569 343) :: (ei 917570 344) :: (ei 917571 345) :: (ei 917572 346) :: (ei 917573 347) :: (ei 917574 348) :: (ei 917575 349) :: (ei 917576 350) :: (ei 917577 351) :: (ei 917578 352) :: (ei 917579 353) :: (ei 917580 354) :: (ei 917581 355) :: (ei 917582 356) :: (ei 917583 357) :: (ei 917584 358) :: (ei 917585 359) :: (ei 917586 360) :: (ei 917587 361) :: (ei 917588 362) :: (ei 917589 363) :: (ei 917590 364) :: (ei 917591 365) :: (ei 917592 366) :: (ei 917593 367) :: (ei 917594 368) :: (ei 917595 369) :: (ei 917596 370) :: (ei 917597 371) :: (ei 917598 372) :: (ei 917599 373) :: (ei 917600 374) :: (ei 917601 375) :: (ei 917602 376) :: (ei 917603 377) :: (ei 917604 378) :: (ei 917605 379) :: (ei 917606 380) :: (ei 917607 381) :: (ei 917608 382) :: (ei 917609 383) :: (ei 917610 384) :: (ei 917611 385) :: (ei 917612 386) :: (ei 917613 387) :: (ei 917614 388) :: (ei 917615 389) :: (ei 917616 390) :: (ei 917617 391) :: (ei 917618 392) :: (ei 917619 393) :: [])) 88 ⟨511, (List.toArray (1 :: 32 :: 33 :: 34 :: 35 :: 36 :: 37 :: 38 :: 39 :: 40 :: 41 :: 42 :: 43 :: 44 :: 45 :: 46 :: 47 :: 48 :: 49 :: 50 :: 51 :: 52 :: 53 :: 54 :: 55 :: 56 :: 57 :: 58 :: 59 :: 60 :: 61 :: 62 :: 63 :: 64 :: 65 :: 66 :: 67 :: 68 :: 69 :: 70 :: 71 :: 72 :: 73 :: 74 :: 75 :: 76 :: 77 :: 78 :: 79 :: 80 :: 81 :: 82 :: 83 :: 84 :: 85 :: 86 :: 87 :: 88 :: 89 :: 90 :: 91 :: 92 :: 93 :: 94 :: 95 :: 96 :: 97 :: 98 :: 99 :: 100 :: 101 :: 102 :: 103 :: 104 :: 105 :: 106 :: 107 :: 108 :: 109 :: 110 :: 111 :: 112 :: 113 :: 114 :: 115 :: [])), #[], 0, (!P.followText "set-order"), 3, true⟩, #[]⟩
def o65v820 (P : Params) : Obj := (PySem.Obj.mk (PySem.Value.type "list_iterator") none (PySem.Data.fields #[(PySem.Value.ref 63), (vi 85 0)]) #[])
def k821 (P : Params) : BT := .node (o65v820 P) .nil .nil
def k822 (P : Params) : BT := .node (o33v196 P) (k821 P) .nil
def k823 (P : Params) : BT := .node (o17v71 P) (k822 P) (k337 P)
def k824 (P : Params) : BT := .node (boot_o_9 P) (k823 P) (k394 P)
def k825 (P : Params) : BT := .node (boot_o_5 P) (k824 P) (k580 P)
def k826 (P : Params) : BT := .node (boot_o_1 P) (k573 P) (k825 P)
def k827 (P : Params) : BT := .node (o64v819 P) .nil .nil
def k828 (P : Params) : BT := .node (o32v172 P) (k827 P) .nil
def k829 (P : Params) : BT := .node (o16v42 P) (k828 P) (k342 P)
def k830 (P : Params) : BT := .node (boot_o_8 P) (k829 P) (k370 P)
def k831 (P : Params) : BT := .node (boot_o_4 P) (k830 P) (k560 P)
def k832 (P : Params) : BT := .node (boot_o_2 P) (k831 P) (k591 P)
def k833 (P : Params) : BT := .node (boot_o_0 P) (k826 P) (k832 P)
def S5Z0c16 (w : World) (os : OsState) : SharedT := ⟨(k833 w.params), 66, lif, #[], drw, 491, os⟩
def o64v834 (P : Params) : Obj := ⟨(PySem.Value.type "set"), none, .set (List.toArray ((ei 917505 304) :: (ei 917536 310) :: (ei 917537 311) :: (ei 917538 312) :: (ei 917539 313) :: (ei 917540 314) :: (ei 917541 315) :: (ei 917542 316) :: (ei 917543 317) :: (ei 917544 318) :: (ei 917545 319) :: (ei 917546 320) :: (ei 917547 321) :: (ei 917548 322) :: (ei 917549 323) :: (ei 917550 324) :: (ei 917551 325) :: (ei 917552 326) :: (ei 917553 327) :: (ei 917554 328) :: (ei 917555 329) :: (ei 917556 330) :: (ei 917557 331) :: (ei 917558 332) :: (ei 917559 333) :: (ei 917560 334) :: (ei 917561 335) :: (ei 917562 336) :: (ei 917563 337) :: (ei 917564 338) :: (ei 917565 339) :: (ei 917566 340) :: (ei 917567 341) :: (ei 917568 342) :: (ei 917569 343) :: (ei 917570 344) :: (ei 917571 345) :: (ei 917572 346) :: (ei 917573 347) :: (ei 917574 348) :: (ei 917575 349) :: (ei 917576 350) :: (ei 917577 351) :: (ei 917578 352) :: (ei 917579 353) :: (ei 917580 354) :: (ei 917581 355) :: (ei 917582 356) :: (ei 917583 357) :: (ei 917584 358) :: (ei 917585 359) :: (ei 917586 360) :: (ei 917587 361) :: (ei 917588 362) :: (ei 917589 363) :: (ei 917590 364) :: (ei 917591 365) :: (ei 917592 366) :: (ei 917593 367) :: (ei 917594 368) :: (ei 917595 369) :: (ei 917596 370) :: (ei 917597 371) :: (ei 917598 372) :: (ei 917599 373) :: (ei 917600 374) :: (ei 917601 375) :: (ei 917602 376) :: (ei 917603 377) :: (ei 917604 378) :: (ei 917605 379) :: (ei 917606 380) :: (ei 917607 381) :: (ei 917608 382) :: (ei 917609 383) :: (ei 917610 384) :: (ei 917611 385) :: (ei 917612 386) :: (ei 917613 387) :: (ei 917614 388) :: (ei 917615 389) :: (ei 917616 390) :: (ei 917617 391) :: (ei 917618 392) :: (ei 917619 393) :: (ei 917620 394) :: (ei 917621 395) :: (ei 917622 396) :: (ei 917623 397) :: [])) 92 ⟨511, (List.toArray (1 :: 32 :: 33 :: 34 :: 35 :: 36 :: 37 :: 38 :: 39 :: 40 :: 41 :: 42 :: 43 :: 44 :: 45 :: 46 :: 47 :: 48 :: 49 :: 50 :: 51 :: 52 :: 53 :: 54 :: 55 :: 56 :: 57 :: 58 :: 59 :: 60 :: 61 :: 62 :: 63 :: 64 :: 65 :: 66 :: 67 :: 68 :: 69 :: 70 :: 71 :: 72 :: 73 :: 74 :: 75 :: 76 :: 77 :: 78 :: 79 :: 80 :: 81 :: 82 :: 83 :: 84 :: 85 :: 86 :: 87 :: 88 :: 89 :: 90 :: 91 :: 92 :: 93 :: 94 :: 95 :: 96 :: 97 :: 98 :: 99 :: 100 :: 101 :: 102 :: 103 :: 104 :: 105 :: 106 :: 107 :: 108 :: 109 :: 110 :: 111 :: 112 :: 113 :: 114 :: 115 :: 116 :: 117 :: 118 :: 119 :: [])), #[], 0, (!P.followText "set-order"), 3, true⟩, #[]⟩
def o65v835 (P : Params) : Obj := (PySem.Obj.mk (PySem.Value.type "list_iterator") none (PySem.Data.fields #[(PySem.Value.ref 63), (vi 89 0)]) #[])
def k836 (P : Params) : BT := .node (o65v835 P) .nil .nil
def k837 (P : Params) : BT := .node (o33v196 P) (k836 P) .nil
def k838 (P : Params) : BT := .node (o17v71 P) (k837 P) (k337 P)
def k839 (P : Params) : BT := .node (boot_o_9 P) (k838 P) (k394 P)
def k840 (P : Params) : BT := .node (boot_o_5 P) (k839 P) (k580 P)
def k841 (P : Params) : BT := .node (boot_o_1 P) (k573 P) (k840 P)
def k842 (P : Params) : BT := .node (o64v834 P) .nil .nil
def k843 (P : Params) : BT := .node (o32v172 P) (k842 P) .nil
def k844 (P : Params) : BT := .node (o16v42 P) (k843 P) (k342 P)
def k845 (P : Params) : BT := .node (boot_o_8 P) (k844 P) (k370 P)
def k846 (P : Params) : BT := .node (boot_o_4 P) (k845 P) (k560 P)
def k847 (P : Params) : BT := .node (boot_o_2 P) (k846 P) (k591 P)
def k848 (P : Params) : BT := .node (boot_o_0 P) (k841 P) (k847 P)
def S5Z0c17 (w : World) (os : OsState) : SharedT := ⟨(k848 w.params), 66, lif, #[], drw, 495, os⟩
def o64v849 (P : Params) : Obj := ⟨(PySem.Value.type "set"), none, .set (List.toArray ((ei 917505 304) :: (ei 917536 310) :: (ei 917537 311) :: (ei 917538 312) :: (ei 917539 313) :: (ei 917540 314) :: (ei 917541 315) :: (ei 917542 316) :: (ei 917543 317) :: (ei 917544 318) :: (ei 917545 319) :: (ei 917546 320) :: (ei 917547 321) :: (ei 917548 322) :: (ei 917549 323) :: (ei 917550 324) :: (ei 917551 325) :: (ei 917552 326) :: (ei 917553 327) :: (ei 917554 328) :: (ei 917555 329) :: (ei 917556 330) :: (ei 917557 331) :: (ei 917558 332) :: (ei 917559 333) :: (ei 917560 334) :: (ei 917561 335) :: (ei 917562 336) :: (ei 917563 337) :: (ei 917564 338) :: (ei 917565 339) :: (ei 917566 340) :: (ei 917567 341) :: (ei 917568 342) :: (ei 917569 343) :: (ei 917570 344) :: (ei 917571 345) :: (ei 917572 346) :: (ei 917573 347) :: (ei 917574 348) :: (ei 917575 349) :: (ei 917576 350) :: (ei 917577 351) :: (ei 917578 352) :: (ei 917579 353) :: (ei 917580 354) :: (ei 917581 355) :: (ei 917582 356) :: (ei 917583 357) :: (ei 917584 358) :: (ei 917585 359) :: (ei 917586 360) :: (ei 917587 361) :: (ei 917588 362) :: (ei 917589 363) :: (ei 917590 364) :: (ei 917591 365) :: (ei 917592 366) :: (ei 917593 367) :: (ei 917594 368) :: (ei 917595 369) :: (ei 917596 370) :: (ei 917597 371) :: (ei 917598 372) :: (ei 917599 373) :: (ei 917600 374) :: (ei 917601 375) :: (ei 917602 376) :: (ei 917603 377) :: (ei 917604 378) :: (ei 917605 379) :: (ei 917606 380) :: (ei 917607 381) :: (ei 917608 382) :: (ei 917609 383) :: (ei 917610 384) :: (ei 917611 385) :: (ei 917612 386) :: (ei 917613 387) :: (ei 917614 388) :: (ei 917615 389) :: (ei 917616 390) :: (ei 917617 391) :: (ei 917618 392) :: (ei 917619 393) :: (ei 917620 394) :: (ei 917621 395) :: (ei 917622 396) :: (ei 917623 397) :: (ei 917624 398) :: (ei 917625 399) :: (ei 917626 400) :: (ei 917627 401) :: [])) 96 ⟨511, (List.toArray (1 :: 32 :: 33 :: 34 :: 35 :: 36 :: 37 :: 38 :: 39 :: 40 :: 41 :: 42 :: 43 :: 44 :: 45 :: 46 :: 47 :: 48 :: 49 :: 50 :: 51 :: 52 :: 53 :: 54 :: 55 :: 56 :: 57 :: 58 :: 59 :: 60 :: 61 :: 62 :: 63 :: 64 :: 65 :: 66 :: 67 :: 68 :: 69 :: 70 :: 71 :: 72 :: 73 :: 74 :: 75 :: 76 :: 77 :: 78 :: 79 :: 80 :: 81 :: 82 :: 83 :: 84 :: 85 :: 86 :: 87 :: 88 :: 89 :: 90 :: 91 :: 92 :: 93 :: 94 :: 95 :: 96 :: 97 :: 98 :: 99 :: 100 :: 101 :: 102 :: 103 :: 104 :: 105 :: 106 :: 107 :: 108 :: 109 :: 110 :: 111 :: 112 :: 113 :: 114 :: 115 :: 116 :: 117 :: 118 :: 119 :: 120 :: 121 :: 122 :: 123 :: [])), #[], 0, (!P.followText "set-order"), 3, true⟩, #[]⟩
def o65v850 (P : Params) : Obj := (PySem.Obj.mk (PySem.Value.type "list_iterator") none (PySem.Data.fields #[(PySem.Value.ref 63), (vi 93 0)]) #[])
def k851 (P : Params) : BT := .node (o65v850 P) .nil .nil
def k852 (P : Params) : BT := .node (o33v196 P) (k851 P) .nil
def k853 (P : Params) : BT := .node (o17v71 P) (k852 P) (k337 P)
def k854 (P : Params) : BT := .node (boot_o_9 P) (k853 P) (k394 P)
def k855 (P : Params) : BT := .node (boot_o_5 P) (k854 P) (k580 P)
def k856 (P : Params) : BT := .node (boot_o_1 P) (k573 P) (k855 P)
def k857 (P : Params) : BT := .node (o64v849 P) .nil .nil
def k858 (P : Params) : BT := .node (o32v172 P) (k857 P) .nil
def k859 (P : Params) : BT := .node (o16v42 P) (k858 P) (k342 P)
def k860 (P : Params) : BT := .node (boot_o_8 P) (k859 P) (k370 P)
def k861 (P : Params) : BT := .node (boot_o_4 P) (k860 P) (k560 P)
def k862 (P : Params) : BT := .node (boot_o_2 P) (k861 P) (k591 P)
def k863 (P : Params) : BT := .node (boot_o_0 P) (k856 P) (k862 P)
def S5Z0c18 (w : World) (os : OsState) : SharedT := ⟨(k863 w.params), 66, lif, #[], drw, 499, os⟩
@[reducible] def o64v864 (P : Params) : Obj := ⟨(PySem.Value.type "set"), none, .set (List.toArray ((ei 917505 304) :: (ei 917536 310) :: (ei 917537 311) :: (ei 917538 312) :: (ei 917539 313) :: (ei 917540 314) :: (ei 917541 315) :: (ei 917542 316) :: (ei 917543 317) :: (ei 917544 318) :: (ei 917545 319) :: (ei 917546 320) :: (ei 917547 321) :: (ei 917548 322) :: (ei 917549 323) :: (ei 917550 324) :: (ei 917551 325) :: (ei 917552 326) :: (ei 917553 327) :: (ei 917554 328) :: (ei 917555 329) :: (ei 917556 330) :: (ei 917557 331) :: (ei 917558 332) :: (ei 917559 333) :: (ei 917560 334) :: (ei 917561 335) :: (ei 917562 336) :: (ei 917563 337) :: (ei 917564 338) :: (ei 917565 339) :: (ei 917566 340) :: (ei 917567 341) :: (ei 917568 342) :: (ei 917569 343) :: (ei 917570 344) :: (ei 917571 345) :: (ei 917572 346) :: (ei 917573 347) :: (ei 917574 348) :: (ei 917575 349) :: (ei 917576 350) :: (ei 917577 351) :: (ei 917578 352) :: (ei 917579 353) :: (ei 917580 354) :: (ei 917581 355) :: (ei 917582 356) :: (ei 917583 357) :: (ei 917584 358) :: (ei 917585 359) :: (ei 917586 360) :: (ei 917587 361) :: (ei 917588 362) :: (ei 917589 363) :: (ei 917590 364) :: (ei 917591 365) :: (ei 917592 366) :: (ei 917593 367) :: (ei 917594 368) :: (ei 917595 369) :: (ei 917596 370) :: (ei 917597 371) :: (ei 917598 372) :: (ei 917599 373) :: (ei 917600 374) :: (ei 917601 375) :: (ei 917602 376) :: (ei 917603 377) :: (ei 917604 378) :: (ei 917605 379) :: (ei 917606 380) :: (ei 917607 381) :: (ei 917608 382) :: (ei 917609 383) :: (ei 917610 384) :: (ei 917611 385) :: (ei 917612 386) :: (ei 917613 387) :: (ei 917614 388) :: (ei 917615 389) :: (ei 917616 390) :: (ei 917617 391) :: (ei 917618 392) :: (ei 917619 393) :: (ei 917620 394) :: (ei 917621 395) :: (ei 917622 396) :: (ei 917623 397) :: (ei 917624 398) :: (ei 917625 399) :: (ei 917626 400) :: (ei 917627 401) :: (ei 917628 402) :: (ei 917629 403) :: (ei 917630 404) :: (ei 917631 405) :: [])) 100 ⟨511, (List.toArray (1 :: 32 :: 33 :: 34 :: 35 :: 36 :: 37 :: 38 :: 39 :: 40 :: 41 :: 42 :: 43 :: 44 :: 45 :: 46 :: 47 :: 48 :: 49 :: 50 :: 51 :: 52 :: 53 :: 54 :: 55 :: 56 :: 57 :: 58 :: 59 :: 60 :: 61 :: 62 :: 63 :: 64 :: 65 :: 66 :: 67 :: 68 :: 69 :: 70 :: 71 :: 72 :: 73 :: 74 :: 75 :: 76 :: 77 :: 78 :: 79 :: 80 :: 81 :: 82 :: 83 :: 84 :: 85 :: 86 :: 87 :: 88 :: 89 :: 90 :: 91 :: 92 :: 93 :: 94 :: 95 :: 96 :: 97 :: 98 :: 99 :: 100 :: 101 :: 102 :: 103 :: 104 :: 105 :: 106 :: 107 :: 108 :: 109 :: 110 :: 111 :: 112 :: 113 :: 114 :: 115 :: 116 :: 117 :: 118 :: 119 :: 120 :: 121 :: 122 :: 123 :: 124 :: 125 :: 126 :: 127 :: [])), #[], 0, (!P.followText "set-order"), 3, true⟩, #[]⟩
def o65v865 (P : Params) : Obj := (PySem.Obj.mk (PySem.Value.type "list_iterator") none (PySem.Data.fields #[(PySem.Value.ref 63), (vi 97 0)]) #[])
def k866 (P : Params) : BT := .node (o65v865 P) .nil .nil
def k867 (P : Params) : BT := .node (o33v196 P) (k866 P) .nil
def k868 (P : Params) : BT := .node (o17v71 P) (k867 P) (k337 P)
def k869 (P : Params) : BT := .node (boot_o_9 P) (k868 P) (k394 P)
def k870 (P : Params) : BT := .node (boot_o_5 P) (k869 P) (k580 P)
def k871 (P : Params) : BT := .node (boot_o_1 P) (k573 P) (k870 P)
def k872 (P : Params) : BT := .node (o64v864 P) .nil .nil
def k873 (P : Params) : BT := .node (o32v172 P) (k872 P) .nil
def k874 (P : Params) : BT := .node (o16v42 P) (k873 P) (k342 P)
def k875 (P : Params) : BT := .node (boot_o_8 P) (k874 P) (k370 P)
def k876 (P : Params) : BT := .node (boot_o_4 P) (k875 P) (k560 P)
def k877 (P : Params) : BT := .node (boot_o_2 P) (k876 P) (k591 P)
def k878 (P : Params) : BT := .node (boot_o_0 P) (k871 P) (k877 P)
def S5Z0c19 (w : World) (os : OsState) : SharedT := ⟨(k878 w.params), 66, lif, #[], drw, 503, os⟩
def k879 (P : Params) : BT := .node (boot_o_5 P) (k395 P) (k580 P)
def k880 (P : Params) : BT := .node (boot_o_1 P) (k573 P) (k879 P)
def k881 (P : Params) : BT := .node (boot_o_2 P) (k561 P) (k591 P)
def k882 (P : Params) : BT := .node (boot_o_0 P) (k880 P) (k881 P)
def S5M (w : World) (os : OsState) : SharedT := ⟨(k882 w.params), 64, lif, #[], drw, 406, os⟩
def pos6 : Pos := (PySem.Pos.mk 8 0 8 6)
def o3v883 (P : Params) : Obj := (PySem.Obj.mk (PySem.Value.type "dict") none (PySem.Data.dict #[(PySem.DictEntry.mk (PySem.PyData.keyHash P (PySem.Str.ofString "__name__")) (PySem.Value.str (PySem.Str.ofString "__name__") 165) (PySem.Value.str (PySem.Str.ofString "cpy313.stringprep") 187)), (PySem.DictEntry.mk (PySem.PyData.keyHash P (PySem.Str.ofString "__doc__")) (PySem.Value.str (PySem.Str.ofString "__doc__") 166) PySem.Value.none), (PySem.DictEntry.mk (PySem.PyData.keyHash P (PySem.Str.ofString "__package__")) (PySem.Value.str (PySem.Str.ofString "__package__") 167) PySem.Value.none), (PySem.DictEntry.mk (PySem.PyData.keyHash P (PySem.Str.ofString "__loader__")) (PySem.Value.str (PySem.Str.ofString "__loader__") 168) (PySem.Value.builtin "__main__.__loader__#opaque")), (PySem.DictEntry.mk (PySem.PyData.keyHash P (PySem.Str.ofString "__spec__")) (PySem.Value.str (PySem.Str.ofString "__spec__") 169) PySem.Value.none), (PySem.DictEntry.mk (PySem.PyData.keyHash P (PySem.Str.ofString "__annotations__")) (PySem.Value.str (PySem.Str.ofString "__annotations__") 170) (PySem.Value.ref 6)), (PySem.DictEntry.mk (PySem.PyData.keyHash P (PySem.Str.ofString "__builtins__")) (PySem.Value.str (PySem.Str.ofString "__builtins__") 171) (PySem.Value.ref 4)), (PySem.DictEntry.mk (PySem.PyData.keyHash P (PySem.Str.ofString "__file__")) (PySem.Value.str (PySem.Str.ofString "__file__") 173) (PySem.Value.str (PySem.Str.ofString "/claim/cut.py") 172)), (PySem.DictEntry.mk (PySem.PyData.keyHash P (PySem.Str.ofString "__cached__")) (PySem.Value.str (PySem.Str.ofString "__cached__") 174) PySem.Value.none), (PySem.DictEntry.mk (PySem.PyData.keyHash P (PySem.Str.ofString "b1_set")) (PySem.Value.str (PySem.Str.ofString "b1_set") 248) (PySem.Value.ref 22)), (PySem.DictEntry.mk (PySem.PyData.keyHash P (PySem.Str.ofString "in_table_b1")) (PySem.Value.str (PySem.Str.ofString "in_table_b1") 255) (PySem.Value.ref 32)), (PySem.DictEntry.mk (PySem.PyData.keyHash P (PySem.Str.ofString "c8_set")) (PySem.Value.str (PySem.Str.ofString "c8_set") 296) (PySem.Value.ref 46)), (PySem.DictEntry.mk (PySem.PyData.keyHash P (PySem.Str.ofString "in_table_c8")) (PySem.Value.str (PySem.Str.ofString "in_table_c8") 303) (PySem.Value.ref 56)), (PySem.DictEntry.mk (PySem.PyData.keyHash P (PySem.Str.ofString "c9_set")) (PySem.Value.str (PySem.Str.ofString "c9_set") 503) (PySem.Value.ref 64))] 14) #[])
def o65v884 (P : Params) : Obj := (PySem.Obj.mk (PySem.Value.type "list_iterator") none (PySem.Data.fields #[PySem.Value.none, (vi 97 0)]) #[])
def o66v885 (P : Params) : Obj := (PySem.Obj.mk (PySem.Value.type "tuple") none (PySem.Data.seq #[] 0) #[])
def o67v886 (P : Params) : Obj := (PySem.Obj.mk (PySem.Value.type "StopIteration") none (PySem.Data.fields #[(PySem.Value.ref 66), PySem.Value.none, PySem.Value.none, PySem.Value.none, (PySem.Value.bool Bool.false), PySem.Value.none]) #[])
def k887 (P : Params) : BT := .node (o67v886 P) .nil .nil
def k888 (P : Params) : BT := .node (o35v219 P) (k887 P) .nil
def k889 (P : Params) : BT := .node (o19v82 P) (k888 P) (k360 P)
def k890 (P : Params) : BT := .node (o11v22 P) (k889 P) (k554 P)
def k891 (P : Params) : BT := .node (o3v883 P) (k572 P) (k890 P)
def k892 (P : Params) : BT := .node (o65v884 P) .nil .nil
def k893 (P : Params) : BT := .node (o33v196 P) (k892 P) .nil
def k894 (P : Params) : BT := .node (o17v71 P) (k893 P) (k337 P)
def k895 (P : Params) : BT := .node (boot_o_9 P) (k894 P) (k394 P)
def k896 (P : Params) : BT := .node (boot_o_5 P) (k895 P) (k580 P)
def k897 (P : Params) : BT := .node (boot_o_1 P) (k891 P) (k896 P)
def k898 (P : Params) : BT := .node (o66v885 P) .nil .nil
def k899 (P : Params) : BT := .node (o34v197 P) (k898 P) .nil
def k900 (P : Params) : BT := .node (o18v72 P) (k899 P) (k376 P)
def k901 (P : Params) : BT := .node (boot_o_10 P) (k900 P) (k403 P)
def k902 (P : Params) : BT := .node (boot_o_6 P) (k901 P) (k590 P)
def k903 (P : Params) : BT := .node (boot_o_2 P) (k876 P) (k902 P)
def k904 (P : Params) : BT := .node (boot_o_0 P) (k897 P) (k903 P)
def S6 (w : World) (os : OsState) : SharedT := ⟨(k904 w.params), 68, lif, #[], drw, 504, os⟩
def pos7 : Pos := (PySem.Pos.mk 9 0 10 30)
def pos8 : Pos := (PySem.Pos.mk 11 0 11 8)
def pos9 : Pos := (PySem.Pos.mk 12 0 16 16)
def pos10 : Pos := (PySem.Pos.mk 17 0 18 32)
def pos11 : Pos := (PySem.Pos.mk 19 0 23 28)
def pos12 : Pos := (PySem.Pos.mk 24 0 28 29)
def pos13 : Pos := (PySem.Pos.mk 29 0 39 14)
def o3v905 (P : Params) : Obj := (PySem.Obj.mk (PySem.Value.type "dict") none (PySem.Data.dict #[(PySem.DictEntry.mk (PySem.PyData.keyHash P (PySem.Str.ofString "__name__")) (PySem.Value.str (PySem.Str.ofString "__name__") 165) (PySem.Value.str (PySem.Str.ofString "cpy313.curses.ascii") 511)), (PySem.DictEntry.mk (PySem.PyData.keyHash P (PySem.Str.ofString "__doc__")) (PySem.Value.str (PySem.Str.ofString "__doc__") 166) PySem.Value.none), (PySem.DictEntry.mk (PySem.PyData.keyHash P (PySem.Str.ofString "__package__")) (PySem.Value.str (PySem.Str.ofString "__package__") 167) PySem.Value.none), (PySem.DictEntry.mk (PySem.PyData.keyHash P (PySem.Str.ofString "__loader__")) (PySem.Value.str (PySem.Str.ofString "__loader__") 168) (PySem.Value.builtin "__main__.__loader__#opaque")), (PySem.DictEntry.mk (PySem.PyData.keyHash P (PySem.Str.ofString "__spec__")) (PySem.Value.str (PySem.Str.ofString "__spec__") 169) PySem.Value.none), (PySem.DictEntry.mk (PySem.PyData.keyHash P (PySem.Str.ofString "__annotations__")) (PySem.Value.str (PySem.Str.ofString "__annotations__") 170) (PySem.Value.ref 6)), (PySem.DictEntry.mk (PySem.PyData.keyHash P (PySem.Str.ofString "__builtins__")) (PySem.Value.str (PySem.Str.ofString "__builtins__") 171) (PySem.Value.ref 4)), (PySem.DictEntry.mk (PySem.PyData.keyHash P (PySem.Str.ofString "__file__")) (PySem.Value.str (PySem.Str.ofString "__file__") 173) (PySem.Value.str (PySem.Str.ofString "/claim/cut.py") 172)), (PySem.DictEntry.mk (PySem.PyData.keyHash P (PySem.Str.ofString "__cached__")) (PySem.Value.str (PySem.Str.ofString "__cached__") 174) PySem.Value.none), (PySem.DictEntry.mk (PySem.PyData.keyHash P (PySem.Str.ofString "b1_set")) (PySem.Value.str (PySem.Str.ofString "b1_set") 248) (PySem.Value.ref 22)), (PySem.DictEntry.mk (PySem.PyData.keyHash P (PySem.Str.ofString "in_table_b1")) (PySem.Value.str (PySem.Str.ofString "in_table_b1") 255) (PySem.Value.ref 32)), (PySem.DictEntry.mk (PySem.PyData.keyHash P (PySem.Str.ofString "c8_set")) (PySem.Value.str (PySem.Str.ofString "c8_set") 296) (PySem.Value.ref 46)), (PySem.DictEntry.mk (PySem.PyData.keyHash P (PySem.Str.ofString "in_table_c8")) (PySem.Value.str (PySem.Str.ofString "in_table_c8") 303) (PySem.Value.ref 56)), (PySem.DictEntry.mk (PySem.PyData.keyHash P (PySem.Str.ofString "c9_set")) (PySem.Value.str (PySem.Str.ofString "c9_set") 503) (PySem.Value.ref 64)), (PySem.DictEntry.mk (PySem.PyData.keyHash P (PySem.Str.ofString "in_table_c9")) (PySem.Value.str (PySem.Str.ofString "in_table_c9") 510) (PySem.Value.ref 74)), (PySem.DictEntry.mk (PySem.PyData.keyHash P (PySem.Str.ofString "_ctoi")) (PySem.Value.str (PySem.Str.ofString "_ctoi") 519) (PySem.Value.ref 81)), (PySem.DictEntry.mk (PySem.PyData.keyHash P (PySem.Str.ofString "isprint")) (PySem.Value.str (PySem.Str.ofString "isprint") 526) (PySem.Value.ref 88)), (PySem.DictEntry.mk (PySem.PyData.keyHash P (PySem.Str.ofString "ctrl")) (PySem.Value.str (PySem.Str.ofString "ctrl") 533) (PySem.Value.ref 95)), (PySem.DictEntry.mk (PySem.PyData.keyHash P (PySem.Str.ofString "alt")) (PySem.Value.str (PySem.Str.ofString "alt") 540) (PySem.Value.ref 102)), (PySem.DictEntry.mk (PySem.PyData.keyHash P (PySem.Str.ofString "unctrl")) (PySem.Value.str (PySem.Str.ofString "unctrl") 549) (PySem.Value.ref 109))] 20) #[])
def o12v906 (P : Params) : Obj := (PySem.Obj.mk PySem.Value.none none (PySem.Data.fields #[(vi 3 0), (vi 0 0), (PySem.Value.ref 31), (vi 6 0), (vi 0 0), (PySem.Value.ref 55), (vi 9 0), (vi 0 0), (PySem.Value.ref 73), (vi 12 0), (vi 0 0), (PySem.Value.ref 80), (vi 17 0), (vi 0 0), (PySem.Value.ref 87), (vi 19 0), (vi 0 0), (PySem.Value.ref 94), (vi 24 0), (vi 0 0), (PySem.Value.ref 101), (vi 29 0), (vi 0 0), (PySem.Value.ref 108)]) #[])
@[reducible] def o68v907 (P : Params) : Obj := (PySem.Obj.mk (PySem.Value.type "tuple") none (PySem.Data.seq #[] 0) #[])
def o69v908 (P : Params) : Obj := (PySem.Obj.mk PySem.Value.none none (PySem.Data.fields #[]) #[])
@[reducible] def o70v909 (P : Params) : Obj := (PySem.Obj.mk (PySem.Value.type "tuple") none (PySem.Data.seq #[(PySem.Value.str (PySem.Str.ofString "code") 507)] 0) #[])
@[reducible] def o71v910 (P : Params) : Obj := (PySem.Obj.mk (PySem.Value.type "tuple") none (PySem.Data.seq #[] 0) #[])
def o72v911 (P : Params) : Obj := ⟨PySem.Value.none, none, .func (mkF 6 rfl 0 0 (PySem.Str.ofString "in_table_c9") (PySem.Str.ofString "in_table_c9") PySem.Value.none PySem.Value.none PySem.Value.none PySem.Value.none none PySem.Value.none PySem.Value.none), #[]⟩
@[reducible] def o73v912 (P : Params) : Obj := (PySem.Obj.mk (PySem.Value.type "code") none (PySem.Data.fields #[(PySem.Value.str (PySem.Str.ofString "in_table_c9") 504), (PySem.Value.str (PySem.Str.ofString "in_table_c9") 505), (PySem.Value.str (PySem.Str.ofString "/claim/cut.py") 506), (vi 9 0), (vi 1 0), (vi 0 0), (vi 0 0), (vi 3 0), (PySem.Value.ref 68), (PySem.Value.bool Bool.true), (vi 181 0), (PySem.Value.ref 69), PySem.Value.none, (PySem.Value.ref 70), (PySem.Value.ref 71), (PySem.Value.ref 72), (vi 508 0), (vi 9 0), (PySem.Value.str (PySem.Str.ofString "/claim/cut.py") 509)]) #[])
@[reducible] def o74v913 (P : Params) : Obj := ⟨(PySem.Value.type "function"), none, .func (mkF 6 rfl 3 0 (PySem.Str.ofString "in_table_c9") (PySem.Str.ofString "in_table_c9") PySem.Value.none PySem.Value.none PySem.Value.none (PySem.Value.str (PySem.Str.ofString "cpy313.stringprep") 187) none (PySem.Value.ref 73) PySem.Value.none), #[]⟩
@[reducible] def o75v914 (P : Params) : Obj := (PySem.Obj.mk (PySem.Value.type "tuple") none (PySem.Data.seq #[] 0) #[])
def o76v915 (P : Params) : Obj := (PySem.Obj.mk PySem.Value.none none (PySem.Data.fields #[]) #[])
@[reducible] def o77v916 (P : Params) : Obj := (PySem.Obj.mk (PySem.Value.type "tuple") none (PySem.Data.seq #[(PySem.Value.str (PySem.Str.ofString "c") 516)] 0) #[])
@[reducible] def o78v917 (P : Params) : Obj := (PySem.Obj.mk (PySem.Value.type "tuple") none (PySem.Data.seq #[] 0) #[])
def o79v918 (P : Params) : Obj := ⟨PySem.Value.none, none, .func (mkF 8 rfl 0 0 (PySem.Str.ofString "_ctoi") (PySem.Str.ofString "_ctoi") PySem.Value.none PySem.Value.none PySem.Value.none PySem.Value.none none PySem.Value.none PySem.Value.none), #[]⟩
@[reducible] def o80v919 (P : Params) : Obj := (PySem.Obj.mk (PySem.Value.type "code") none (PySem.Data.fields #[(PySem.Value.str (PySem.Str.ofString "_ctoi") 513), (PySem.Value.str (PySem.Str.ofString "_ctoi") 514), (PySem.Value.str (PySem.Str.ofString "/claim/cut.py") 515), (vi 12 0), (vi 1 0), (vi 0 0), (vi 0 0), (vi 3 0), (PySem.Value.ref 75), (PySem.Value.bool Bool.true), (vi 181 0), (PySem.Value.ref 76), PySem.Value.none, (PySem.Value.ref 77), (PySem.Value.ref 78), (PySem.Value.ref 79), (vi 517 0), (vi 12 0), (PySem.Value.str (PySem.Str.ofString "/claim/cut.py") 518)]) #[])
@[reducible] def o81v920 (P : Params) : Obj := ⟨(PySem.Value.type "function"), none, .func (mkF 8 rfl 3 0 (PySem.Str.ofString "_ctoi") (PySem.Str.ofString "_ctoi") PySem.Value.none PySem.Value.none PySem.Value.none (PySem.Value.str (PySem.Str.ofString "cpy313.curses.ascii") 511) none (PySem.Value.ref 80) PySem.Value.none), #[]⟩
@[reducible] def o82v921 (P : Params) : Obj := (PySem.Obj.mk (PySem.Value.type "tuple") none (PySem.Data.seq #[] 0) #[])
def o83v922 (P : Params) : Obj := (PySem.Obj.mk PySem.Value.none none (PySem.Data.fields #[]) #[])
@[reducible] def o84v923 (P : Params) : Obj := (PySem.Obj.mk (PySem.Value.type "tuple") none (PySem.Data.seq #[(PySem.Value.str (PySem.Str.ofString "c") 523)] 0) #[])
@[reducible] def o85v924 (P : Params) : Obj := (PySem.Obj.mk (PySem.Value.type "tuple") none (PySem.Data.seq #[] 0) #[])
def o86v925 (P : Params) : Obj := ⟨PySem.Value.none, none, .func (mkF 9 rfl 0 0 (PySem.Str.ofString "isprint") (PySem.Str.ofString "isprint") PySem.Value.none PySem.Value.none PySem.Value.none PySem.Value.none none PySem.Value.none PySem.Value.none), #[]⟩
@[reducible] def o87v926 (P : Params) : Obj := (PySem.Obj.mk (PySem.Value.type "code") none (PySem.Data.fields #[(PySem.Value.str (PySem.Str.ofString "isprint") 520), (PySem.Value.str (PySem.Str.ofString "isprint") 521), (PySem.Value.str (PySem.Str.ofString "/claim/cut.py") 522), (vi 17 0), (vi 1 0), (vi 0 0), (vi 0 0), (vi 3 0), (PySem.Value.ref 82), (PySem.Value.bool Bool.true), (vi 181 0), (PySem.Value.ref 83), PySem.Value.none, (PySem.Value.ref 84), (PySem.Value.ref 85), (PySem.Value.ref 86), (vi 524 0), (vi 17 0), (PySem.Value.str (PySem.Str.ofString "/claim/cut.py") 525)]) #[])
@[reducible] def o88v927 (P : Params) : Obj := ⟨(PySem.Value.type "function"), none, .func (mkF 9 rfl 3 0 (PySem.Str.ofString "isprint") (PySem.Str.ofString "isprint") PySem.Value.none PySem.Value.none PySem.Value.none (PySem.Value.str (PySem.Str.ofString "cpy313.curses.ascii") 511) none (PySem.Value.ref 87) PySem.Value.none), #[]⟩
@[reducible] def o89v928 (P : Params) : Obj := (PySem.Obj.mk (PySem.Value.type "tuple") none (PySem.Data.seq #[] 0) #[])
def o90v929 (P : Params) : Obj := (PySem.Obj.mk PySem.Value.none none (PySem.Data.fields #[]) #[])
@[reducible] def o91v930 (P : Params) : Obj := (PySem.Obj.mk (PySem.Value.type "tuple") none (PySem.Data.seq #[(PySem.Value.str (PySem.Str.ofString "c") 530)] 0) #[])
@[reducible] def o92v931 (P : Params) : Obj := (PySem.Obj.mk (PySem.Value.type "tuple") none (PySem.Data.seq #[] 0) #[])
def o93v932 (P : Params) : Obj := ⟨PySem.Value.none, none, .func (mkF 10 rfl 0 0 (PySem.Str.ofString "ctrl") (PySem.Str.ofString "ctrl") PySem.Value.none PySem.Value.none PySem.Value.none PySem.Value.none none PySem.Value.none PySem.Value.none), #[]⟩
@[reducible] def o94v933 (P : Params) : Obj := (PySem.Obj.mk (PySem.Value.type "code") none (PySem.Data.fields #[(PySem.Value.str (PySem.Str.ofString "ctrl") 527), (PySem.Value.str (PySem.Str.ofString "ctrl") 528), (PySem.Value.str (PySem.Str.ofString "/claim/cut.py") 529), (vi 19 0), (vi 1 0), (vi 0 0), (vi 0 0), (vi 3 0), (PySem.Value.ref 89), (PySem.Value.bool Bool.true), (vi 181 0), (PySem.Value.ref 90), PySem.Value.none, (PySem.Value.ref 91), (PySem.Value.ref 92), (PySem.Value.ref 93), (vi 531 0), (vi 19 0), (PySem.Value.str (PySem.Str.ofString "/claim/cut.py") 532)]) #[])
@[reducible] def o95v934 (P : Params) : Obj := ⟨(PySem.Value.type "function"), none, .func (mkF 10 rfl 3 0 (PySem.Str.ofString "ctrl") (PySem.Str.ofString "ctrl") PySem.Value.none PySem.Value.none PySem.Value.none (PySem.Value.str (PySem.Str.ofString "cpy313.curses.ascii") 511) none (PySem.Value.ref 94) PySem.Value.none), #[]⟩
@[reducible] def o96v935 (P : Params) : Obj := (PySem.Obj.mk (PySem.Value.type "tuple") none (PySem.Data.seq #[] 0) #[])
def o97v936 (P : Params) : Obj := (PySem.Obj.mk PySem.Value.none none (PySem.Data.fields #[]) #[])
@[reducible] def o98v937 (P : Params) : Obj := (PySem.Obj.mk (PySem.Value.type "tuple") none (PySem.Data.seq #[(PySem.Value.str (PySem.Str.ofString "c") 537)] 0) #[])
@[reducible] def o99v938 (P : Params) : Obj := (PySem.Obj.mk (PySem.Value.type "tuple") none (PySem.Data.seq #[] 0) #[])
def o100v939 (P : Params) : Obj := ⟨PySem.Value.none, none, .func (mkF 11 rfl 0 0 (PySem.Str.ofString "alt") (PySem.Str.ofString "alt") PySem.Value.none PySem.Value.none PySem.Value.none PySem.Value.none none PySem.Value.none PySem.Value.none), #[]⟩
@[reducible] def o101v940 (P : Params) : Obj := (PySem.Obj.mk (PySem.Value.type "code") none (PySem.Data.fields #[(PySem.Value.str (PySem.Str.ofString "alt") 534), (PySem.Value.str (PySem.Str.ofString "alt") 535), (PySem.Value.str (PySem.Str.ofString "/claim/cut.py") 536), (vi 24 0), (vi 1 0), (vi 0 0), (vi 0 0), (vi 3 0), (PySem.Value.ref 96), (PySem.Value.bool Bool.true), (vi 181 0), (PySem.Value.ref 97), PySem.Value.none, (PySem.Value.ref 98), (PySem.Value.ref 99), (PySem.Value.ref 100), (vi 538 0), (vi 24 0), (PySem.Value.str (PySem.Str.ofString "/claim/cut.py") 539)]) #[])
@[reducible] def o102v941 (P : Params) : Obj := ⟨(PySem.Value.type "function"), none, .func (mkF 11 rfl 3 0 (PySem.Str.ofString "alt") (PySem.Str.ofString "alt") PySem.Value.none PySem.Value.none PySem.Value.none (PySem.Value.str (PySem.Str.ofString "cpy313.curses.ascii") 511) none (PySem.Value.ref 101) PySem.Value.none), #[]⟩
@[reducible] def o103v942 (P : Params) : Obj := (PySem.Obj.mk (PySem.Value.type "tuple") none (PySem.Data.seq #[] 0) #[])
def o104v943 (P : Params) : Obj := (PySem.Obj.mk PySem.Value.none none (PySem.Data.fields #[]) #[])
@[reducible] def o105v944 (P : Params) : Obj := (PySem.Obj.mk (PySem.Value.type "tuple") none (PySem.Data.seq #[(PySem.Value.str (PySem.Str.ofString "c") 544), (PySem.Value.str (PySem.Str.ofString "bits") 545), (PySem.Value.str (PySem.Str.ofString "rep") 546)] 0) #[])
@[reducible] def o106v945 (P : Params) : Obj := (PySem.Obj.mk (PySem.Value.type "tuple") none (PySem.Data.seq #[] 0) #[])
def o107v946 (P : Params) : Obj := ⟨PySem.Value.none, none, .func (mkF 12 rfl 0 0 (PySem.Str.ofString "unctrl") (PySem.Str.ofString "unctrl") PySem.Value.none PySem.Value.none PySem.Value.none PySem.Value.none none PySem.Value.none PySem.Value.none), #[]⟩
@[reducible] def o108v947 (P : Params) : Obj := (PySem.Obj.mk (PySem.Value.type "code") none (PySem.Data.fields #[(PySem.Value.str (PySem.Str.ofString "unctrl") 541), (PySem.Value.str (PySem.Str.ofString "unctrl") 542), (PySem.Value.str (PySem.Str.ofString "/claim/cut.py") 543), (vi 29 0), (vi 1 0), (vi 0 0), (vi 0 0), (vi 3 0), (PySem.Value.ref 103), (PySem.Value.bool Bool.true), (vi 181 0), (PySem.Value.ref 104), PySem.Value.none, (PySem.Value.ref 105), (PySem.Value.ref 106), (PySem.Value.ref 107), (vi 547 0), (vi 29 0), (PySem.Value.str (PySem.Str.ofString "/claim/cut.py") 548)]) #[])
@[reducible] def o109v948 (P : Params) : Obj := ⟨(PySem.Value.type "function"), none, .func (mkF 12 rfl 3 0 (PySem.Str.ofString "unctrl") (PySem.Str.ofString "unctrl") PySem.Value.none PySem.Value.none PySem.Value.none (PySem.Value.str (PySem.Str.ofString "cpy313.curses.ascii") 511) none (PySem.Value.ref 108) PySem.Value.none), #[]⟩
def k949 (P : Params) : BT := .node (o95v934 P) .nil .nil
def k950 (P : Params) : BT := .node (o31v171 P) (k569 P) (k949 P)
def k951 (P : Params) : BT := .node (o79v918 P) .nil .nil
def k952 (P : Params) : BT := .node (o47v330 P) (k951 P) .nil
def k953 (P : Params) : BT := .node (o15v41 P) (k950 P) (k952 P)
def k954 (P : Params) : BT := .node (o71v910 P) .nil .nil
def k955 (P : Params) : BT := .node (o103v942 P) .nil .nil
def k956 (P : Params) : BT := .node (o39v234 P) (k954 P) (k955 P)
def k957 (P : Params) : BT := .node (o87v926 P) .nil .nil
def k958 (P : Params) : BT := .node (o55v355 P) (k957 P) .nil
def k959 (P : Params) : BT := .node (o23v149 P) (k956 P) (k958 P)
def k960 (P : Params) : BT := .node (boot_o_7 P) (k953 P) (k959 P)
def k961 (P : Params) : BT := .node (o99v938 P) .nil .nil
def k962 (P : Params) : BT := .node (o35v219 P) (k887 P) (k961 P)
def k963 (P : Params) : BT := .node (o83v922 P) .nil .nil
def k964 (P : Params) : BT := .node (o51v351 P) (k963 P) .nil
def k965 (P : Params) : BT := .node (o19v82 P) (k962 P) (k964 P)
def k966 (P : Params) : BT := .node (o75v914 P) .nil .nil
def k967 (P : Params) : BT := .node (o107v946 P) .nil .nil
def k968 (P : Params) : BT := .node (o43v276 P) (k966 P) (k967 P)
def k969 (P : Params) : BT := .node (o91v930 P) .nil .nil
def k970 (P : Params) : BT := .node (o59v551 P) (k969 P) .nil
def k971 (P : Params) : BT := .node (o27v167 P) (k968 P) (k970 P)
def k972 (P : Params) : BT := .node (o11v22 P) (k965 P) (k971 P)
def k973 (P : Params) : BT := .node (o3v905 P) (k960 P) (k972 P)
def k974 (P : Params) : BT := .node (o97v936 P) .nil .nil
def k975 (P : Params) : BT := .node (o33v196 P) (k892 P) (k974 P)
def k976 (P : Params) : BT := .node (o81v920 P) .nil .nil
def k977 (P : Params) : BT := .node (o49v332 P) (k976 P) .nil
def k978 (P : Params) : BT := .node (o17v71 P) (k975 P) (k977 P)
def k979 (P : Params) : BT := .node (o73v912 P) .nil .nil
def k980 (P : Params) : BT := .node (o105v944 P) .nil .nil
def k981 (P : Params) : BT := .node (o41v263 P) (k979 P) (k980 P)
def k982 (P : Params) : BT := .node (o89v928 P) .nil .nil
def k983 (P : Params) : BT := .node (o57v385 P) (k982 P) .nil
def k984 (P : Params) : BT := .node (o25v151 P) (k981 P) (k983 P)
def k985 (P : Params) : BT := .node (boot_o_9 P) (k978 P) (k984 P)
def k986 (P : Params) : BT := .node (o69v908 P) .nil .nil
def k987 (P : Params) : BT := .node (o101v940 P) .nil .nil
def k988 (P : Params) : BT := .node (o37v232 P) (k986 P) (k987 P)
def k989 (P : Params) : BT := .node (o85v924 P) .nil .nil
def k990 (P : Params) : BT := .node (o53v353 P) (k989 P) .nil
def k991 (P : Params) : BT := .node (o21v84 P) (k988 P) (k990 P)
def k992 (P : Params) : BT := .node (o77v916 P) .nil .nil
def k993 (P : Params) : BT := .node (o109v948 P) .nil .nil
def k994 (P : Params) : BT := .node (o45v278 P) (k992 P) (k993 P)
def k995 (P : Params) : BT := .node (o93v932 P) .nil .nil
def k996 (P : Params) : BT := .node (o61v564 P) (k995 P) .nil
def k997 (P : Params) : BT := .node (o29v169 P) (k994 P) (k996 P)
def k998 (P : Params) : BT := .node (o13v24 P) (k991 P) (k997 P)
def k999 (P : Params) : BT := .node (boot_o_5 P) (k985 P) (k998 P)
def k1000 (P : Params) : BT := .node (boot_o_1 P) (k973 P) (k999 P)
def k1001 (P : Params) : BT := .node (o96v935 P) .nil .nil
def k1002 (P : Params) : BT := .node (o32v172 P) (k872 P) (k1001 P)
def k1003 (P : Params) : BT := .node (o80v919 P) .nil .nil
def k1004 (P : Params) : BT := .node (o48v331 P) (k1003 P) .nil
def k1005 (P : Params) : BT := .node (o16v42 P) (k1002 P) (k1004 P)
def k1006 (P : Params) : BT := .node (o72v911 P) .nil .nil
def k1007 (P : Params) : BT := .node (o104v943 P) .nil .nil
def k1008 (P : Params) : BT := .node (o40v235 P) (k1006 P) (k1007 P)
def k1009 (P : Params) : BT := .node (o88v927 P) .nil .nil
def k1010 (P : Params) : BT := .node (o56v356 P) (k1009 P) .nil
def k1011 (P : Params) : BT := .node (o24v150 P) (k1008 P) (k1010 P)
def k1012 (P : Params) : BT := .node (boot_o_8 P) (k1005 P) (k1011 P)
def k1013 (P : Params) : BT := .node (o68v907 P) .nil .nil
def k1014 (P : Params) : BT := .node (o100v939 P) .nil .nil
def k1015 (P : Params) : BT := .node (o36v220 P) (k1013 P) (k1014 P)
def k1016 (P : Params) : BT := .node (o84v923 P) .nil .nil
def k1017 (P : Params) : BT := .node (o52v352 P) (k1016 P) .nil
def k1018 (P : Params) : BT := .node (o20v83 P) (k1015 P) (k1017 P)
def k1019 (P : Params) : BT := .node (o76v915 P) .nil .nil
def k1020 (P : Params) : BT := .node (o108v947 P) .nil .nil
def k1021 (P : Params) : BT := .node (o44v277 P) (k1019 P) (k1020 P)
def k1022 (P : Params) : BT := .node (o92v931 P) .nil .nil
def k1023 (P : Params) : BT := .node (o60v552 P) (k1022 P) .nil
def k1024 (P : Params) : BT := .node (o28v168 P) (k1021 P) (k1023 P)
def k1025 (P : Params) : BT := .node (o12v906 P) (k1018 P) (k1024 P)
def k1026 (P : Params) : BT := .node (boot_o_4 P) (k1012 P) (k1025 P)
def k1027 (P : Params) : BT := .node (o98v937 P) .nil .nil
def k1028 (P : Params) : BT := .node (o34v197 P) (k898 P) (k1027 P)
def k1029 (P : Params) : BT := .node (o82v921 P) .nil .nil
def k1030 (P : Params) : BT := .node (o50v350 P) (k1029 P) .nil
def k1031 (P : Params) : BT := .node (o18v72 P) (k1028 P) (k1030 P)
def k1032 (P : Params) : BT := .node (o74v913 P) .nil .nil
def k1033 (P : Params) : BT := .node (o106v945 P) .nil .nil
def k1034 (P : Params) : BT := .node (o42v264 P) (k1032 P) (k1033 P)
def k1035 (P : Params) : BT := .node (o90v929 P) .nil .nil
def k1036 (P : Params) : BT := .node (o58v386 P) (k1035 P) .nil
def k1037 (P : Params) : BT := .node (o26v166 P) (k1034 P) (k1036 P)
def k1038 (P : Params) : BT := .node (boot_o_10 P) (k1031 P) (k1037 P)
def k1039 (P : Params) : BT := .node (o70v909 P) .nil .nil
def k1040 (P : Params) : BT := .node (o102v941 P) .nil .nil
def k1041 (P : Params) : BT := .node (o38v233 P) (k1039 P) (k1040 P)
def k1042 (P : Params) : BT := .node (o86v925 P) .nil .nil
def k1043 (P : Params) : BT := .node (o54v354 P) (k1042 P) .nil
def k1044 (P : Params) : BT := .node (o22v137 P) (k1041 P) (k1043 P)
def k1045 (P : Params) : BT := .node (o78v917 P) .nil .nil
def k1046 (P : Params) : BT := .node (o46v316 P) (k1045 P) .nil
def k1047 (P : Params) : BT := .node (o94v933 P) .nil .nil
def k1048 (P : Params) : BT := .node (o62v565 P) (k1047 P) .nil
def k1049 (P : Params) : BT := .node (o30v170 P) (k1046 P) (k1048 P)
def k1050 (P : Params) : BT := .node (o14v25 P) (k1044 P) (k1049 P)
def k1051 (P : Params) : BT := .node (boot_o_6 P) (k1038 P) (k1050 P)
def k1052 (P : Params) : BT := .node (boot_o_2 P) (k1026 P) (k1051 P)
def k1053 (P : Params) : BT := .node (boot_o_0 P) (k1000 P) (k1052 P)
def S13 (w : World) (os : OsState) : SharedT := ⟨(k1053 w.params), 110, lif, #[], drw, 550, os⟩
def pos14 : Pos := (PySem.Pos.mk 40 0 40 8)
def pos15 : Pos := (PySem.Pos.mk 41 0 42 76)
def pos16 : Pos := (PySem.Pos.mk 43 0 44 99)
def pos17 : Pos := (PySem.Pos.mk 45 0 64 45)
def pos18 : Pos := (PySem.Pos.mk 65 0 72 16)
def pos19 : Pos := (PySem.Pos.mk 73 0 88 42)
def pos20 : Pos := (PySem.Pos.mk 89 0 95 77)
@[reducible] def o3v1054 (P : Params) : Obj := (PySem.Obj.mk (PySem.Value.type "dict") none (PySem.Data.dict #[(PySem.DictEntry.mk (PySem.PyData.keyHash P (PySem.Str.ofString "__name__")) (PySem.Value.str (PySem.Str.ofString "__name__") 165) (PySem.Value.str (PySem.Str.ofString "law_mj0050_01") 550)), (PySem.DictEntry.mk (PySem.PyData.keyHash P (PySem.Str.ofString "__doc__")) (PySem.Value.str (PySem.Str.ofString "__doc__") 166) PySem.Value.none), (PySem.DictEntry.mk (PySem.PyData.keyHash P (PySem.Str.ofString "__package__")) (PySem.Value.str (PySem.Str.ofString "__package__") 167) PySem.Value.none), (PySem.DictEntry.mk (PySem.PyData.keyHash P (PySem.Str.ofString "__loader__")) (PySem.Value.str (PySem.Str.ofString "__loader__") 168) (PySem.Value.builtin "__main__.__loader__#opaque")), (PySem.DictEntry.mk (PySem.PyData.keyHash P (PySem.Str.ofString "__spec__")) (PySem.Value.str (PySem.Str.ofString "__spec__") 169) PySem.Value.none), (PySem.DictEntry.mk (PySem.PyData.keyHash P (PySem.Str.ofString "__annotations__")) (PySem.Value.str (PySem.Str.ofString "__annotations__") 170) (PySem.Value.ref 6)), (PySem.DictEntry.mk (PySem.PyData.keyHash P (PySem.Str.ofString "__builtins__")) (PySem.Value.str (PySem.Str.ofString "__builtins__") 171) (PySem.Value.ref 4)), (PySem.DictEntry.mk (PySem.PyData.keyHash P (PySem.Str.ofString "__file__")) (PySem.Value.str (PySem.Str.ofString "__file__") 173) (PySem.Value.str (PySem.Str.ofString "/claim/cut.py") 172)), (PySem.DictEntry.mk (PySem.PyData.keyHash P (PySem.Str.ofString "__cached__")) (PySem.Value.str (PySem.Str.ofString "__cached__") 174) PySem.Value.none), (PySem.DictEntry.mk (PySem.PyData.keyHash P (PySem.Str.ofString "b1_set")) (PySem.Value.str (PySem.Str.ofString "b1_set") 248) (PySem.Value.ref 22)), (PySem.DictEntry.mk (PySem.PyData.keyHash P (PySem.Str.ofString "in_table_b1")) (PySem.Value.str (PySem.Str.ofString "in_table_b1") 255) (PySem.Value.ref 32)), (PySem.DictEntry.mk (PySem.PyData.keyHash P (PySem.Str.ofString "c8_set")) (PySem.Value.str (PySem.Str.ofString "c8_set") 296) (PySem.Value.ref 46)), (PySem.DictEntry.mk (PySem.PyData.keyHash P (PySem.Str.ofString "in_table_c8")) (PySem.Value.str (PySem.Str.ofString "in_table_c8") 303) (PySem.Value.ref 56)), (PySem.DictEntry.mk (PySem.PyData.keyHash P (PySem.Str.ofString "c9_set")) (PySem.Value.str (PySem.Str.ofString "c9_set") 503) (PySem.Value.ref 64)), (PySem.DictEntry.mk (PySem.PyData.keyHash P (PySem.Str.ofString "in_table_c9")) (PySem.Value.str (PySem.Str.ofString "in_table_c9") 510) (PySem.Value.ref 74)), (PySem.DictEntry.mk (PySem.PyData.keyHash P (PySem.Str.ofString "_ctoi")) (PySem.Value.str (PySem.Str.ofString "_ctoi") 519) (PySem.Value.ref 81)), (PySem.DictEntry.mk (PySem.PyData.keyHash P (PySem.Str.ofString "isprint")) (PySem.Value.str (PySem.Str.ofString "isprint") 526) (PySem.Value.ref 88)), (PySem.DictEntry.mk (PySem.PyData.keyHash P (PySem.Str.ofString "ctrl")) (PySem.Value.str (PySem.Str.ofString "ctrl") 533) (PySem.Value.ref 95)), (PySem.DictEntry.mk (PySem.PyData.keyHash P (PySem.Str.ofString "alt")) (PySem.Value.str (PySem.Str.ofString "alt") 540) (PySem.Value.ref 102)), (PySem.DictEntry.mk (PySem.PyData.keyHash P (PySem.Str.ofString "unctrl")) (PySem.Value.str (PySem.Str.ofString "unctrl") 549) (PySem.Value.ref 109)), (PySem.DictEntry.mk (PySem.PyData.keyHash P (PySem.Str.ofString "_law_dust")) (PySem.Value.str (PySem.Str.ofString "_law_dust") 557) (PySem.Value.ref 116)), (PySem.DictEntry.mk (PySem.PyData.keyHash P (PySem.Str.ofString "_law_turns")) (PySem.Value.str (PySem.Str.ofString "_law_turns") 563) (PySem.Value.ref 123)), (PySem.DictEntry.mk (PySem.PyData.keyHash P (PySem.Str.ofString "_law_piece")) (PySem.Value.str (PySem.Str.ofString "_law_piece") 576) (PySem.Value.ref 130)), (PySem.DictEntry.mk (PySem.PyData.keyHash P (PySem.Str.ofString "_law_turned")) (PySem.Value.str (PySem.Str.ofString "_law_turned") 586) (PySem.Value.ref 137)), (PySem.DictEntry.mk (PySem.PyData.keyHash P (PySem.Str.ofString "_law_review")) (PySem.Value.str (PySem.Str.ofString "_law_review") 598) (PySem.Value.ref 144)), (PySem.DictEntry.mk (PySem.PyData.keyHash P (PySem.Str.ofString "law")) (PySem.Value.str (PySem.Str.ofString "law") 604) (PySem.Value.ref 149))] 26) #[])
def o12v1055 (P : Params) : Obj := (PySem.Obj.mk PySem.Value.none none (PySem.Data.fields #[(vi 3 0), (vi 0 0), (PySem.Value.ref 31), (vi 6 0), (vi 0 0), (PySem.Value.ref 55), (vi 9 0), (vi 0 0), (PySem.Value.ref 73), (vi 12 0), (vi 0 0), (PySem.Value.ref 80), (vi 17 0), (vi 0 0), (PySem.Value.ref 87), (vi 19 0), (vi 0 0), (PySem.Value.ref 94), (vi 24 0), (vi 0 0), (PySem.Value.ref 101), (vi 29 0), (vi 0 0), (PySem.Value.ref 108), (vi 41 0), (vi 0 0), (PySem.Value.ref 115), (vi 43 0), (vi 0 0), (PySem.Value.ref 122), (vi 45 0), (vi 0 0), (PySem.Value.ref 129), (vi 65 0), (vi 0 0), (PySem.Value.ref 136), (vi 73 0), (vi 0 0), (PySem.Value.ref 143), (vi 89 0), (vi 0 0), (PySem.Value.ref 148)]) #[])
@[reducible] def o110v1056 (P : Params) : Obj := (PySem.Obj.mk (PySem.Value.type "tuple") none (PySem.Data.seq #[] 0) #[])
def o111v1057 (P : Params) : Obj := (PySem.Obj.mk PySem.Value.none none (PySem.Data.fields #[]) #[])
@[reducible] def o112v1058 (P : Params) : Obj := (PySem.Obj.mk (PySem.Value.type "tuple") none (PySem.Data.seq #[] 0) #[])
@[reducible] def o113v1059 (P : Params) : Obj := (PySem.Obj.mk (PySem.Value.type "tuple") none (PySem.Data.seq #[] 0) #[])
def o114v1060 (P : Params) : Obj := ⟨PySem.Value.none, none, .func (mkF 14 rfl 0 0 (PySem.Str.ofString "_law_dust") (PySem.Str.ofString "_law_dust") PySem.Value.none PySem.Value.none PySem.Value.none PySem.Value.none none PySem.Value.none PySem.Value.none), #[]⟩
@[reducible] def o115v1061 (P : Params) : Obj := (PySem.Obj.mk (PySem.Value.type "code") none (PySem.Data.fields #[(PySem.Value.str (PySem.Str.ofString "_law_dust") 552), (PySem.Value.str (PySem.Str.ofString "_law_dust") 553), (PySem.Value.str (PySem.Str.ofString "/claim/cut.py") 554), (vi 41 0), (vi 0 0), (vi 0 0), (vi 0 0), (vi 3 0), (PySem.Value.ref 110), (PySem.Value.bool Bool.true), (vi 181 0), (PySem.Value.ref 111), PySem.Value.none, (PySem.Value.ref 112), (PySem.Value.ref 113), (PySem.Value.ref 114), (vi 555 0), (vi 41 0), (PySem.Value.str (PySem.Str.ofString "/claim/cut.py") 556)]) #[])
@[reducible] def o116v1062 (P : Params) : Obj := ⟨(PySem.Value.type "function"), none, .func (mkF 14 rfl 3 0 (PySem.Str.ofString "_law_dust") (PySem.Str.ofString "_law_dust") PySem.Value.none PySem.Value.none PySem.Value.none (PySem.Value.str (PySem.Str.ofString "law_mj0050_01") 550) none (PySem.Value.ref 115) PySem.Value.none), #[]⟩
@[reducible] def o117v1063 (P : Params) : Obj := (PySem.Obj.mk (PySem.Value.type "tuple") none (PySem.Data.seq #[] 0) #[])
def o118v1064 (P : Params) : Obj := (PySem.Obj.mk PySem.Value.none none (PySem.Data.fields #[]) #[])
@[reducible] def o119v1065 (P : Params) : Obj := (PySem.Obj.mk (PySem.Value.type "tuple") none (PySem.Data.seq #[] 0) #[])
@[reducible] def o120v1066 (P : Params) : Obj := (PySem.Obj.mk (PySem.Value.type "tuple") none (PySem.Data.seq #[] 0) #[])
def o121v1067 (P : Params) : Obj := ⟨PySem.Value.none, none, .func (mkF 15 rfl 0 0 (PySem.Str.ofString "_law_turns") (PySem.Str.ofString "_law_turns") PySem.Value.none PySem.Value.none PySem.Value.none PySem.Value.none none PySem.Value.none PySem.Value.none), #[]⟩
@[reducible] def o122v1068 (P : Params) : Obj := (PySem.Obj.mk (PySem.Value.type "code") none (PySem.Data.fields #[(PySem.Value.str (PySem.Str.ofString "_law_turns") 558), (PySem.Value.str (PySem.Str.ofString "_law_turns") 559), (PySem.Value.str (PySem.Str.ofString "/claim/cut.py") 560), (vi 43 0), (vi 0 0), (vi 0 0), (vi 0 0), (vi 3 0), (PySem.Value.ref 117), (PySem.Value.bool Bool.true), (vi 181 0), (PySem.Value.ref 118), PySem.Value.none, (PySem.Value.ref 119), (PySem.Value.ref 120), (PySem.Value.ref 121), (vi 561 0), (vi 43 0), (PySem.Value.str (PySem.Str.ofString "/claim/cut.py") 562)]) #[])
@[reducible] def o123v1069 (P : Params) : Obj := ⟨(PySem.Value.type "function"), none, .func (mkF 15 rfl 3 0 (PySem.Str.ofString "_law_turns") (PySem.Str.ofString "_law_turns") PySem.Value.none PySem.Value.none PySem.Value.none (PySem.Value.str (PySem.Str.ofString "law_mj0050_01") 550) none (PySem.Value.ref 122) PySem.Value.none), #[]⟩
@[reducible] def o124v1070 (P : Params) : Obj := (PySem.Obj.mk (PySem.Value.type "tuple") none (PySem.Data.seq #[] 0) #[])
def o125v1071 (P : Params) : Obj := (PySem.Obj.mk PySem.Value.none none (PySem.Data.fields #[]) #[])
@[reducible] def o126v1072 (P : Params) : Obj := (PySem.Obj.mk (PySem.Value.type "tuple") none (PySem.Data.seq #[(PySem.Value.str (PySem.Str.ofString "x") 567), (PySem.Value.str (PySem.Str.ofString "number") 568), (PySem.Value.str (PySem.Str.ofString "kind") 569), (PySem.Value.str (PySem.Str.ofString "y") 570), (PySem.Value.str (PySem.Str.ofString "place") 571), (PySem.Value.str (PySem.Str.ofString "shown") 572), (PySem.Value.str (PySem.Str.ofString "code") 573)] 0) #[])
@[reducible] def o127v1073 (P : Params) : Obj := (PySem.Obj.mk (PySem.Value.type "tuple") none (PySem.Data.seq #[] 0) #[])
def o128v1074 (P : Params) : Obj := ⟨PySem.Value.none, none, .func (mkF 16 rfl 0 0 (PySem.Str.ofString "_law_piece") (PySem.Str.ofString "_law_piece") PySem.Value.none PySem.Value.none PySem.Value.none PySem.Value.none none PySem.Value.none PySem.Value.none), #[]⟩
@[reducible] def o129v1075 (P : Params) : Obj := (PySem.Obj.mk (PySem.Value.type "code") none (PySem.Data.fields #[(PySem.Value.str (PySem.Str.ofString "_law_piece") 564), (PySem.Value.str (PySem.Str.ofString "_law_piece") 565), (PySem.Value.str (PySem.Str.ofString "/claim/cut.py") 566), (vi 45 0), (vi 1 0), (vi 0 0), (vi 0 0), (vi 3 0), (PySem.Value.ref 124), (PySem.Value.bool Bool.true), (vi 181 0), (PySem.Value.ref 125), PySem.Value.none, (PySem.Value.ref 126), (PySem.Value.ref 127), (PySem.Value.ref 128), (vi 574 0), (vi 45 0), (PySem.Value.str (PySem.Str.ofString "/claim/cut.py") 575)]) #[])
@[reducible] def o130v1076 (P : Params) : Obj := ⟨(PySem.Value.type "function"), none, .func (mkF 16 rfl 3 0 (PySem.Str.ofString "_law_piece") (PySem.Str.ofString "_law_piece") PySem.Value.none PySem.Value.none PySem.Value.none (PySem.Value.str (PySem.Str.ofString "law_mj0050_01") 550) none (PySem.Value.ref 129) PySem.Value.none), #[]⟩
@[reducible] def o131v1077 (P : Params) : Obj := (PySem.Obj.mk (PySem.Value.type "tuple") none (PySem.Data.seq #[] 0) #[])
def o132v1078 (P : Params) : Obj := (PySem.Obj.mk PySem.Value.none none (PySem.Data.fields #[]) #[])
@[reducible] def o133v1079 (P : Params) : Obj := (PySem.Obj.mk (PySem.Value.type "tuple") none (PySem.Data.seq #[(PySem.Value.str (PySem.Str.ofString "pieces") 580), (PySem.Value.str (PySem.Str.ofString "turns") 581), (PySem.Value.str (PySem.Str.ofString "ahead") 582), (PySem.Value.str (PySem.Str.ofString "piece") 583)] 0) #[])
@[reducible] def o134v1080 (P : Params) : Obj := (PySem.Obj.mk (PySem.Value.type "tuple") none (PySem.Data.seq #[] 0) #[])
def o135v1081 (P : Params) : Obj := ⟨PySem.Value.none, none, .func (mkF 17 rfl 0 0 (PySem.Str.ofString "_law_turned") (PySem.Str.ofString "_law_turned") PySem.Value.none PySem.Value.none PySem.Value.none PySem.Value.none none PySem.Value.none PySem.Value.none), #[]⟩
@[reducible] def o136v1082 (P : Params) : Obj := (PySem.Obj.mk (PySem.Value.type "code") none (PySem.Data.fields #[(PySem.Value.str (PySem.Str.ofString "_law_turned") 577), (PySem.Value.str (PySem.Str.ofString "_law_turned") 578), (PySem.Value.str (PySem.Str.ofString "/claim/cut.py") 579), (vi 65 0), (vi 1 0), (vi 0 0), (vi 0 0), (vi 3 0), (PySem.Value.ref 131), (PySem.Value.bool Bool.true), (vi 181 0), (PySem.Value.ref 132), PySem.Value.none, (PySem.Value.ref 133), (PySem.Value.ref 134), (PySem.Value.ref 135), (vi 584 0), (vi 65 0), (PySem.Value.str (PySem.Str.ofString "/claim/cut.py") 585)]) #[])
@[reducible] def o137v1083 (P : Params) : Obj := ⟨(PySem.Value.type "function"), none, .func (mkF 17 rfl 3 0 (PySem.Str.ofString "_law_turned") (PySem.Str.ofString "_law_turned") PySem.Value.none PySem.Value.none PySem.Value.none (PySem.Value.str (PySem.Str.ofString "law_mj0050_01") 550) none (PySem.Value.ref 136) PySem.Value.none), #[]⟩
@[reducible] def o138v1084 (P : Params) : Obj := (PySem.Obj.mk (PySem.Value.type "tuple") none (PySem.Data.seq #[] 0) #[])
def o139v1085 (P : Params) : Obj := (PySem.Obj.mk PySem.Value.none none (PySem.Data.fields #[]) #[])
@[reducible] def o140v1086 (P : Params) : Obj := (PySem.Obj.mk (PySem.Value.type "tuple") none (PySem.Data.seq #[(PySem.Value.str (PySem.Str.ofString "text") 590), (PySem.Value.str (PySem.Str.ofString "seen") 591), (PySem.Value.str (PySem.Str.ofString "letters") 592), (PySem.Value.str (PySem.Str.ofString "numbers") 593), (PySem.Value.str (PySem.Str.ofString "turns") 594), (PySem.Value.str (PySem.Str.ofString "sign") 595)] 0) #[])
@[reducible] def o141v1087 (P : Params) : Obj := (PySem.Obj.mk (PySem.Value.type "tuple") none (PySem.Data.seq #[] 0) #[])
def o142v1088 (P : Params) : Obj := ⟨PySem.Value.none, none, .func (mkF 18 rfl 0 0 (PySem.Str.ofString "_law_review") (PySem.Str.ofString "_law_review") PySem.Value.none PySem.Value.none PySem.Value.none PySem.Value.none none PySem.Value.none PySem.Value.none), #[]⟩
@[reducible] def o143v1089 (P : Params) : Obj := (PySem.Obj.mk (PySem.Value.type "code") none (PySem.Data.fields #[(PySem.Value.str (PySem.Str.ofString "_law_review") 587), (PySem.Value.str (PySem.Str.ofString "_law_review") 588), (PySem.Value.str (PySem.Str.ofString "/claim/cut.py") 589), (vi 73 0), (vi 1 0), (vi 0 0), (vi 0 0), (vi 3 0), (PySem.Value.ref 138), (PySem.Value.bool Bool.true), (vi 181 0), (PySem.Value.ref 139), PySem.Value.none, (PySem.Value.ref 140), (PySem.Value.ref 141), (PySem.Value.ref 142), (vi 596 0), (vi 73 0), (PySem.Value.str (PySem.Str.ofString "/claim/cut.py") 597)]) #[])
@[reducible] def o144v1090 (P : Params) : Obj := ⟨(PySem.Value.type "function"), none, .func (mkF 18 rfl 3 0 (PySem.Str.ofString "_law_review") (PySem.Str.ofString "_law_review") PySem.Value.none PySem.Value.none PySem.Value.none (PySem.Value.str (PySem.Str.ofString "law_mj0050_01") 550) none (PySem.Value.ref 143) PySem.Value.none), #[]⟩
@[reducible] def o145v1091 (P : Params) : Obj := (PySem.Obj.mk (PySem.Value.type "tuple") none (PySem.Data.seq #[] 0) #[])
def o146v1092 (P : Params) : Obj := (PySem.Obj.mk PySem.Value.none none (PySem.Data.fields #[]) #[])
def o147v1093 (P : Params) : Obj := ⟨PySem.Value.none, none, .func (mkF 19 rfl 0 0 (PySem.Str.ofString "law") (PySem.Str.ofString "law") PySem.Value.none PySem.Value.none PySem.Value.none PySem.Value.none none PySem.Value.none PySem.Value.none), #[]⟩
@[reducible] def o148v1094 (P : Params) : Obj := (PySem.Obj.mk (PySem.Value.type "code") none (PySem.Data.fields #[(PySem.Value.str (PySem.Str.ofString "law") 599), (PySem.Value.str (PySem.Str.ofString "law") 600), (PySem.Value.str (PySem.Str.ofString "/claim/cut.py") 601), (vi 89 0), (vi 1 0), (vi 0 0), (vi 0 0), (vi 3 0), (PySem.Value.ref 145), (PySem.Value.bool Bool.true), (vi 181 0), (PySem.Value.ref 146), PySem.Value.none, PySem.Value.none, PySem.Value.none, (PySem.Value.ref 147), (vi 602 0), (vi 89 0), (PySem.Value.str (PySem.Str.ofString "/claim/cut.py") 603)]) #[])
@[reducible] def o149v1095 (P : Params) : Obj := ⟨(PySem.Value.type "function"), none, .func (mkF 19 rfl 3 0 (PySem.Str.ofString "law") (PySem.Str.ofString "law") PySem.Value.none PySem.Value.none PySem.Value.none (PySem.Value.str (PySem.Str.ofString "law_mj0050_01") 550) none (PySem.Value.ref 148) PySem.Value.none), #[]⟩
def k1096 (P : Params) : BT := .node (o127v1073 P) .nil .nil
def k1097 (P : Params) : BT := .node (o63v566 P) (k1096 P) .nil
def k1098 (P : Params) : BT := .node (o31v171 P) (k1097 P) (k949 P)
def k1099 (P : Params) : BT := .node (o143v1089 P) .nil .nil
def k1100 (P : Params) : BT := .node (o79v918 P) (k1099 P) .nil
def k1101 (P : Params) : BT := .node (o111v1057 P) .nil .nil
def k1102 (P : Params) : BT := .node (o47v330 P) (k1100 P) (k1101 P)
def k1103 (P : Params) : BT := .node (o15v41 P) (k1098 P) (k1102 P)
def k1104 (P : Params) : BT := .node (o135v1081 P) .nil .nil
def k1105 (P : Params) : BT := .node (o71v910 P) (k1104 P) .nil
def k1106 (P : Params) : BT := .node (o39v234 P) (k1105 P) (k955 P)
def k1107 (P : Params) : BT := .node (o119v1065 P) .nil .nil
def k1108 (P : Params) : BT := .node (o55v355 P) (k957 P) (k1107 P)
def k1109 (P : Params) : BT := .node (o23v149 P) (k1106 P) (k1108 P)
def k1110 (P : Params) : BT := .node (boot_o_7 P) (k1103 P) (k1109 P)
def k1111 (P : Params) : BT := .node (o131v1077 P) .nil .nil
def k1112 (P : Params) : BT := .node (o67v886 P) (k1111 P) .nil
def k1113 (P : Params) : BT := .node (o35v219 P) (k1112 P) (k961 P)
def k1114 (P : Params) : BT := .node (o147v1093 P) .nil .nil
def k1115 (P : Params) : BT := .node (o83v922 P) (k1114 P) .nil
def k1116 (P : Params) : BT := .node (o115v1061 P) .nil .nil
def k1117 (P : Params) : BT := .node (o51v351 P) (k1115 P) (k1116 P)
def k1118 (P : Params) : BT := .node (o19v82 P) (k1113 P) (k1117 P)
def k1119 (P : Params) : BT := .node (o139v1085 P) .nil .nil
def k1120 (P : Params) : BT := .node (o75v914 P) (k1119 P) .nil
def k1121 (P : Params) : BT := .node (o43v276 P) (k1120 P) (k967 P)
def k1122 (P : Params) : BT := .node (o123v1069 P) .nil .nil
def k1123 (P : Params) : BT := .node (o59v551 P) (k969 P) (k1122 P)
def k1124 (P : Params) : BT := .node (o27v167 P) (k1121 P) (k1123 P)
def k1125 (P : Params) : BT := .node (o11v22 P) (k1118 P) (k1124 P)
def k1126 (P : Params) : BT := .node (o3v1054 P) (k1110 P) (k1125 P)
def k1127 (P : Params) : BT := .node (o129v1075 P) .nil .nil
def k1128 (P : Params) : BT := .node (o65v884 P) (k1127 P) .nil
def k1129 (P : Params) : BT := .node (o33v196 P) (k1128 P) (k974 P)
def k1130 (P : Params) : BT := .node (o145v1091 P) .nil .nil
def k1131 (P : Params) : BT := .node (o81v920 P) (k1130 P) .nil
def k1132 (P : Params) : BT := .node (o113v1059 P) .nil .nil
def k1133 (P : Params) : BT := .node (o49v332 P) (k1131 P) (k1132 P)
def k1134 (P : Params) : BT := .node (o17v71 P) (k1129 P) (k1133 P)
def k1135 (P : Params) : BT := .node (o137v1083 P) .nil .nil
def k1136 (P : Params) : BT := .node (o73v912 P) (k1135 P) .nil
def k1137 (P : Params) : BT := .node (o41v263 P) (k1136 P) (k980 P)
def k1138 (P : Params) : BT := .node (o121v1067 P) .nil .nil
def k1139 (P : Params) : BT := .node (o57v385 P) (k982 P) (k1138 P)
def k1140 (P : Params) : BT := .node (o25v151 P) (k1137 P) (k1139 P)
def k1141 (P : Params) : BT := .node (boot_o_9 P) (k1134 P) (k1140 P)
def k1142 (P : Params) : BT := .node (o133v1079 P) .nil .nil
def k1143 (P : Params) : BT := .node (o69v908 P) (k1142 P) .nil
def k1144 (P : Params) : BT := .node (o37v232 P) (k1143 P) (k987 P)
def k1145 (P : Params) : BT := .node (o149v1095 P) .nil .nil
def k1146 (P : Params) : BT := .node (o85v924 P) (k1145 P) .nil
def k1147 (P : Params) : BT := .node (o117v1063 P) .nil .nil
def k1148 (P : Params) : BT := .node (o53v353 P) (k1146 P) (k1147 P)
def k1149 (P : Params) : BT := .node (o21v84 P) (k1144 P) (k1148 P)
def k1150 (P : Params) : BT := .node (o141v1087 P) .nil .nil
def k1151 (P : Params) : BT := .node (o77v916 P) (k1150 P) .nil
def k1152 (P : Params) : BT := .node (o45v278 P) (k1151 P) (k993 P)
def k1153 (P : Params) : BT := .node (o125v1071 P) .nil .nil
def k1154 (P : Params) : BT := .node (o61v564 P) (k995 P) (k1153 P)
def k1155 (P : Params) : BT := .node (o29v169 P) (k1152 P) (k1154 P)
def k1156 (P : Params) : BT := .node (o13v24 P) (k1149 P) (k1155 P)
def k1157 (P : Params) : BT := .node (boot_o_5 P) (k1141 P) (k1156 P)
def k1158 (P : Params) : BT := .node (boot_o_1 P) (k1126 P) (k1157 P)
def k1159 (P : Params) : BT := .node (o128v1074 P) .nil .nil
def k1160 (P : Params) : BT := .node (o64v864 P) (k1159 P) .nil
def k1161 (P : Params) : BT := .node (o32v172 P) (k1160 P) (k1001 P)
def k1162 (P : Params) : BT := .node (o144v1090 P) .nil .nil
def k1163 (P : Params) : BT := .node (o80v919 P) (k1162 P) .nil
def k1164 (P : Params) : BT := .node (o112v1058 P) .nil .nil
def k1165 (P : Params) : BT := .node (o48v331 P) (k1163 P) (k1164 P)
def k1166 (P : Params) : BT := .node (o16v42 P) (k1161 P) (k1165 P)
def k1167 (P : Params) : BT := .node (o136v1082 P) .nil .nil
def k1168 (P : Params) : BT := .node (o72v911 P) (k1167 P) .nil
def k1169 (P : Params) : BT := .node (o40v235 P) (k1168 P) (k1007 P)
def k1170 (P : Params) : BT := .node (o120v1066 P) .nil .nil
def k1171 (P : Params) : BT := .node (o56v356 P) (k1009 P) (k1170 P)
def k1172 (P : Params) : BT := .node (o24v150 P) (k1169 P) (k1171 P)
def k1173 (P : Params) : BT := .node (boot_o_8 P) (k1166 P) (k1172 P)
def k1174 (P : Params) : BT := .node (o132v1078 P) .nil .nil
def k1175 (P : Params) : BT := .node (o68v907 P) (k1174 P) .nil
def k1176 (P : Params) : BT := .node (o36v220 P) (k1175 P) (k1014 P)
def k1177 (P : Params) : BT := .node (o148v1094 P) .nil .nil
def k1178 (P : Params) : BT := .node (o84v923 P) (k1177 P) .nil
def k1179 (P : Params) : BT := .node (o116v1062 P) .nil .nil
def k1180 (P : Params) : BT := .node (o52v352 P) (k1178 P) (k1179 P)
def k1181 (P : Params) : BT := .node (o20v83 P) (k1176 P) (k1180 P)
def k1182 (P : Params) : BT := .node (o140v1086 P) .nil .nil
def k1183 (P : Params) : BT := .node (o76v915 P) (k1182 P) .nil
def k1184 (P : Params) : BT := .node (o44v277 P) (k1183 P) (k1020 P)
def k1185 (P : Params) : BT := .node (o124v1070 P) .nil .nil
def k1186 (P : Params) : BT := .node (o60v552 P) (k1022 P) (k1185 P)
def k1187 (P : Params) : BT := .node (o28v168 P) (k1184 P) (k1186 P)
def k1188 (P : Params) : BT := .node (o12v1055 P) (k1181 P) (k1187 P)
def k1189 (P : Params) : BT := .node (boot_o_4 P) (k1173 P) (k1188 P)
def k1190 (P : Params) : BT := .node (o130v1076 P) .nil .nil
def k1191 (P : Params) : BT := .node (o66v885 P) (k1190 P) .nil
def k1192 (P : Params) : BT := .node (o34v197 P) (k1191 P) (k1027 P)
def k1193 (P : Params) : BT := .node (o146v1092 P) .nil .nil
def k1194 (P : Params) : BT := .node (o82v921 P) (k1193 P) .nil
def k1195 (P : Params) : BT := .node (o114v1060 P) .nil .nil
def k1196 (P : Params) : BT := .node (o50v350 P) (k1194 P) (k1195 P)
def k1197 (P : Params) : BT := .node (o18v72 P) (k1192 P) (k1196 P)
def k1198 (P : Params) : BT := .node (o138v1084 P) .nil .nil
def k1199 (P : Params) : BT := .node (o74v913 P) (k1198 P) .nil
def k1200 (P : Params) : BT := .node (o42v264 P) (k1199 P) (k1033 P)
def k1201 (P : Params) : BT := .node (o122v1068 P) .nil .nil
def k1202 (P : Params) : BT := .node (o58v386 P) (k1035 P) (k1201 P)
def k1203 (P : Params) : BT := .node (o26v166 P) (k1200 P) (k1202 P)
def k1204 (P : Params) : BT := .node (boot_o_10 P) (k1197 P) (k1203 P)
def k1205 (P : Params) : BT := .node (o134v1080 P) .nil .nil
def k1206 (P : Params) : BT := .node (o70v909 P) (k1205 P) .nil
def k1207 (P : Params) : BT := .node (o38v233 P) (k1206 P) (k1040 P)
def k1208 (P : Params) : BT := .node (o118v1064 P) .nil .nil
def k1209 (P : Params) : BT := .node (o54v354 P) (k1042 P) (k1208 P)
def k1210 (P : Params) : BT := .node (o22v137 P) (k1207 P) (k1209 P)
def k1211 (P : Params) : BT := .node (o142v1088 P) .nil .nil
def k1212 (P : Params) : BT := .node (o78v917 P) (k1211 P) .nil
def k1213 (P : Params) : BT := .node (o110v1056 P) .nil .nil
def k1214 (P : Params) : BT := .node (o46v316 P) (k1212 P) (k1213 P)
def k1215 (P : Params) : BT := .node (o126v1072 P) .nil .nil
def k1216 (P : Params) : BT := .node (o62v565 P) (k1047 P) (k1215 P)
def k1217 (P : Params) : BT := .node (o30v170 P) (k1214 P) (k1216 P)
def k1218 (P : Params) : BT := .node (o14v25 P) (k1210 P) (k1217 P)
def k1219 (P : Params) : BT := .node (boot_o_6 P) (k1204 P) (k1218 P)
def k1220 (P : Params) : BT := .node (boot_o_2 P) (k1189 P) (k1219 P)
def k1221 (P : Params) : BT := .node (boot_o_0 P) (k1158 P) (k1220 P)
def S20 (w : World) (os : OsState) : SharedT := ⟨(k1221 w.params), 150, lif, #[], drw, 605, os⟩
def SF (w : World) (os : OsState) : SharedT := ⟨(k1221 w.params), 150, lif, #[], drw, 605, os⟩
def KK (P : Params) : Frag := (nat_lit 2, boot_o_2 P) :: (nat_lit 3, o3v1054 P) :: (nat_lit 6, boot_o_6 P) :: (nat_lit 26, o26v166 P) :: (nat_lit 28, o28v168 P) :: (nat_lit 29, o29v169 P) :: (nat_lit 31, o31v171 P) :: (nat_lit 32, o32v172 P) :: (nat_lit 50, o50v350 P) :: (nat_lit 52, o52v352 P) :: (nat_lit 53, o53v353 P) :: (nat_lit 55, o55v355 P) :: (nat_lit 56, o56v356 P) :: (nat_lit 68, o68v907 P) :: (nat_lit 70, o70v909 P) :: (nat_lit 71, o71v910 P) :: (nat_lit 73, o73v912 P) :: (nat_lit 74, o74v913 P) :: (nat_lit 75, o75v914 P) :: (nat_lit 77, o77v916 P) :: (nat_lit 78, o78v917 P) :: (nat_lit 80, o80v919 P) :: (nat_lit 81, o81v920 P) :: (nat_lit 82, o82v921 P) :: (nat_lit 84, o84v923 P) :: (nat_lit 85, o85v924 P) :: (nat_lit 87, o87v926 P) :: (nat_lit 88, o88v927 P) :: (nat_lit 89, o89v928 P) :: (nat_lit 91, o91v930 P) :: (nat_lit 92, o92v931 P) :: (nat_lit 94, o94v933 P) :: (nat_lit 95, o95v934 P) :: (nat_lit 96, o96v935 P) :: (nat_lit 98, o98v937 P) :: (nat_lit 99, o99v938 P) :: (nat_lit 101, o101v940 P) :: (nat_lit 102, o102v941 P) :: (nat_lit 103, o103v942 P) :: (nat_lit 105, o105v944 P) :: (nat_lit 106, o106v945 P) :: (nat_lit 108, o108v947 P) :: (nat_lit 109, o109v948 P) :: (nat_lit 110, o110v1056 P) :: (nat_lit 112, o112v1058 P) :: (nat_lit 113, o113v1059 P) :: (nat_lit 115, o115v1061 P) :: (nat_lit 116, o116v1062 P) :: (nat_lit 117, o117v1063 P) :: (nat_lit 119, o119v1065 P) :: (nat_lit 120, o120v1066 P) :: (nat_lit 122, o122v1068 P) :: (nat_lit 123, o123v1069 P) :: (nat_lit 124, o124v1070 P) :: (nat_lit 126, o126v1072 P) :: (nat_lit 127, o127v1073 P) :: (nat_lit 129, o129v1075 P) :: (nat_lit 130, o130v1076 P) :: (nat_lit 131, o131v1077 P) :: (nat_lit 133, o133v1079 P) :: (nat_lit 134, o134v1080 P) :: (nat_lit 136, o136v1082 P) :: (nat_lit 137, o137v1083 P) :: (nat_lit 138, o138v1084 P) :: (nat_lit 140, o140v1086 P) :: (nat_lit 141, o141v1087 P) :: (nat_lit 143, o143v1089 P) :: (nat_lit 144, o144v1090 P) :: (nat_lit 145, o145v1091 P) :: (nat_lit 148, o148v1094 P) :: (nat_lit 149, o149v1095 P) :: (nat_lit 22, o22v137 P) :: (nat_lit 46, o46v316 P) :: (nat_lit 64, o64v864 P) :: []
def kas : List Addr := [2, 3, 6, 26, 28, 29, 31, 32, 50, 52, 53, 55, 56, 68, 70, 71, 73, 74, 75, 77, 78, 80, 81, 82, 84, 85, 87, 88, 89, 91, 92, 94, 95, 96, 98, 99, 101, 102, 103, 105, 106, 108, 109, 110, 112, 113, 115, 116, 117, 119, 120, 122, 123, 124, 126, 127, 129, 130, 131, 133, 134, 136, 137, 138, 140, 141, 143, 144, 145, 148, 149, 22, 46, 64]
end
end Mine
end HeadS
section HeadR
set_option maxRecDepth 1000000
set_option maxHeartbeats 0
namespace Mine
noncomputable section
def sts (i n : Nat) : List Stmt := ((behindTheImports pp).drop i).take n
def shape (l : List Frame) : Bool := match l with | .ret .. :: _ :: _ => true | _ => false
def look (r : Option (SharedT × Thread)) : Option (SharedT × Sem Fin × Code × Pos × Bool) := match r with | some (s, t) => some (s, t.cur, t.code, t.pos, shape t.stack) | none => none
def thr (r : Option (SharedT × Thread)) : Thread := match r with | some (_, t) => t | none => ⟨.unsupported "", cE, pos0, []⟩
theorem look_some {r : Option (SharedT × Thread)} {s : SharedT} {c : Code} {q : Pos} (h : look r = some (s, .pure (.again c), c, q, true)) : r = some (s, thr r) := by
  cases r with
  | none => cases h
  | some x => obtain ⟨s', t⟩ := x; simp only [look, Option.some.injEq, Prod.mk.injEq] at h; rw [h.1]; rfl
theorem look0 {r : Option (SharedT × Thread)} {s : SharedT} (h : r.map (·.1) = some s) : r = some (s, thr r) := by
  cases r with
  | none => cases h
  | some x => obtain ⟨s', t⟩ := x; simp only [Option.map_some, Option.some.injEq] at h; rw [h]; rfl
theorem shape_spec {l : List Frame} (h : shape l = true) : ∃ k hd g ls cd p kept f2 rest, l = Frame.ret k hd g ls cd p kept :: f2 :: rest := by
  cases l with
  | nil => cases h
  | cons a l => cases l with
    | nil => cases a <;> cases h
    | cons b l => cases a with
      | ret k hd g ls cd p kept => exact ⟨k, hd, g, ls, cd, p, kept, b, l, rfl⟩
      | gen => cases h
theorem look_thr {r : Option (SharedT × Thread)} {s : SharedT} {c : Code} {q : Pos} (h : look r = some (s, .pure (.again c), c, q, true)) :
    ∃ k hd g ls cd p kept f2 rest, thr r = ⟨.pure (.again c), c, q, Frame.ret k hd g ls cd p kept :: f2 :: rest⟩ := by
  cases r with
  | none => cases h
  | some x =>
    obtain ⟨s', ⟨cur, code, pos, stack⟩⟩ := x
    simp only [look, Option.some.injEq, Prod.mk.injEq] at h
    obtain ⟨_, h1, h2, h3, h4⟩ := h
    obtain ⟨k, hd, g, ls, cd, p, kept, f2, rest, e⟩ := shape_spec h4
    exact ⟨k, hd, g, ls, cd, p, kept, f2, rest, by show Thread.mk cur code pos stack = _; rw [h1, h2, h3, e]⟩
theorem set_same (f : Obj → Obj) : ∀ (T : BT) (a : Nat), (∀ o, T.get a = some o → f o = o) → T.set a f = T
  | .nil, _, _ => rfl
  | .node v l r, a, h => by
    rw [BT.set_node]
    rw [BT.get_node] at h
    by_cases h0 : a = 0
    · rw [if_pos h0] at h ⊢; rw [h v rfl]
    · rw [if_neg h0] at h ⊢
      by_cases h1 : a % 2 = 1
      · rw [if_pos h1] at h ⊢; rw [set_same f l (a / 2) h]
      · rw [if_neg h1] at h ⊢; rw [set_same f r (a / 2 - 1) h]
def esOf (o : Obj) : Array (Int × Value) := match o.data with | .set a _ _ => a | _ => #[]
def plOf (o : Obj) : Array Nat := match o.data with | .set _ _ t => t.place | _ => #[]
def arrOf (o : Obj) : Array Value := match o.data with | .seq a _ => a | _ => #[]
def eqEs : List (Int × Value) → List (Int × Value) → Bool
  | [], [] => true
  | (a, .int k t) :: xs, (b, .int k' t') :: ys => (a == b) && ((k == k') && ((t == t') && eqEs xs ys))
  | _, _ => false
def eqNs : List Nat → List Nat → Bool
  | [], [] => true
  | a :: xs, b :: ys => (a == b) && eqNs xs ys
  | _, _ => false
def eqInts : List Value → List Value → Bool
  | [], [] => true
  | .int k t :: xs, .int k' t' :: ys => (k == k') && ((t == t') && eqInts xs ys)
  | _, _ => false
theorem eqEs_eq : ∀ xs ys, eqEs xs ys = true → xs = ys
  | [], [], _ => rfl
  | (a, .int k t) :: xs, (b, .int k' t') :: ys, h => by
    simp only [eqEs, Bool.and_eq_true, beq_iff_eq] at h
    obtain ⟨rfl, rfl, rfl, h⟩ := h
    rw [eqEs_eq xs ys h]
  | [], _ :: _, h => by simp [eqEs] at h
  | (a, v) :: xs, ys, h => by
    cases v <;> (try (simp [eqEs] at h; done))
    cases ys with
    | nil => simp [eqEs] at h
    | cons y ys =>
      obtain ⟨b, u⟩ := y
      cases u <;> (try (simp [eqEs] at h; done))
      simp only [eqEs, Bool.and_eq_true, beq_iff_eq] at h
      obtain ⟨rfl, rfl, rfl, h⟩ := h
      rw [eqEs_eq xs ys h]
theorem eqNs_eq : ∀ xs ys, eqNs xs ys = true → xs = ys
  | [], [], _ => rfl
  | a :: xs, b :: ys, h => by
    simp only [eqNs, Bool.and_eq_true, beq_iff_eq] at h
    obtain ⟨rfl, h⟩ := h
    rw [eqNs_eq xs ys h]
  | [], _ :: _, h => by simp [eqNs] at h
  | _ :: _, [], h => by simp [eqNs] at h
theorem eqInts_eq : ∀ xs ys, eqInts xs ys = true → xs = ys
  | [], [], _ => rfl
  | [], _ :: _, h => by simp [eqInts] at h
  | v :: xs, ys, h => by
    cases v <;> (try (simp [eqInts] at h; done))
    cases ys with
    | nil => simp [eqInts] at h
    | cons u ys =>
      cases u <;> (try (simp [eqInts] at h; done))
      simp only [eqInts, Bool.and_eq_true, beq_iff_eq] at h
      obtain ⟨rfl, rfl, h⟩ := h
      rw [eqInts_eq xs ys h]
def putArr (es : Array (Int × Value)) (pl : Array Nat) (o : Obj) : Obj := match o with | ⟨c, d, .set _ n t, sl⟩ => ⟨c, d, .set es n { t with place := pl }, sl⟩ | o => o
def putSeq (xs : Array Value) (o : Obj) : Obj := match o with | ⟨c, d, .seq _ n, sl⟩ => ⟨c, d, .seq xs n, sl⟩ | o => o
theorem putArr_same (o : Obj) : putArr (esOf o) (plOf o) o = o := by
  obtain ⟨c, d, dt, sl⟩ := o
  cases dt <;> rfl
theorem putSeq_same (o : Obj) : putSeq (arrOf o) o = o := by
  obtain ⟨c, d, dt, sl⟩ := o
  cases dt <;> rfl
def norm (a : Nat) (o' : Obj) (r : Option (SharedT × Thread)) : Option (SharedT × Thread) := match r with
  | some (s, t) => match s.tree.get a with
    | some o => match eqEs (esOf o).toList (esOf o').toList && eqNs (plOf o).toList (plOf o').toList with
      | true => some ({ s with tree := s.tree.set a (fun o => putArr (esOf o') (plOf o') o) }, t)
      | false => none
    | none => none
  | none => none
theorem norm_eq {a : Nat} {o' : Obj} {r : Option (SharedT × Thread)} {x : SharedT × Thread} (h : norm a o' r = some x) : r = some x := by
  cases r with
  | none => cases h
  | some y =>
    obtain ⟨s, t⟩ := y
    simp only [norm] at h
    split at h
    · rename_i o ho
      split at h
      · rename_i e
        rw [Bool.and_eq_true] at e
        have e1 := Array.toList_inj.mp (eqEs_eq _ _ e.1)
        have e2 := Array.toList_inj.mp (eqNs_eq _ _ e.2)
        rw [set_same _ s.tree a (fun q hq => by rw [ho] at hq; cases hq; rw [← e1, ← e2]; exact putArr_same o)] at h
        exact h
      · cases h
    · cases h
theorem look_norm {a : Nat} {o' : Obj} {r : Option (SharedT × Thread)} {y : SharedT × Sem Fin × Code × Pos × Bool} (h : look (norm a o' r) = some y) : look r = some y := by
  cases e : norm a o' r with
  | none => rw [e] at h; cases h
  | some x => rw [e] at h; rw [norm_eq e]; exact h
def normL (a : Nat) (o' : Obj) (r : Option (SharedT × Thread)) : Option (SharedT × Thread) := match r with
  | some (s, t) => match s.tree.get a with
    | some o => match eqInts (arrOf o).toList (arrOf o').toList with
      | true => some ({ s with tree := s.tree.set a (fun o => putSeq (arrOf o') o) }, t)
      | false => none
    | none => none
  | none => none
theorem normL_same {a : Nat} {o' : Obj} {r : Option (SharedT × Thread)} {x : SharedT × Thread} (h : normL a o' r = some x) : r = some x := by
  cases r with
  | none => cases h
  | some y =>
    obtain ⟨s, t⟩ := y
    simp only [normL] at h
    split at h
    · rename_i o ho
      split at h
      · rename_i e
        have e1 := Array.toList_inj.mp (eqInts_eq _ _ e)
        rw [set_same _ s.tree a (fun q hq => by rw [ho] at hq; cases hq; rw [← e1]; exact putSeq_same o)] at h
        exact h
      · cases h
    · cases h
theorem normL_eq {a : Nat} {o' : Obj} {r : Option (SharedT × Thread)} {s : SharedT} (h : (normL a o' r).map (·.1) = some s) : r = some (s, thr r) := by
  obtain ⟨⟨s', t⟩, h1, h2⟩ := Option.map_eq_some_iff.mp h
  have := normL_same h1
  cases h2
  rw [this]; rfl
def Loop (c : Code) (q : Pos) (n : Nat) (s s' : World → OsState → SharedT) (w : World) : Prop :=
  ∀ (os : OsState) (k : Result → Sem Fin) (h : Option Value) (g : Bool) (l : List Value) (cd : Code) (p : Pos) (kept : List Value) (f2 : Frame) (rest : List Frame),
    segGoT treeTable pp w 11 ann 1 n (s w os) ⟨.pure (.again c), c, q, .ret k h g l cd p kept :: f2 :: rest⟩ = some (s' w os, ⟨.pure (.again c), c, q, .ret k h g l cd p kept :: f2 :: rest⟩)
theorem loop_at {r : Option (SharedT × Thread)} {s0 : SharedT} {c : Code} {q : Pos} {n : Nat} {s s' : World → OsState → SharedT} {w : World} {os : OsState} (h : look r = some (s0, .pure (.again c), c, q, true)) (L : Loop c q n s s' w) :
    segGoT treeTable pp w 11 ann 1 n (s w os) (thr r) = some (s' w os, thr r) := by
  obtain ⟨k, hd, g, ls, cd, p, kept, f2, rest, e⟩ := look_thr h
  rw [e]; exact L os k hd g ls cd p kept f2 rest
def c1L0 : Code := .builtin "list.extend.loop" ⟨[(PySem.Value.ref 17), (PySem.Value.ref 18), PySem.Value.none], []⟩
def q1L0 : Pos := (PySem.Pos.mk 2 81 2 106)
def r1L0 (w : World) (os : OsState) : Option (SharedT × Thread) := segGoT treeTable pp w 11 ann 1 113 (S1 w os) (piecesOf (sts 1 1) env cE pos1 BB)
theorem a1L0f (w : World) (os : OsState) : look (r1L0 (w.withFollow "special-get-raises" false) os) = some (S1L0c0 (w.withFollow "special-get-raises" false) os, .pure (.again c1L0), c1L0, q1L0, true) := by
  unfold r1L0; rw [Fast.te10295753902157049106, Fast.te14364793385576792824]; kernel_rfl
theorem a1L0t (w : World) (os : OsState) : look (r1L0 (w.withFollow "special-get-raises" true) os) = some (S1L0c0 (w.withFollow "special-get-raises" true) os, .pure (.again c1L0), c1L0, q1L0, true) := by
  unfold r1L0; rw [Fast.te10295753902157049106, Fast.te14364793385576792824]; kernel_rfl
theorem a1L0 (w : World) (os : OsState) : look (r1L0 w os) = some (S1L0c0 w os, .pure (.again c1L0), c1L0, q1L0, true) :=
  byRow2 "special-get-raises" (P := fun w => look (r1L0 w os) = some (S1L0c0 w os, .pure (.again c1L0), c1L0, q1L0, true)) (fun w => a1L0f w os) (fun w => a1L0t w os) w
theorem l1L0c0 (w : World) : Loop (c1L0) (q1L0) 136 S1L0c0 S1L0c1 w := by intro os k h g l cd p kept f2 rest; rw [Fast.te10295753902157049106, Fast.te14364793385576792824]; kernel_rfl
theorem l1L0c1 (w : World) : Loop (c1L0) (q1L0) 119 S1L0c1 S1L0c2 w := by intro os k h g l cd p kept f2 rest; rw [Fast.te10295753902157049106, Fast.te14364793385576792824]; kernel_rfl
def c1Z0 : Code := .builtin "set.update.loop" ⟨[(PySem.Value.ref 22), (PySem.Value.ref 23)], []⟩
def q1Z0 : Pos := (PySem.Pos.mk 2 9 2 107)
def r1Z0 (w : World) (os : OsState) : Option (SharedT × Thread) := segGoT treeTable pp w 11 ann 1 79 (S1L0c2 w os) (thr (r1L0 w os))
theorem n1Z0f (w : World) (os : OsState) : look (norm 22 (o22v85 (w.withFollow "special-get-raises" false).params) (r1Z0 (w.withFollow "special-get-raises" false) os)) = some (S1Z0c0 (w.withFollow "special-get-raises" false) os, .pure (.again c1Z0), c1Z0, q1Z0, true) := by
  unfold r1Z0 r1L0; rw [Fast.te10295753902157049106, Fast.te14364793385576792824]; kernel_rfl
theorem n1Z0t (w : World) (os : OsState) : look (norm 22 (o22v85 (w.withFollow "special-get-raises" true).params) (r1Z0 (w.withFollow "special-get-raises" true) os)) = some (S1Z0c0 (w.withFollow "special-get-raises" true) os, .pure (.again c1Z0), c1Z0, q1Z0, true) := by
  unfold r1Z0 r1L0; rw [Fast.te10295753902157049106, Fast.te14364793385576792824]; kernel_rfl
theorem n1Z0 (w : World) (os : OsState) : look (norm 22 (o22v85 w.params) (r1Z0 w os)) = some (S1Z0c0 w os, .pure (.again c1Z0), c1Z0, q1Z0, true) :=
  byRow2 "special-get-raises" (P := fun w => look (norm 22 (o22v85 w.params) (r1Z0 w os)) = some (S1Z0c0 w os, .pure (.again c1Z0), c1Z0, q1Z0, true)) (fun w => n1Z0f w os) (fun w => n1Z0t w os) w
theorem a1Z0 (w : World) (os : OsState) : look (r1Z0 w os) = some (S1Z0c0 w os, .pure (.again c1Z0), c1Z0, q1Z0, true) := look_norm (n1Z0 w os)
theorem l1Z0c0f (w : World) : Loop (c1Z0) (q1Z0) 162 S1Z0c0 S1Z0c1 (w.withFollow "special-get-raises" false) := by intro os k h g l cd p kept f2 rest; exact norm_eq (a := 22) (o' := o22v104 (w.withFollow "special-get-raises" false).params) (by rw [Fast.te10295753902157049106, Fast.te14364793385576792824]; kernel_rfl)
theorem l1Z0c0t (w : World) : Loop (c1Z0) (q1Z0) 162 S1Z0c0 S1Z0c1 (w.withFollow "special-get-raises" true) := by intro os k h g l cd p kept f2 rest; exact norm_eq (a := 22) (o' := o22v104 (w.withFollow "special-get-raises" true).params) (by rw [Fast.te10295753902157049106, Fast.te14364793385576792824]; kernel_rfl)
theorem l1Z0c0 (w : World) : Loop (c1Z0) (q1Z0) 162 S1Z0c0 S1Z0c1 w := byRow2 "special-get-raises" (P := fun w => Loop (c1Z0) (q1Z0) 162 S1Z0c0 S1Z0c1 w) l1Z0c0f l1Z0c0t w
theorem l1Z0c1f (w : World) : Loop (c1Z0) (q1Z0) 160 S1Z0c1 S1Z0c2 (w.withFollow "special-get-raises" false) := by intro os k h g l cd p kept f2 rest; exact norm_eq (a := 22) (o' := o22v115 (w.withFollow "special-get-raises" false).params) (by rw [Fast.te10295753902157049106, Fast.te14364793385576792824]; kernel_rfl)
theorem l1Z0c1t (w : World) : Loop (c1Z0) (q1Z0) 160 S1Z0c1 S1Z0c2 (w.withFollow "special-get-raises" true) := by intro os k h g l cd p kept f2 rest; exact norm_eq (a := 22) (o' := o22v115 (w.withFollow "special-get-raises" true).params) (by rw [Fast.te10295753902157049106, Fast.te14364793385576792824]; kernel_rfl)
theorem l1Z0c1 (w : World) : Loop (c1Z0) (q1Z0) 160 S1Z0c1 S1Z0c2 w := byRow2 "special-get-raises" (P := fun w => Loop (c1Z0) (q1Z0) 160 S1Z0c1 S1Z0c2 w) l1Z0c1f l1Z0c1t w
theorem l1Z0c2f (w : World) : Loop (c1Z0) (q1Z0) 162 S1Z0c2 S1Z0c3 (w.withFollow "special-get-raises" false) := by intro os k h g l cd p kept f2 rest; exact norm_eq (a := 22) (o' := o22v126 (w.withFollow "special-get-raises" false).params) (by rw [Fast.te10295753902157049106, Fast.te14364793385576792824]; kernel_rfl)
theorem l1Z0c2t (w : World) : Loop (c1Z0) (q1Z0) 162 S1Z0c2 S1Z0c3 (w.withFollow "special-get-raises" true) := by intro os k h g l cd p kept f2 rest; exact norm_eq (a := 22) (o' := o22v126 (w.withFollow "special-get-raises" true).params) (by rw [Fast.te10295753902157049106, Fast.te14364793385576792824]; kernel_rfl)
theorem l1Z0c2 (w : World) : Loop (c1Z0) (q1Z0) 162 S1Z0c2 S1Z0c3 w := byRow2 "special-get-raises" (P := fun w => Loop (c1Z0) (q1Z0) 162 S1Z0c2 S1Z0c3 w) l1Z0c2f l1Z0c2t w
theorem l1Z0c3f (w : World) : Loop (c1Z0) (q1Z0) 40 S1Z0c3 S1Z0c4 (w.withFollow "special-get-raises" false) := by intro os k h g l cd p kept f2 rest; exact norm_eq (a := 22) (o' := o22v137 (w.withFollow "special-get-raises" false).params) (by rw [Fast.te10295753902157049106, Fast.te14364793385576792824]; kernel_rfl)
theorem l1Z0c3t (w : World) : Loop (c1Z0) (q1Z0) 40 S1Z0c3 S1Z0c4 (w.withFollow "special-get-raises" true) := by intro os k h g l cd p kept f2 rest; exact norm_eq (a := 22) (o' := o22v137 (w.withFollow "special-get-raises" true).params) (by rw [Fast.te10295753902157049106, Fast.te14364793385576792824]; kernel_rfl)
theorem l1Z0c3 (w : World) : Loop (c1Z0) (q1Z0) 40 S1Z0c3 S1Z0c4 w := byRow2 "special-get-raises" (P := fun w => Loop (c1Z0) (q1Z0) 40 S1Z0c3 S1Z0c4 w) l1Z0c3f l1Z0c3t w
theorem e1f (w : World) (os : OsState) : segRunT treeTable pp (w.withFollow "special-get-raises" false) 11 ann 1 28 (S1Z0c4 (w.withFollow "special-get-raises" false) os) (thr (r1Z0 (w.withFollow "special-get-raises" false) os)) = some (.next, S2 (w.withFollow "special-get-raises" false) os, cE, pos2) := by
  unfold r1Z0 r1L0; rw [Fast.te10295753902157049106, Fast.te10110043849684766642, Fast.te14364793385576792824]; kernel_rfl
theorem e1t (w : World) (os : OsState) : segRunT treeTable pp (w.withFollow "special-get-raises" true) 11 ann 1 28 (S1Z0c4 (w.withFollow "special-get-raises" true) os) (thr (r1Z0 (w.withFollow "special-get-raises" true) os)) = some (.next, S2 (w.withFollow "special-get-raises" true) os, cE, pos2) := by
  unfold r1Z0 r1L0; rw [Fast.te10295753902157049106, Fast.te10110043849684766642, Fast.te14364793385576792824]; kernel_rfl
theorem e1 (w : World) (os : OsState) : segRunT treeTable pp w 11 ann 1 28 (S1Z0c4 w os) (thr (r1Z0 w os)) = some (.next, S2 w os, cE, pos2) :=
  byRow2 "special-get-raises" (P := fun w => segRunT treeTable pp w 11 ann 1 28 (S1Z0c4 w os) (thr (r1Z0 w os)) = some (.next, S2 w os, cE, pos2)) (fun w => e1f w os) (fun w => e1t w os) w
theorem p1 (w : World) (os : OsState) : segRun treeTable pp w 11 ann 1 (113 + (136 + (119 + (79 + (162 + (160 + (162 + (40 + 28)))))))) (S1 w os).abs (piecesOf (sts 1 1) env cE pos1 BB) = some (.next, (S2 w os).abs, cE, pos2) :=
  (seg_go (segGo_of (look_some (a1L0 w os))) (seg_go (segGo_of (loop_at (a1L0 w os) (l1L0c0 w))) (seg_go (segGo_of (loop_at (a1L0 w os) (l1L0c1 w))) (seg_go (segGo_of (look_some (a1Z0 w os))) (seg_go (segGo_of (loop_at (a1Z0 w os) (l1Z0c0 w))) (seg_go (segGo_of (loop_at (a1Z0 w os) (l1Z0c1 w))) (seg_go (segGo_of (loop_at (a1Z0 w os) (l1Z0c2 w))) (seg_go (segGo_of (loop_at (a1Z0 w os) (l1Z0c3 w))) (segRun_of (e1 w os))))))))))
def c3L0 : Code := .builtin "list.extend.loop" ⟨[(PySem.Value.ref 35), (PySem.Value.ref 36), PySem.Value.none], []⟩
def q3L0 : Pos := (PySem.Pos.mk 5 38 5 61)
def r3L0 (w : World) (os : OsState) : Option (SharedT × Thread) := segGoT treeTable pp w 11 ann 1 106 (S3 w os) (piecesOf (sts 3 1) env cE pos3 BB)
theorem a3L0f (w : World) (os : OsState) : look (r3L0 (w.withFollow "special-get-raises" false) os) = some (S3L0c0 (w.withFollow "special-get-raises" false) os, .pure (.again c3L0), c3L0, q3L0, true) := by
  unfold r3L0; rw [Fast.te10295753902157049106, Fast.te14364793385576792824]; kernel_rfl
theorem a3L0t (w : World) (os : OsState) : look (r3L0 (w.withFollow "special-get-raises" true) os) = some (S3L0c0 (w.withFollow "special-get-raises" true) os, .pure (.again c3L0), c3L0, q3L0, true) := by
  unfold r3L0; rw [Fast.te10295753902157049106, Fast.te14364793385576792824]; kernel_rfl
theorem a3L0 (w : World) (os : OsState) : look (r3L0 w os) = some (S3L0c0 w os, .pure (.again c3L0), c3L0, q3L0, true) :=
  byRow2 "special-get-raises" (P := fun w => look (r3L0 w os) = some (S3L0c0 w os, .pure (.again c3L0), c3L0, q3L0, true)) (fun w => a3L0f w os) (fun w => a3L0t w os) w
theorem l3L0c0 (w : World) : Loop (c3L0) (q3L0) 68 S3L0c0 S3L0c1 w := by intro os k h g l cd p kept f2 rest; rw [Fast.te10295753902157049106, Fast.te14364793385576792824]; kernel_rfl
def c3L1 : Code := .builtin "list.extend.loop" ⟨[(PySem.Value.ref 41), (PySem.Value.ref 42), PySem.Value.none], []⟩
def q3L1 : Pos := (PySem.Pos.mk 5 64 5 87)
def r3L1 (w : World) (os : OsState) : Option (SharedT × Thread) := segGoT treeTable pp w 11 ann 1 127 (S3L0c1 w os) (thr (r3L0 w os))
theorem a3L1f (w : World) (os : OsState) : look (r3L1 (w.withFollow "special-get-raises" false) os) = some (S3L1c0 (w.withFollow "special-get-raises" false) os, .pure (.again c3L1), c3L1, q3L1, true) := by
  unfold r3L1 r3L0; rw [Fast.te10295753902157049106, Fast.te14364793385576792824]; kernel_rfl
theorem a3L1t (w : World) (os : OsState) : look (r3L1 (w.withFollow "special-get-raises" true) os) = some (S3L1c0 (w.withFollow "special-get-raises" true) os, .pure (.again c3L1), c3L1, q3L1, true) := by
  unfold r3L1 r3L0; rw [Fast.te10295753902157049106, Fast.te14364793385576792824]; kernel_rfl
theorem a3L1 (w : World) (os : OsState) : look (r3L1 w os) = some (S3L1c0 w os, .pure (.again c3L1), c3L1, q3L1, true) :=
  byRow2 "special-get-raises" (P := fun w => look (r3L1 w os) = some (S3L1c0 w os, .pure (.again c3L1), c3L1, q3L1, true)) (fun w => a3L1f w os) (fun w => a3L1t w os) w
theorem l3L1c0 (w : World) : Loop (c3L1) (q3L1) 85 S3L1c0 S3L1c1 w := by intro os k h g l cd p kept f2 rest; rw [Fast.te10295753902157049106, Fast.te14364793385576792824]; kernel_rfl
def c3Z0 : Code := .builtin "set.update.loop" ⟨[(PySem.Value.ref 46), (PySem.Value.ref 47)], []⟩
def q3Z0 : Pos := (PySem.Pos.mk 5 9 5 88)
def r3Z0 (w : World) (os : OsState) : Option (SharedT × Thread) := segGoT treeTable pp w 11 ann 1 79 (S3L1c1 w os) (thr (r3L1 w os))
theorem n3Z0f (w : World) (os : OsState) : look (norm 46 (o46v279 (w.withFollow "special-get-raises" false).params) (r3Z0 (w.withFollow "special-get-raises" false) os)) = some (S3Z0c0 (w.withFollow "special-get-raises" false) os, .pure (.again c3Z0), c3Z0, q3Z0, true) := by
  unfold r3Z0 r3L1 r3L0; rw [Fast.te10295753902157049106, Fast.te14364793385576792824]; kernel_rfl
theorem n3Z0t (w : World) (os : OsState) : look (norm 46 (o46v279 (w.withFollow "special-get-raises" true).params) (r3Z0 (w.withFollow "special-get-raises" true) os)) = some (S3Z0c0 (w.withFollow "special-get-raises" true) os, .pure (.again c3Z0), c3Z0, q3Z0, true) := by
  unfold r3Z0 r3L1 r3L0; rw [Fast.te10295753902157049106, Fast.te14364793385576792824]; kernel_rfl
theorem n3Z0 (w : World) (os : OsState) : look (norm 46 (o46v279 w.params) (r3Z0 w os)) = some (S3Z0c0 w os, .pure (.again c3Z0), c3Z0, q3Z0, true) :=
  byRow2 "special-get-raises" (P := fun w => look (norm 46 (o46v279 w.params) (r3Z0 w os)) = some (S3Z0c0 w os, .pure (.again c3Z0), c3Z0, q3Z0, true)) (fun w => n3Z0f w os) (fun w => n3Z0t w os) w
theorem a3Z0 (w : World) (os : OsState) : look (r3Z0 w os) = some (S3Z0c0 w os, .pure (.again c3Z0), c3Z0, q3Z0, true) := look_norm (n3Z0 w os)
theorem l3Z0c0f (w : World) : Loop (c3Z0) (q3Z0) 162 S3Z0c0 S3Z0c1 (w.withFollow "special-get-raises" false) := by intro os k h g l cd p kept f2 rest; exact norm_eq (a := 46) (o' := o46v303 (w.withFollow "special-get-raises" false).params) (by rw [Fast.te10295753902157049106, Fast.te14364793385576792824]; kernel_rfl)
theorem l3Z0c0t (w : World) : Loop (c3Z0) (q3Z0) 162 S3Z0c0 S3Z0c1 (w.withFollow "special-get-raises" true) := by intro os k h g l cd p kept f2 rest; exact norm_eq (a := 46) (o' := o46v303 (w.withFollow "special-get-raises" true).params) (by rw [Fast.te10295753902157049106, Fast.te14364793385576792824]; kernel_rfl)
theorem l3Z0c0 (w : World) : Loop (c3Z0) (q3Z0) 162 S3Z0c0 S3Z0c1 w := byRow2 "special-get-raises" (P := fun w => Loop (c3Z0) (q3Z0) 162 S3Z0c0 S3Z0c1 w) l3Z0c0f l3Z0c0t w
theorem l3Z0c1f (w : World) : Loop (c3Z0) (q3Z0) 120 S3Z0c1 S3Z0c2 (w.withFollow "special-get-raises" false) := by intro os k h g l cd p kept f2 rest; exact norm_eq (a := 46) (o' := o46v316 (w.withFollow "special-get-raises" false).params) (by rw [Fast.te10295753902157049106, Fast.te14364793385576792824]; kernel_rfl)
theorem l3Z0c1t (w : World) : Loop (c3Z0) (q3Z0) 120 S3Z0c1 S3Z0c2 (w.withFollow "special-get-raises" true) := by intro os k h g l cd p kept f2 rest; exact norm_eq (a := 46) (o' := o46v316 (w.withFollow "special-get-raises" true).params) (by rw [Fast.te10295753902157049106, Fast.te14364793385576792824]; kernel_rfl)
theorem l3Z0c1 (w : World) : Loop (c3Z0) (q3Z0) 120 S3Z0c1 S3Z0c2 w := byRow2 "special-get-raises" (P := fun w => Loop (c3Z0) (q3Z0) 120 S3Z0c1 S3Z0c2 w) l3Z0c1f l3Z0c1t w
theorem e3f (w : World) (os : OsState) : segRunT treeTable pp (w.withFollow "special-get-raises" false) 11 ann 1 28 (S3Z0c2 (w.withFollow "special-get-raises" false) os) (thr (r3Z0 (w.withFollow "special-get-raises" false) os)) = some (.next, S4 (w.withFollow "special-get-raises" false) os, cE, pos4) := by
  unfold r3Z0 r3L1 r3L0; rw [Fast.te10295753902157049106, Fast.te10110043849684766642, Fast.te14364793385576792824]; kernel_rfl
theorem e3t (w : World) (os : OsState) : segRunT treeTable pp (w.withFollow "special-get-raises" true) 11 ann 1 28 (S3Z0c2 (w.withFollow "special-get-raises" true) os) (thr (r3Z0 (w.withFollow "special-get-raises" true) os)) = some (.next, S4 (w.withFollow "special-get-raises" true) os, cE, pos4) := by
  unfold r3Z0 r3L1 r3L0; rw [Fast.te10295753902157049106, Fast.te10110043849684766642, Fast.te14364793385576792824]; kernel_rfl
theorem e3 (w : World) (os : OsState) : segRunT treeTable pp w 11 ann 1 28 (S3Z0c2 w os) (thr (r3Z0 w os)) = some (.next, S4 w os, cE, pos4) :=
  byRow2 "special-get-raises" (P := fun w => segRunT treeTable pp w 11 ann 1 28 (S3Z0c2 w os) (thr (r3Z0 w os)) = some (.next, S4 w os, cE, pos4)) (fun w => e3f w os) (fun w => e3t w os) w
theorem p3 (w : World) (os : OsState) : segRun treeTable pp w 11 ann 1 (106 + (68 + (127 + (85 + (79 + (162 + (120 + 28))))))) (S3 w os).abs (piecesOf (sts 3 1) env cE pos3 BB) = some (.next, (S4 w os).abs, cE, pos4) :=
  (seg_go (segGo_of (look_some (a3L0 w os))) (seg_go (segGo_of (loop_at (a3L0 w os) (l3L0c0 w))) (seg_go (segGo_of (look_some (a3L1 w os))) (seg_go (segGo_of (loop_at (a3L1 w os) (l3L1c0 w))) (seg_go (segGo_of (look_some (a3Z0 w os))) (seg_go (segGo_of (loop_at (a3Z0 w os) (l3Z0c0 w))) (seg_go (segGo_of (loop_at (a3Z0 w os) (l3Z0c1 w))) (segRun_of (e3 w os)))))))))
def c5L0 : Code := .builtin "list.extend.loop" ⟨[(PySem.Value.ref 59), (PySem.Value.ref 60), PySem.Value.none], []⟩
def q5L0 : Pos := (PySem.Pos.mk 8 24 8 51)
def r5L0 (w : World) (os : OsState) : Option (SharedT × Thread) := segGoT treeTable pp w 11 ann 1 103 (S5 w os) (piecesOf (sts 5 1) env cE pos5 BB)
theorem a5L0f (w : World) (os : OsState) : look (r5L0 (w.withFollow "special-get-raises" false) os) = some (S5L0c0 (w.withFollow "special-get-raises" false) os, .pure (.again c5L0), c5L0, q5L0, true) := by
  unfold r5L0; rw [Fast.te10295753902157049106, Fast.te14364793385576792824]; kernel_rfl
theorem a5L0t (w : World) (os : OsState) : look (r5L0 (w.withFollow "special-get-raises" true) os) = some (S5L0c0 (w.withFollow "special-get-raises" true) os, .pure (.again c5L0), c5L0, q5L0, true) := by
  unfold r5L0; rw [Fast.te10295753902157049106, Fast.te14364793385576792824]; kernel_rfl
theorem a5L0 (w : World) (os : OsState) : look (r5L0 w os) = some (S5L0c0 w os, .pure (.again c5L0), c5L0, q5L0, true) :=
  byRow2 "special-get-raises" (P := fun w => look (r5L0 w os) = some (S5L0c0 w os, .pure (.again c5L0), c5L0, q5L0, true)) (fun w => a5L0f w os) (fun w => a5L0t w os) w
theorem l5L0c0 (w : World) : Loop (c5L0) (q5L0) 136 S5L0c0 S5L0c1 w := by intro os k h g l cd p kept f2 rest; rw [Fast.te10295753902157049106, Fast.te14364793385576792824]; kernel_rfl
theorem l5L0c1 (w : World) : Loop (c5L0) (q5L0) 136 S5L0c1 S5L0c2 w := by intro os k h g l cd p kept f2 rest; rw [Fast.te10295753902157049106, Fast.te14364793385576792824]; kernel_rfl
theorem l5L0c2 (w : World) : Loop (c5L0) (q5L0) 136 S5L0c2 S5L0c3 w := by intro os k h g l cd p kept f2 rest; rw [Fast.te10295753902157049106, Fast.te14364793385576792824]; kernel_rfl
theorem l5L0c3 (w : World) : Loop (c5L0) (q5L0) 136 S5L0c3 S5L0c4 w := by intro os k h g l cd p kept f2 rest; rw [Fast.te10295753902157049106, Fast.te14364793385576792824]; kernel_rfl
theorem l5L0c4 (w : World) : Loop (c5L0) (q5L0) 136 S5L0c4 S5L0c5 w := by intro os k h g l cd p kept f2 rest; rw [Fast.te10295753902157049106, Fast.te14364793385576792824]; kernel_rfl
theorem l5L0c5 (w : World) : Loop (c5L0) (q5L0) 136 S5L0c5 S5L0c6 w := by intro os k h g l cd p kept f2 rest; rw [Fast.te10295753902157049106, Fast.te14364793385576792824]; kernel_rfl
theorem l5L0c6 (w : World) : Loop (c5L0) (q5L0) 136 S5L0c6 S5L0c7 w := by intro os k h g l cd p kept f2 rest; rw [Fast.te10295753902157049106, Fast.te14364793385576792824]; kernel_rfl
theorem l5L0c7 (w : World) : Loop (c5L0) (q5L0) 136 S5L0c7 S5L0c8 w := by intro os k h g l cd p kept f2 rest; rw [Fast.te10295753902157049106, Fast.te14364793385576792824]; kernel_rfl
theorem l5L0c8 (w : World) : Loop (c5L0) (q5L0) 136 S5L0c8 S5L0c9 w := by intro os k h g l cd p kept f2 rest; rw [Fast.te10295753902157049106, Fast.te14364793385576792824]; kernel_rfl
theorem l5L0c9 (w : World) : Loop (c5L0) (q5L0) 136 S5L0c9 S5L0c10 w := by intro os k h g l cd p kept f2 rest; rw [Fast.te10295753902157049106, Fast.te14364793385576792824]; kernel_rfl
theorem l5L0c10 (w : World) : Loop (c5L0) (q5L0) 136 S5L0c10 S5L0c11 w := by intro os k h g l cd p kept f2 rest; rw [Fast.te10295753902157049106, Fast.te14364793385576792824]; kernel_rfl
theorem l5L0c11 (w : World) : Loop (c5L0) (q5L0) 119 S5L0c11 S5L0c12 w := by intro os k h g l cd p kept f2 rest; rw [Fast.te10295753902157049106, Fast.te14364793385576792824]; kernel_rfl
def c5Z0 : Code := .builtin "set.update.loop" ⟨[(PySem.Value.ref 64), (PySem.Value.ref 65)], []⟩
def q5Z0 : Pos := (PySem.Pos.mk 8 9 8 52)
def r5M (w : World) (os : OsState) : Option (SharedT × Thread) := segGoT treeTable pp w 11 ann 1 29 (S5L0c12 w os) (thr (r5L0 w os))
theorem a5Nf (w : World) (os : OsState) : (normL 63 (o63v566 (w.withFollow "special-get-raises" false).params) (r5M (w.withFollow "special-get-raises" false) os)).map (·.1) = some (S5M (w.withFollow "special-get-raises" false) os) := by
  unfold r5M r5L0; rw [Fast.te10295753902157049106, Fast.te14364793385576792824]; kernel_rfl
theorem a5Nt (w : World) (os : OsState) : (normL 63 (o63v566 (w.withFollow "special-get-raises" true).params) (r5M (w.withFollow "special-get-raises" true) os)).map (·.1) = some (S5M (w.withFollow "special-get-raises" true) os) := by
  unfold r5M r5L0; rw [Fast.te10295753902157049106, Fast.te14364793385576792824]; kernel_rfl
theorem a5N (w : World) (os : OsState) : (normL 63 (o63v566 w.params) (r5M w os)).map (·.1) = some (S5M w os) :=
  byRow2 "special-get-raises" (P := fun w => (normL 63 (o63v566 w.params) (r5M w os)).map (·.1) = some (S5M w os)) (fun w => a5Nf w os) (fun w => a5Nt w os) w
theorem a5M (w : World) (os : OsState) : r5M w os = some (S5M w os, thr (r5M w os)) := normL_eq (a5N w os)
def r5Z0 (w : World) (os : OsState) : Option (SharedT × Thread) := segGoT treeTable pp w 11 ann 1 50 (S5M w os) (thr (r5M w os))
theorem n5Z0f (w : World) (os : OsState) : look (norm 64 (o64v567 (w.withFollow "special-get-raises" false).params) (r5Z0 (w.withFollow "special-get-raises" false) os)) = some (S5Z0c0 (w.withFollow "special-get-raises" false) os, .pure (.again c5Z0), c5Z0, q5Z0, true) := by
  unfold r5Z0 r5M r5L0; rw [Fast.te10295753902157049106, Fast.te14364793385576792824]; kernel_rfl
theorem n5Z0t (w : World) (os : OsState) : look (norm 64 (o64v567 (w.withFollow "special-get-raises" true).params) (r5Z0 (w.withFollow "special-get-raises" true) os)) = some (S5Z0c0 (w.withFollow "special-get-raises" true) os, .pure (.again c5Z0), c5Z0, q5Z0, true) := by
  unfold r5Z0 r5M r5L0; rw [Fast.te10295753902157049106, Fast.te14364793385576792824]; kernel_rfl
theorem n5Z0 (w : World) (os : OsState) : look (norm 64 (o64v567 w.params) (r5Z0 w os)) = some (S5Z0c0 w os, .pure (.again c5Z0), c5Z0, q5Z0, true) :=
  byRow2 "special-get-raises" (P := fun w => look (norm 64 (o64v567 w.params) (r5Z0 w os)) = some (S5Z0c0 w os, .pure (.again c5Z0), c5Z0, q5Z0, true)) (fun w => n5Z0f w os) (fun w => n5Z0t w os) w
theorem a5Z0 (w : World) (os : OsState) : look (r5Z0 w os) = some (S5Z0c0 w os, .pure (.again c5Z0), c5Z0, q5Z0, true) := look_norm (n5Z0 w os)
theorem l5Z0c0f (w : World) : Loop (c5Z0) (q5Z0) 162 S5Z0c0 S5Z0c1 (w.withFollow "special-get-raises" false) := by intro os k h g l cd p kept f2 rest; exact norm_eq (a := 64) (o' := o64v594 (w.withFollow "special-get-raises" false).params) (by rw [Fast.te10295753902157049106, Fast.te14364793385576792824]; kernel_rfl)
theorem l5Z0c0t (w : World) : Loop (c5Z0) (q5Z0) 162 S5Z0c0 S5Z0c1 (w.withFollow "special-get-raises" true) := by intro os k h g l cd p kept f2 rest; exact norm_eq (a := 64) (o' := o64v594 (w.withFollow "special-get-raises" true).params) (by rw [Fast.te10295753902157049106, Fast.te14364793385576792824]; kernel_rfl)
theorem l5Z0c0 (w : World) : Loop (c5Z0) (q5Z0) 162 S5Z0c0 S5Z0c1 w := byRow2 "special-get-raises" (P := fun w => Loop (c5Z0) (q5Z0) 162 S5Z0c0 S5Z0c1 w) l5Z0c0f l5Z0c0t w
theorem l5Z0c1f (w : World) : Loop (c5Z0) (q5Z0) 160 S5Z0c1 S5Z0c2 (w.withFollow "special-get-raises" false) := by intro os k h g l cd p kept f2 rest; exact norm_eq (a := 64) (o' := o64v609 (w.withFollow "special-get-raises" false).params) (by rw [Fast.te10295753902157049106, Fast.te14364793385576792824]; kernel_rfl)
theorem l5Z0c1t (w : World) : Loop (c5Z0) (q5Z0) 160 S5Z0c1 S5Z0c2 (w.withFollow "special-get-raises" true) := by intro os k h g l cd p kept f2 rest; exact norm_eq (a := 64) (o' := o64v609 (w.withFollow "special-get-raises" true).params) (by rw [Fast.te10295753902157049106, Fast.te14364793385576792824]; kernel_rfl)
theorem l5Z0c1 (w : World) : Loop (c5Z0) (q5Z0) 160 S5Z0c1 S5Z0c2 w := byRow2 "special-get-raises" (P := fun w => Loop (c5Z0) (q5Z0) 160 S5Z0c1 S5Z0c2 w) l5Z0c1f l5Z0c1t w
theorem l5Z0c2f (w : World) : Loop (c5Z0) (q5Z0) 162 S5Z0c2 S5Z0c3 (w.withFollow "special-get-raises" false) := by intro os k h g l cd p kept f2 rest; exact norm_eq (a := 64) (o' := o64v624 (w.withFollow "special-get-raises" false).params) (by rw [Fast.te10295753902157049106, Fast.te14364793385576792824]; kernel_rfl)
theorem l5Z0c2t (w : World) : Loop (c5Z0) (q5Z0) 162 S5Z0c2 S5Z0c3 (w.withFollow "special-get-raises" true) := by intro os k h g l cd p kept f2 rest; exact norm_eq (a := 64) (o' := o64v624 (w.withFollow "special-get-raises" true).params) (by rw [Fast.te10295753902157049106, Fast.te14364793385576792824]; kernel_rfl)
theorem l5Z0c2 (w : World) : Loop (c5Z0) (q5Z0) 162 S5Z0c2 S5Z0c3 w := byRow2 "special-get-raises" (P := fun w => Loop (c5Z0) (q5Z0) 162 S5Z0c2 S5Z0c3 w) l5Z0c2f l5Z0c2t w
theorem l5Z0c3f (w : World) : Loop (c5Z0) (q5Z0) 160 S5Z0c3 S5Z0c4 (w.withFollow "special-get-raises" false) := by intro os k h g l cd p kept f2 rest; exact norm_eq (a := 64) (o' := o64v639 (w.withFollow "special-get-raises" false).params) (by rw [Fast.te10295753902157049106, Fast.te14364793385576792824]; kernel_rfl)
theorem l5Z0c3t (w : World) : Loop (c5Z0) (q5Z0) 160 S5Z0c3 S5Z0c4 (w.withFollow "special-get-raises" true) := by intro os k h g l cd p kept f2 rest; exact norm_eq (a := 64) (o' := o64v639 (w.withFollow "special-get-raises" true).params) (by rw [Fast.te10295753902157049106, Fast.te14364793385576792824]; kernel_rfl)
theorem l5Z0c3 (w : World) : Loop (c5Z0) (q5Z0) 160 S5Z0c3 S5Z0c4 w := byRow2 "special-get-raises" (P := fun w => Loop (c5Z0) (q5Z0) 160 S5Z0c3 S5Z0c4 w) l5Z0c3f l5Z0c3t w
theorem l5Z0c4f (w : World) : Loop (c5Z0) (q5Z0) 160 S5Z0c4 S5Z0c5 (w.withFollow "special-get-raises" false) := by intro os k h g l cd p kept f2 rest; exact norm_eq (a := 64) (o' := o64v654 (w.withFollow "special-get-raises" false).params) (by rw [Fast.te10295753902157049106, Fast.te14364793385576792824]; kernel_rfl)
theorem l5Z0c4t (w : World) : Loop (c5Z0) (q5Z0) 160 S5Z0c4 S5Z0c5 (w.withFollow "special-get-raises" true) := by intro os k h g l cd p kept f2 rest; exact norm_eq (a := 64) (o' := o64v654 (w.withFollow "special-get-raises" true).params) (by rw [Fast.te10295753902157049106, Fast.te14364793385576792824]; kernel_rfl)
theorem l5Z0c4 (w : World) : Loop (c5Z0) (q5Z0) 160 S5Z0c4 S5Z0c5 w := byRow2 "special-get-raises" (P := fun w => Loop (c5Z0) (q5Z0) 160 S5Z0c4 S5Z0c5 w) l5Z0c4f l5Z0c4t w
theorem l5Z0c5f (w : World) : Loop (c5Z0) (q5Z0) 160 S5Z0c5 S5Z0c6 (w.withFollow "special-get-raises" false) := by intro os k h g l cd p kept f2 rest; exact norm_eq (a := 64) (o' := o64v669 (w.withFollow "special-get-raises" false).params) (by rw [Fast.te10295753902157049106, Fast.te14364793385576792824]; kernel_rfl)
theorem l5Z0c5t (w : World) : Loop (c5Z0) (q5Z0) 160 S5Z0c5 S5Z0c6 (w.withFollow "special-get-raises" true) := by intro os k h g l cd p kept f2 rest; exact norm_eq (a := 64) (o' := o64v669 (w.withFollow "special-get-raises" true).params) (by rw [Fast.te10295753902157049106, Fast.te14364793385576792824]; kernel_rfl)
theorem l5Z0c5 (w : World) : Loop (c5Z0) (q5Z0) 160 S5Z0c5 S5Z0c6 w := byRow2 "special-get-raises" (P := fun w => Loop (c5Z0) (q5Z0) 160 S5Z0c5 S5Z0c6 w) l5Z0c5f l5Z0c5t w
theorem l5Z0c6f (w : World) : Loop (c5Z0) (q5Z0) 80 S5Z0c6 S5Z0c7 (w.withFollow "special-get-raises" false) := by intro os k h g l cd p kept f2 rest; exact norm_eq (a := 64) (o' := o64v684 (w.withFollow "special-get-raises" false).params) (by rw [Fast.te10295753902157049106, Fast.te14364793385576792824]; kernel_rfl)
theorem l5Z0c6t (w : World) : Loop (c5Z0) (q5Z0) 80 S5Z0c6 S5Z0c7 (w.withFollow "special-get-raises" true) := by intro os k h g l cd p kept f2 rest; exact norm_eq (a := 64) (o' := o64v684 (w.withFollow "special-get-raises" true).params) (by rw [Fast.te10295753902157049106, Fast.te14364793385576792824]; kernel_rfl)
theorem l5Z0c6 (w : World) : Loop (c5Z0) (q5Z0) 80 S5Z0c6 S5Z0c7 w := byRow2 "special-get-raises" (P := fun w => Loop (c5Z0) (q5Z0) 80 S5Z0c6 S5Z0c7 w) l5Z0c6f l5Z0c6t w
theorem l5Z0c7f (w : World) : Loop (c5Z0) (q5Z0) 80 S5Z0c7 S5Z0c8 (w.withFollow "special-get-raises" false) := by intro os k h g l cd p kept f2 rest; exact norm_eq (a := 64) (o' := o64v699 (w.withFollow "special-get-raises" false).params) (by rw [Fast.te10295753902157049106, Fast.te14364793385576792824]; kernel_rfl)
theorem l5Z0c7t (w : World) : Loop (c5Z0) (q5Z0) 80 S5Z0c7 S5Z0c8 (w.withFollow "special-get-raises" true) := by intro os k h g l cd p kept f2 rest; exact norm_eq (a := 64) (o' := o64v699 (w.withFollow "special-get-raises" true).params) (by rw [Fast.te10295753902157049106, Fast.te14364793385576792824]; kernel_rfl)
theorem l5Z0c7 (w : World) : Loop (c5Z0) (q5Z0) 80 S5Z0c7 S5Z0c8 w := byRow2 "special-get-raises" (P := fun w => Loop (c5Z0) (q5Z0) 80 S5Z0c7 S5Z0c8 w) l5Z0c7f l5Z0c7t w
theorem l5Z0c8f (w : World) : Loop (c5Z0) (q5Z0) 80 S5Z0c8 S5Z0c9 (w.withFollow "special-get-raises" false) := by intro os k h g l cd p kept f2 rest; exact norm_eq (a := 64) (o' := o64v714 (w.withFollow "special-get-raises" false).params) (by rw [Fast.te10295753902157049106, Fast.te14364793385576792824]; kernel_rfl)
theorem l5Z0c8t (w : World) : Loop (c5Z0) (q5Z0) 80 S5Z0c8 S5Z0c9 (w.withFollow "special-get-raises" true) := by intro os k h g l cd p kept f2 rest; exact norm_eq (a := 64) (o' := o64v714 (w.withFollow "special-get-raises" true).params) (by rw [Fast.te10295753902157049106, Fast.te14364793385576792824]; kernel_rfl)
theorem l5Z0c8 (w : World) : Loop (c5Z0) (q5Z0) 80 S5Z0c8 S5Z0c9 w := byRow2 "special-get-raises" (P := fun w => Loop (c5Z0) (q5Z0) 80 S5Z0c8 S5Z0c9 w) l5Z0c8f l5Z0c8t w
theorem l5Z0c9f (w : World) : Loop (c5Z0) (q5Z0) 80 S5Z0c9 S5Z0c10 (w.withFollow "special-get-raises" false) := by intro os k h g l cd p kept f2 rest; exact norm_eq (a := 64) (o' := o64v729 (w.withFollow "special-get-raises" false).params) (by rw [Fast.te10295753902157049106, Fast.te14364793385576792824]; kernel_rfl)
theorem l5Z0c9t (w : World) : Loop (c5Z0) (q5Z0) 80 S5Z0c9 S5Z0c10 (w.withFollow "special-get-raises" true) := by intro os k h g l cd p kept f2 rest; exact norm_eq (a := 64) (o' := o64v729 (w.withFollow "special-get-raises" true).params) (by rw [Fast.te10295753902157049106, Fast.te14364793385576792824]; kernel_rfl)
theorem l5Z0c9 (w : World) : Loop (c5Z0) (q5Z0) 80 S5Z0c9 S5Z0c10 w := byRow2 "special-get-raises" (P := fun w => Loop (c5Z0) (q5Z0) 80 S5Z0c9 S5Z0c10 w) l5Z0c9f l5Z0c9t w
theorem l5Z0c10f (w : World) : Loop (c5Z0) (q5Z0) 80 S5Z0c10 S5Z0c11 (w.withFollow "special-get-raises" false) := by intro os k h g l cd p kept f2 rest; exact norm_eq (a := 64) (o' := o64v744 (w.withFollow "special-get-raises" false).params) (by rw [Fast.te10295753902157049106, Fast.te14364793385576792824]; kernel_rfl)
theorem l5Z0c10t (w : World) : Loop (c5Z0) (q5Z0) 80 S5Z0c10 S5Z0c11 (w.withFollow "special-get-raises" true) := by intro os k h g l cd p kept f2 rest; exact norm_eq (a := 64) (o' := o64v744 (w.withFollow "special-get-raises" true).params) (by rw [Fast.te10295753902157049106, Fast.te14364793385576792824]; kernel_rfl)
theorem l5Z0c10 (w : World) : Loop (c5Z0) (q5Z0) 80 S5Z0c10 S5Z0c11 w := byRow2 "special-get-raises" (P := fun w => Loop (c5Z0) (q5Z0) 80 S5Z0c10 S5Z0c11 w) l5Z0c10f l5Z0c10t w
theorem l5Z0c11f (w : World) : Loop (c5Z0) (q5Z0) 80 S5Z0c11 S5Z0c12 (w.withFollow "special-get-raises" false) := by intro os k h g l cd p kept f2 rest; exact norm_eq (a := 64) (o' := o64v759 (w.withFollow "special-get-raises" false).params) (by rw [Fast.te10295753902157049106, Fast.te14364793385576792824]; kernel_rfl)
theorem l5Z0c11t (w : World) : Loop (c5Z0) (q5Z0) 80 S5Z0c11 S5Z0c12 (w.withFollow "special-get-raises" true) := by intro os k h g l cd p kept f2 rest; exact norm_eq (a := 64) (o' := o64v759 (w.withFollow "special-get-raises" true).params) (by rw [Fast.te10295753902157049106, Fast.te14364793385576792824]; kernel_rfl)
theorem l5Z0c11 (w : World) : Loop (c5Z0) (q5Z0) 80 S5Z0c11 S5Z0c12 w := byRow2 "special-get-raises" (P := fun w => Loop (c5Z0) (q5Z0) 80 S5Z0c11 S5Z0c12 w) l5Z0c11f l5Z0c11t w
theorem l5Z0c12f (w : World) : Loop (c5Z0) (q5Z0) 60 S5Z0c12 S5Z0c13 (w.withFollow "special-get-raises" false) := by intro os k h g l cd p kept f2 rest; exact norm_eq (a := 64) (o' := o64v774 (w.withFollow "special-get-raises" false).params) (by rw [Fast.te10295753902157049106, Fast.te14364793385576792824]; kernel_rfl)
theorem l5Z0c12t (w : World) : Loop (c5Z0) (q5Z0) 60 S5Z0c12 S5Z0c13 (w.withFollow "special-get-raises" true) := by intro os k h g l cd p kept f2 rest; exact norm_eq (a := 64) (o' := o64v774 (w.withFollow "special-get-raises" true).params) (by rw [Fast.te10295753902157049106, Fast.te14364793385576792824]; kernel_rfl)
theorem l5Z0c12 (w : World) : Loop (c5Z0) (q5Z0) 60 S5Z0c12 S5Z0c13 w := byRow2 "special-get-raises" (P := fun w => Loop (c5Z0) (q5Z0) 60 S5Z0c12 S5Z0c13 w) l5Z0c12f l5Z0c12t w
theorem l5Z0c13f (w : World) : Loop (c5Z0) (q5Z0) 22 S5Z0c13 S5Z0c14 (w.withFollow "special-get-raises" false) := by intro os k h g l cd p kept f2 rest; exact norm_eq (a := 64) (o' := o64v789 (w.withFollow "special-get-raises" false).params) (by rw [Fast.te10295753902157049106, Fast.te14364793385576792824]; kernel_rfl)
theorem l5Z0c13t (w : World) : Loop (c5Z0) (q5Z0) 22 S5Z0c13 S5Z0c14 (w.withFollow "special-get-raises" true) := by intro os k h g l cd p kept f2 rest; exact norm_eq (a := 64) (o' := o64v789 (w.withFollow "special-get-raises" true).params) (by rw [Fast.te10295753902157049106, Fast.te14364793385576792824]; kernel_rfl)
theorem l5Z0c13 (w : World) : Loop (c5Z0) (q5Z0) 22 S5Z0c13 S5Z0c14 w := byRow2 "special-get-raises" (P := fun w => Loop (c5Z0) (q5Z0) 22 S5Z0c13 S5Z0c14 w) l5Z0c13f l5Z0c13t w
theorem l5Z0c14f (w : World) : Loop (c5Z0) (q5Z0) 80 S5Z0c14 S5Z0c15 (w.withFollow "special-get-raises" false) := by intro os k h g l cd p kept f2 rest; exact norm_eq (a := 64) (o' := o64v804 (w.withFollow "special-get-raises" false).params) (by rw [Fast.te10295753902157049106, Fast.te14364793385576792824]; kernel_rfl)
theorem l5Z0c14t (w : World) : Loop (c5Z0) (q5Z0) 80 S5Z0c14 S5Z0c15 (w.withFollow "special-get-raises" true) := by intro os k h g l cd p kept f2 rest; exact norm_eq (a := 64) (o' := o64v804 (w.withFollow "special-get-raises" true).params) (by rw [Fast.te10295753902157049106, Fast.te14364793385576792824]; kernel_rfl)
theorem l5Z0c14 (w : World) : Loop (c5Z0) (q5Z0) 80 S5Z0c14 S5Z0c15 w := byRow2 "special-get-raises" (P := fun w => Loop (c5Z0) (q5Z0) 80 S5Z0c14 S5Z0c15 w) l5Z0c14f l5Z0c14t w
theorem l5Z0c15f (w : World) : Loop (c5Z0) (q5Z0) 80 S5Z0c15 S5Z0c16 (w.withFollow "special-get-raises" false) := by intro os k h g l cd p kept f2 rest; exact norm_eq (a := 64) (o' := o64v819 (w.withFollow "special-get-raises" false).params) (by rw [Fast.te10295753902157049106, Fast.te14364793385576792824]; kernel_rfl)
theorem l5Z0c15t (w : World) : Loop (c5Z0) (q5Z0) 80 S5Z0c15 S5Z0c16 (w.withFollow "special-get-raises" true) := by intro os k h g l cd p kept f2 rest; exact norm_eq (a := 64) (o' := o64v819 (w.withFollow "special-get-raises" true).params) (by rw [Fast.te10295753902157049106, Fast.te14364793385576792824]; kernel_rfl)
theorem l5Z0c15 (w : World) : Loop (c5Z0) (q5Z0) 80 S5Z0c15 S5Z0c16 w := byRow2 "special-get-raises" (P := fun w => Loop (c5Z0) (q5Z0) 80 S5Z0c15 S5Z0c16 w) l5Z0c15f l5Z0c15t w
theorem l5Z0c16f (w : World) : Loop (c5Z0) (q5Z0) 80 S5Z0c16 S5Z0c17 (w.withFollow "special-get-raises" false) := by intro os k h g l cd p kept f2 rest; exact norm_eq (a := 64) (o' := o64v834 (w.withFollow "special-get-raises" false).params) (by rw [Fast.te10295753902157049106, Fast.te14364793385576792824]; kernel_rfl)
theorem l5Z0c16t (w : World) : Loop (c5Z0) (q5Z0) 80 S5Z0c16 S5Z0c17 (w.withFollow "special-get-raises" true) := by intro os k h g l cd p kept f2 rest; exact norm_eq (a := 64) (o' := o64v834 (w.withFollow "special-get-raises" true).params) (by rw [Fast.te10295753902157049106, Fast.te14364793385576792824]; kernel_rfl)
theorem l5Z0c16 (w : World) : Loop (c5Z0) (q5Z0) 80 S5Z0c16 S5Z0c17 w := byRow2 "special-get-raises" (P := fun w => Loop (c5Z0) (q5Z0) 80 S5Z0c16 S5Z0c17 w) l5Z0c16f l5Z0c16t w
theorem l5Z0c17f (w : World) : Loop (c5Z0) (q5Z0) 80 S5Z0c17 S5Z0c18 (w.withFollow "special-get-raises" false) := by intro os k h g l cd p kept f2 rest; exact norm_eq (a := 64) (o' := o64v849 (w.withFollow "special-get-raises" false).params) (by rw [Fast.te10295753902157049106, Fast.te14364793385576792824]; kernel_rfl)
theorem l5Z0c17t (w : World) : Loop (c5Z0) (q5Z0) 80 S5Z0c17 S5Z0c18 (w.withFollow "special-get-raises" true) := by intro os k h g l cd p kept f2 rest; exact norm_eq (a := 64) (o' := o64v849 (w.withFollow "special-get-raises" true).params) (by rw [Fast.te10295753902157049106, Fast.te14364793385576792824]; kernel_rfl)
theorem l5Z0c17 (w : World) : Loop (c5Z0) (q5Z0) 80 S5Z0c17 S5Z0c18 w := byRow2 "special-get-raises" (P := fun w => Loop (c5Z0) (q5Z0) 80 S5Z0c17 S5Z0c18 w) l5Z0c17f l5Z0c17t w
theorem l5Z0c18f (w : World) : Loop (c5Z0) (q5Z0) 80 S5Z0c18 S5Z0c19 (w.withFollow "special-get-raises" false) := by intro os k h g l cd p kept f2 rest; exact norm_eq (a := 64) (o' := o64v864 (w.withFollow "special-get-raises" false).params) (by rw [Fast.te10295753902157049106, Fast.te14364793385576792824]; kernel_rfl)
theorem l5Z0c18t (w : World) : Loop (c5Z0) (q5Z0) 80 S5Z0c18 S5Z0c19 (w.withFollow "special-get-raises" true) := by intro os k h g l cd p kept f2 rest; exact norm_eq (a := 64) (o' := o64v864 (w.withFollow "special-get-raises" true).params) (by rw [Fast.te10295753902157049106, Fast.te14364793385576792824]; kernel_rfl)
theorem l5Z0c18 (w : World) : Loop (c5Z0) (q5Z0) 80 S5Z0c18 S5Z0c19 w := byRow2 "special-get-raises" (P := fun w => Loop (c5Z0) (q5Z0) 80 S5Z0c18 S5Z0c19 w) l5Z0c18f l5Z0c18t w
theorem e5f (w : World) (os : OsState) : segRunT treeTable pp (w.withFollow "special-get-raises" false) 11 ann 1 28 (S5Z0c19 (w.withFollow "special-get-raises" false) os) (thr (r5Z0 (w.withFollow "special-get-raises" false) os)) = some (.next, S6 (w.withFollow "special-get-raises" false) os, cE, pos6) := by
  unfold r5Z0 r5M r5L0; rw [Fast.te10295753902157049106, Fast.te10110043849684766642, Fast.te14364793385576792824]; kernel_rfl
theorem e5t (w : World) (os : OsState) : segRunT treeTable pp (w.withFollow "special-get-raises" true) 11 ann 1 28 (S5Z0c19 (w.withFollow "special-get-raises" true) os) (thr (r5Z0 (w.withFollow "special-get-raises" true) os)) = some (.next, S6 (w.withFollow "special-get-raises" true) os, cE, pos6) := by
  unfold r5Z0 r5M r5L0; rw [Fast.te10295753902157049106, Fast.te10110043849684766642, Fast.te14364793385576792824]; kernel_rfl
theorem e5 (w : World) (os : OsState) : segRunT treeTable pp w 11 ann 1 28 (S5Z0c19 w os) (thr (r5Z0 w os)) = some (.next, S6 w os, cE, pos6) :=
  byRow2 "special-get-raises" (P := fun w => segRunT treeTable pp w 11 ann 1 28 (S5Z0c19 w os) (thr (r5Z0 w os)) = some (.next, S6 w os, cE, pos6)) (fun w => e5f w os) (fun w => e5t w os) w
theorem p5 (w : World) (os : OsState) : segRun treeTable pp w 11 ann 1 (103 + (136 + (136 + (136 + (136 + (136 + (136 + (136 + (136 + (136 + (136 + (136 + (119 + (29 + (50 + (162 + (160 + (162 + (160 + (160 + (160 + (80 + (80 + (80 + (80 + (80 + (80 + (60 + (22 + (80 + (80 + (80 + (80 + (80 + 28)))))))))))))))))))))))))))))))))) (S5 w os).abs (piecesOf (sts 5 1) env cE pos5 BB) = some (.next, (S6 w os).abs, cE, pos6) :=
  (seg_go (segGo_of (look_some (a5L0 w os))) (seg_go (segGo_of (loop_at (a5L0 w os) (l5L0c0 w))) (seg_go (segGo_of (loop_at (a5L0 w os) (l5L0c1 w))) (seg_go (segGo_of (loop_at (a5L0 w os) (l5L0c2 w))) (seg_go (segGo_of (loop_at (a5L0 w os) (l5L0c3 w))) (seg_go (segGo_of (loop_at (a5L0 w os) (l5L0c4 w))) (seg_go (segGo_of (loop_at (a5L0 w os) (l5L0c5 w))) (seg_go (segGo_of (loop_at (a5L0 w os) (l5L0c6 w))) (seg_go (segGo_of (loop_at (a5L0 w os) (l5L0c7 w))) (seg_go (segGo_of (loop_at (a5L0 w os) (l5L0c8 w))) (seg_go (segGo_of (loop_at (a5L0 w os) (l5L0c9 w))) (seg_go (segGo_of (loop_at (a5L0 w os) (l5L0c10 w))) (seg_go (segGo_of (loop_at (a5L0 w os) (l5L0c11 w))) (seg_go (segGo_of (a5M w os)) (seg_go (segGo_of (look_some (a5Z0 w os))) (seg_go (segGo_of (loop_at (a5Z0 w os) (l5Z0c0 w))) (seg_go (segGo_of (loop_at (a5Z0 w os) (l5Z0c1 w))) (seg_go (segGo_of (loop_at (a5Z0 w os) (l5Z0c2 w))) (seg_go (segGo_of (loop_at (a5Z0 w os) (l5Z0c3 w))) (seg_go (segGo_of (loop_at (a5Z0 w os) (l5Z0c4 w))) (seg_go (segGo_of (loop_at (a5Z0 w os) (l5Z0c5 w))) (seg_go (segGo_of (loop_at (a5Z0 w os) (l5Z0c6 w))) (seg_go (segGo_of (loop_at (a5Z0 w os) (l5Z0c7 w))) (seg_go (segGo_of (loop_at (a5Z0 w os) (l5Z0c8 w))) (seg_go (segGo_of (loop_at (a5Z0 w os) (l5Z0c9 w))) (seg_go (segGo_of (loop_at (a5Z0 w os) (l5Z0c10 w))) (seg_go (segGo_of (loop_at (a5Z0 w os) (l5Z0c11 w))) (seg_go (segGo_of (loop_at (a5Z0 w os) (l5Z0c12 w))) (seg_go (segGo_of (loop_at (a5Z0 w os) (l5Z0c13 w))) (seg_go (segGo_of (loop_at (a5Z0 w os) (l5Z0c14 w))) (seg_go (segGo_of (loop_at (a5Z0 w os) (l5Z0c15 w))) (seg_go (segGo_of (loop_at (a5Z0 w os) (l5Z0c16 w))) (seg_go (segGo_of (loop_at (a5Z0 w os) (l5Z0c17 w))) (seg_go (segGo_of (loop_at (a5Z0 w os) (l5Z0c18 w))) (segRun_of (e5 w os))))))))))))))))))))))))))))))))))))
theorem p0 (w : World) (os : OsState) : segRun treeTable pp w 11 ann 1 10 (S0 w os).abs (piecesOf (sts 0 1) env cE pos0 BB) = some (.next, (S1 w os).abs, cE, pos1) :=
  segRun_of (by rw [Fast.te10110043849684766642, Fast.te14364793385576792824]; kernel_rfl)
theorem p2 (w : World) (os : OsState) : segRun treeTable pp w 11 ann 1 30 (S2 w os).abs (piecesOf (sts 2 1) env cE pos2 BB) = some (.next, (S3 w os).abs, cE, pos3) :=
  segRun_of (by rw [Fast.te10110043849684766642, Fast.te14364793385576792824]; kernel_rfl)
theorem p4 (w : World) (os : OsState) : segRun treeTable pp w 11 ann 1 30 (S4 w os).abs (piecesOf (sts 4 1) env cE pos4 BB) = some (.next, (S5 w os).abs, cE, pos5) :=
  segRun_of (by rw [Fast.te10110043849684766642, Fast.te14364793385576792824]; kernel_rfl)
theorem p6 (w : World) (os : OsState) : segRun treeTable pp w 11 ann 1 186 (S6 w os).abs (piecesOf (sts 6 7) env cE pos6 BB) = some (.next, (S13 w os).abs, cE, pos13) :=
  segRun_of (by rw [Fast.te10110043849684766642, Fast.te14364793385576792824]; kernel_rfl)
theorem p13 (w : World) (os : OsState) : segRun treeTable pp w 11 ann 1 193 (S13 w os).abs (piecesOf (sts 13 7) env cE pos13 BB) = some (.next, (S20 w os).abs, cE, pos20) :=
  segRun_of (by rw [Fast.te10110043849684766642, Fast.te14364793385576792824]; kernel_rfl)
end
end Mine
end HeadR
section HeadL
set_option maxRecDepth 1000000
set_option maxHeartbeats 0
namespace Mine
noncomputable section
def qq : Program := view pp [1, 2, 3, 4, 5, 6, 8, 9, 10, 11, 12, 14, 15, 16, 17, 18, 19]
def ll : List Str := [Str.ofString "b1_set", Str.ofString "c8_set", Str.ofString "c9_set"]
theorem bt (w : World) (os : OsState) : (⟨boot_heap w.params, Array.mk [], boot_drawn, boot_toks, os⟩ : Shared) = (SB w os).abs := by kernel_rfl
theorem pre (w : World) (os : OsState) : topGo treeTable pp w 11 ann 12 (SB w os).abs (topStub pp) = some ((SA w os).abs, ⟨denote treeTable (.body (behindTheImports pp) env), cE, prePos, [topFrame qpos]⟩) := by
  rw [Fast.te15667345088766844465, Fast.te11892475500146522536, Fast.te14364793385576792824]; kernel_rfl
theorem blk (w : World) (os : OsState) : segRun treeTable pp w 11 ann 1 1 (SA w os).abs (blockOf (behindTheImports pp) env cE prePos [topFrame qpos]) = some (.next, (S0 w os).abs, cE, pos0) :=
  segRun_of (by rw [Fast.te10110043849684766642, Fast.te14364793385576792824]; kernel_rfl)
theorem fin (w : World) (os : OsState) : topRun treeTable pp w 11 ann 2 (S20 w os).abs ⟨doneF .next, cE, pos20, [topFrame qpos]⟩ = some (SF w os).abs := by
  rw [Fast.te14082659384304107361, Fast.te14364793385576792824]; kernel_rfl

theorem body_eq : behindTheImports pp = sts 0 1 ++ (sts 1 1 ++ (sts 2 1 ++ (sts 3 1 ++ (sts 4 1 ++ (sts 5 1 ++ (sts 6 7 ++ (sts 13 7 ++ ([])))))))) := by kernel_rfl
theorem run1 (w : World) (os : OsState) : topRun treeTable pp w 11 ann (10 + ((113 + (136 + (119 + (79 + (162 + (160 + (162 + (40 + 28)))))))) + (30 + ((106 + (68 + (127 + (85 + (79 + (162 + (120 + 28))))))) + (30 + ((103 + (136 + (136 + (136 + (136 + (136 + (136 + (136 + (136 + (136 + (136 + (136 + (119 + (29 + (50 + (162 + (160 + (162 + (160 + (160 + (160 + (80 + (80 + (80 + (80 + (80 + (80 + (60 + (22 + (80 + (80 + (80 + (80 + (80 + 28)))))))))))))))))))))))))))))))))) + (186 + (193 + 2)))))))) (S0 w os).abs (restOf (behindTheImports pp) env cE pos0 [topFrame qpos]) = some (SF w os).abs := by
  rw [body_eq]; exact (piece_app (p0 w os) (piece_app (p1 w os) (piece_app (p2 w os) (piece_app (p3 w os) (piece_app (p4 w os) (piece_app (p5 w os) (piece_app (p6 w os) (piece_app (p13 w os) (piece_nil (fin w os))))))))))
theorem run2 (w : World) (os : OsState) : topRun treeTable pp w 11 ann (12 + (1 + (10 + ((113 + (136 + (119 + (79 + (162 + (160 + (162 + (40 + 28)))))))) + (30 + ((106 + (68 + (127 + (85 + (79 + (162 + (120 + 28))))))) + (30 + ((103 + (136 + (136 + (136 + (136 + (136 + (136 + (136 + (136 + (136 + (136 + (136 + (119 + (29 + (50 + (162 + (160 + (162 + (160 + (160 + (160 + (80 + (80 + (80 + (80 + (80 + (80 + (60 + (22 + (80 + (80 + (80 + (80 + (80 + 28)))))))))))))))))))))))))))))))))) + (186 + (193 + 2)))))))))) (SB w os).abs (topStub pp) = some (SF w os).abs :=
  go_top (pre w os) (piece_block (blk w os) (run1 w os))
def H1 (P : Params) : Heap := absHeap (k1221 P) 150 lif
theorem szs (w : World) : ((boot_heap w.params).isNs mainGlobals && (Array.mk [] : Array GenState).size == 0, (boot_heap w.params).objs.size, (boot_heap w.params).nsMap mainGlobals "__annotations__") = (true, 11, ann) := by kernel_rfl
theorem opn (w : World) : (fencedOpening treeTable pp w 12000).map (fun s => (s.heap, s.gens, s.drawn, s.toks)) = some (boot_heap w.params, Array.mk [], boot_drawn, boot_toks) :=
  boot_open (by kernel_rfl) (by decide) (fun s => by rfl) w
def Xt (s : Shared) : Bool := xlAt qq [] s && recOk (RowW.records (OpenRow.toRowW PySem.Challenge.rw_mj0050_01.row)) s
def Sf (P : Params) (os : OsState) : Shared := ⟨H1 P, #[], drw, 605, os⟩
theorem lk1 (w : World) (os : OsState) : (staticsOk (importedModules pp.main.body) (boot_heap w.params) (H1 w.params) && namesBound pp (H1 w.params) && gensDone (Sf w.params os) && laidKept (boot_heap w.params) (H1 w.params)) = true := by kernel_rfl
theorem lk2 (w : World) (os : OsState) : openSeen qq ll (importedModules pp.main.body) Xt true (Sf w.params os) = openGood qq ll := by
  rw [Fast.te4187177175401517315]; kernel_rfl
theorem lk3 (w : World) (os : OsState) : kas.map (Sf w.params os).heap.get? = (KK w.params).map fun p => some p.2 := by kernel_rfl

def HK : Hook := kHook KK kas (fun _ => by kernel_rfl)
theorem left : LeftO pp qq ll Xt (Hook.obs HK) (Hook.val HK) 12000 :=
  LeftO.of_pieces (H₀ := boot_heap) (H₁ := H1) (gs₀ := Array.mk []) (gs₁ := #[]) (d₀ := boot_drawn) (d₁ := drw) (k₀ := boot_toks) (k₁ := 605) (m₀ := 11) (ann := ann) (M := 12 + (1 + (10 + ((113 + (136 + (119 + (79 + (162 + (160 + (162 + (40 + 28)))))))) + (30 + ((106 + (68 + (127 + (85 + (79 + (162 + (120 + 28))))))) + (30 + ((103 + (136 + (136 + (136 + (136 + (136 + (136 + (136 + (136 + (136 + (136 + (136 + (119 + (29 + (50 + (162 + (160 + (162 + (160 + (160 + (160 + (80 + (80 + (80 + (80 + (80 + (80 + (60 + (22 + (80 + (80 + (80 + (80 + (80 + 28)))))))))))))))))))))))))))))))))) + (186 + (193 + 2)))))))))) opn szs
    (fun w os => by rw [bt]; exact run2 w os) (by decide) (fun w => funext fun os => looks_pair (lk1 w os) (looks_pair (lk2 w os) (lk3 w os)))

end
end Mine
end HeadL
section KBase
set_option maxRecDepth 100000
namespace Mine
noncomputable section
abbrev PR : Program := Challenge.rw_mj0050_01.row.prog
theorem enter {w : World} {mean : ExcName → Option Value} {mg mb : Str → Option Value} {A : Around} {base g : Heap} {outer : List Env} {gens : Array GenState} {drawn : Drawn} {toks : Nat} {os : OsState} {Q E : Value → Shared → Prop}
    {name qual : Str} {params : Arguments} {body : List Stmt} {scope : Scope} {dV kV doc pm cdv ct oc : Value} {an od : Option Addr} {osl : Array (Option Value)} {f : Addr} {vs : List Value} {binds : List (Str × Value)}
    (X : (KK w.params).In g) (T : Top qq (looseW qq ll) mean mg mb g) (B : Below A base outer g)
    (ho : (KK w.params).lookup f = some ⟨oc, od, .func (fnOf name qual params body scope dV kV doc pm an cdv ct), osl⟩) (hcd : codeIn (KK w.params) cdv qual = true) (hroom : A.depth < recursionLimit)
    (hbind : BindsTo ⟨g, gens, drawn, toks, os⟩ (fnOf name qual params body scope dV kV doc pm an cdv ct) ⟨vs, []⟩ binds) (hloc : ∀ y ∈ binds, scope.names.lookup y.1 = some .local)
    (h : ∀ h₁, Fr g g.objs.size h₁ (fun y => binds.reverse.lookup y) → News g g.objs.size h₁ [] →
      wpAny (model PR w) (A.deeper (envOf qual scope g.objs.size f cdv)) (execs body (envOf qual scope g.objs.size f cdv))
        (fun fl s' => Q (match fl with | .ret v => v | _ => .none) s')
        (fun e s' => wpAny (model PR w) (A.deeper (envOf qual scope g.objs.size f cdv)) (leaving (envOf qual scope g.objs.size f cdv) e) (fun _ s'' => E e s'') (fun e' s'' => E e' s'') s')
        ⟨h₁, gens, drawn, toks + binds.length, os⟩)
    (hco : scope.isCoroutine = false) (hgen : scope.isGenerator = false) (hk : scope.kind = .function) (hcell : ∀ x ∈ scope.names, x.2 ≠ .cell) :
    wpAny (model PR w) A (call (.ref f) vs) Q E ⟨g, gens, drawn, toks, os⟩ := by
  refine wpAny_call ?_
  refine codeAny_call_def (fd := fnOf name qual params body scope dV kV doc pm an cdv ct) (body := body) (binds := binds) hroom (X _ _ ho) rfl T.nolimit (codeRec_of X hcd) rfl hbind hcell hloc (fun h₁ hns hk₁ => ?_) hco hgen hk
  exact h h₁ ⟨hns, hk₁, Nat.le_refl _⟩ News.nil
end
/-- what a call of f upon vs does, wherever it is made -/
def Spec (w : World) (f : Addr) (vs : List Value) (dep un : Nat) (P : Heap → Heap → Value → Prop) : Prop :=
  ∀ (mean : ExcName → Option Value) (mg mb : Str → Option Value) (A : Around) (base g : Heap) (outer : List Env) (gens : Array GenState) (drawn : Drawn) (toks : Nat) (os : OsState) (Q E : Value → Shared → Prop),
    (KK w.params).In g → Top qq (looseW qq ll) mean mg mb g → Below A base outer g → A.handled = none → A.depth + dep < recursionLimit → A.units + un < cLine →
    (∀ v h' tk', (∀ b o, g.get? b = some o → h'.get? b = some o) → P g h' v → Q v ⟨h', gens, drawn, tk', os⟩) →
    wpAny (model Challenge.rw_mj0050_01.row.prog w) A (call (.ref f) vs) Q E ⟨g, gens, drawn, toks, os⟩
theorem Spec.use {w : World} {f : Addr} {vs : List Value} {dep un : Nat} {P : Heap → Heap → Value → Prop} (S : Spec w f vs dep un P)
    {mean : ExcName → Option Value} {mg mb : Str → Option Value} {A : Around} {base g : Heap} {outer : List Env} {L f0 : Addr} {m : Str → Option Value} {news : List (Addr × Obj)} {name : Str} {scope : Scope} {cd : Value} {s : Shared} {Q E : Value → Shared → Prop}
    (X : (KK w.params).In g) (T : Top qq (looseW qq ll) mean mg mb g) (B : Below A base outer g) (hh : A.handled = none) (F : Fr g L s.heap m) (N : News g L s.heap news) (hd : A.depth + 1 + dep < recursionLimit) (hu : A.units + 3 + un < cLine)
    (h : ∀ v h' tk', Fr g L h' m → News g L h' news → (∀ b o, s.heap.get? b = some o → h'.get? b = some o) → P s.heap h' v → Q v { s with heap := h', toks := tk' }) (hk : scope.kind = .function := by rfl) :
    wpAny (model Challenge.rw_mj0050_01.row.prog w) (A.deeper (envOf name scope L f0 cd)) (call (.ref f) vs) Q E s := by
  obtain ⟨heap, gens, drawn, toks, os⟩ := s
  exact S mean mg mb _ base heap _ gens drawn toks os Q E (X.keeps F.keep) (T.keeps F.keep) (B.push F hk) hh hd hu fun v h' tk' k p => h v h' tk' (F.grownK k) (N.grown k) k p
end Mine
end KBase
section KSets
set_option maxRecDepth 100000
namespace Mine
def esOk (es : List (Int × Value)) : Bool := es.all fun e => match e.2 with | .int k _ => e.1 == k && hashInt k == k | _ => false
theorem esOk_mem {es : List (Int × Value)} (ok : esOk es = true) {e : Int × Value} (he : e ∈ es) : ∃ t, e = (e.1, .int e.1 t) ∧ hashInt e.1 = e.1 := by
  have := List.all_eq_true.mp ok e he
  obtain ⟨a, v⟩ := e
  cases v <;> simp at this
  rename_i k t
  obtain ⟨rfl, h⟩ := this
  exact ⟨t, rfl, h⟩
theorem setObj_of {prog : Program} {w : World} {es : List (Int × Value)} {ep : Nat} {t : SetTable} (ok : esOk es = true) (hf : t.fits es.toArray.size = true) :
    Obj.SetObjOf (intKind prog w) ⟨.type "set", none, .set es.toArray ep t, #[]⟩ (fun k => (es.map (·.1)).contains k) es.toArray.size := by
  refine ⟨⟨rfl, rfl, rfl⟩, es.toArray, ep, t, rfl, fun e he => ?_, fun k => ?_, rfl, hf⟩
  · obtain ⟨t', e1, e2⟩ := esOk_mem ok he
    exact ⟨⟨e.1, by rw [e1]; simp [intKind, Value.isInt], by show e.1 = hashInt e.1; rw [e2]⟩, by rw [e1]; rfl⟩
  · show (es.map (·.1)).contains k = true ↔ ∃ e ∈ es, Value.isInt k e.2 = true
    rw [List.contains_iff_mem, List.mem_map]
    constructor
    · rintro ⟨e, he, rfl⟩
      obtain ⟨t', e1, e2⟩ := esOk_mem ok he
      exact ⟨e, he, by rw [e1]; simp [Value.isInt]⟩
    · rintro ⟨e, he, h⟩
      obtain ⟨t', e1, e2⟩ := esOk_mem ok he
      refine ⟨e, he, ?_⟩
      rw [e1] at h
      simp [Value.isInt] at h
      exact h
theorem in_set {prog : Program} {w : World} {A : Around} {E : Value → Shared → Prop} {s : Shared} {Q : Value → Shared → Prop} {K : Frag} {g : Heap} {L a : Addr} {m : Str → Option Value} {es : List (Int × Value)} {ep : Nat} {t : SetTable} {k : Int} {tk : Tok}
    (F : Fr g L s.heap m) (X : K.In g) (hl : K.lookup a = some ⟨.type "set", none, .set es.toArray ep t, #[]⟩) (ok : esOk es = true) (hf : t.fits es.toArray.size = true) (hb : es.toArray.size < scanBound)
    (h : Q (.bool ((es.map (·.1)).contains k)) { s with toks := s.toks + 1 }) : wpAny (model prog w) A (compareOp .In (.int k tk) (.ref a)) Q E s :=
  wpAny_inSet_of (knd := intKind prog w) (k := k) (S := fun k => (es.map (·.1)).contains k) (intKind_is prog w k tk) rfl ((setObj_of ok hf).setOf (F.keep _ _ (X _ _ hl)) hb) h
def inC9 (c : Nat) : Bool := decide (c = 917505 ∨ (917536 ≤ c ∧ c < 917632))
def inC8 (c : Nat) : Bool := decide (c = 832 ∨ c = 833 ∨ c = 8206 ∨ c = 8207 ∨ (8234 ≤ c ∧ c < 8239) ∨ (8298 ≤ c ∧ c < 8304))
def inB1 (c : Nat) : Bool := decide (c = 173 ∨ c = 847 ∨ c = 6150 ∨ c = 6155 ∨ c = 6156 ∨ c = 6157 ∨ c = 8203 ∨ c = 8204 ∨ c = 8205 ∨ c = 8288 ∨ c = 65279 ∨ (65024 ≤ c ∧ c < 65040))
theorem mem_rng {a n c : Nat} : ((c : Int) ∈ (List.range n).map fun i => ((a + i : Nat) : Int)) ↔ a ≤ c ∧ c < a + n := by
  rw [List.mem_map]
  constructor
  · rintro ⟨i, hi, e⟩
    have := List.mem_range.mp hi
    omega
  · rintro ⟨h1, h2⟩
    exact ⟨c - a, List.mem_range.mpr (by omega), by omega⟩
end Mine
end KSets
section C1
set_option maxRecDepth 100000
namespace Mine
theorem c9_list (c : Nat) : ((917505 : Int) :: ((List.range 96).map fun i => ((917536 + i : Nat) : Int))).contains (c : Int) = inC9 c := by
  rw [Bool.eq_iff_iff, List.contains_iff_mem, List.mem_cons, mem_rng]
  simp only [inC9, decide_eq_true_eq]
  omega
theorem b1_list (c : Nat) : ([65024, 65025, 65026, 65027, 65028, 65029, 6150, 65030, 65031, 65032, 65033, 6155, 6156, 6157, 8203, 8204, 8205, 65034, 65035, 65036, 65037, 65038, 65039, 173, 847, 8288, 65279] : List Int).contains (c : Int) = inB1 c := by
  rw [Bool.eq_iff_iff, List.contains_iff_mem]
  simp only [List.mem_cons, List.not_mem_nil, or_false, inB1, decide_eq_true_eq]
  omega
theorem c8_list (c : Nat) : ([832, 833, 8234, 8235, 8236, 8237, 8206, 8207, 8238, 8298, 8299, 8300, 8301, 8302, 8303] : List Int).contains (c : Int) = inC8 c := by
  rw [Bool.eq_iff_iff, List.contains_iff_mem]
  simp only [List.mem_cons, List.not_mem_nil, or_false, inC8, decide_eq_true_eq]
  omega
set_option maxHeartbeats 8000000 in
theorem t_c9 (w : World) (c : Nat) (t : Tok) : Spec w 74 [.str ⟨#[c]⟩ t] 4 16 (fun _ _ v => v = .bool (inC9 c)) := by
  unfold Spec; k_fill
  intro mean mg mb A base g outer gens drawn toks os Q E X T B hh hd hu hret
  refine enter X T B (by k_is) (by k_is) (by omega) (BindsTo.of_eq rfl) (locs rfl) ?_ rfl rfl rfl (by decide)
  intro h₁ F N
  dsimp only
  k_steps
  refine in_set F X (by k_is) (by decide +kernel) (by kernel_rfl) (by decide +kernel) ?_
  exact hret _ _ _ F.keep (congrArg Value.bool (c9_list c))
set_option maxHeartbeats 8000000 in
theorem t_b1 (w : World) (c : Nat) (t : Tok) : Spec w 32 [.str ⟨#[c]⟩ t] 4 16 (fun _ _ v => v = .bool (inB1 c)) := by
  unfold Spec; k_fill
  intro mean mg mb A base g outer gens drawn toks os Q E X T B hh hd hu hret
  refine enter X T B (by k_is) (by k_is) (by omega) (BindsTo.of_eq rfl) (locs rfl) ?_ rfl rfl rfl (by decide)
  intro h₁ F N
  dsimp only
  k_steps
  refine in_set F X (by k_is) (by decide +kernel) (by kernel_rfl) (by decide +kernel) ?_
  exact hret _ _ _ F.keep (congrArg Value.bool (b1_list c))
set_option maxHeartbeats 8000000 in
theorem t_c8 (w : World) (c : Nat) (t : Tok) : Spec w 56 [.str ⟨#[c]⟩ t] 4 16 (fun _ _ v => v = .bool (inC8 c)) := by
  unfold Spec; k_fill
  intro mean mg mb A base g outer gens drawn toks os Q E X T B hh hd hu hret
  refine enter X T B (by k_is) (by k_is) (by omega) (BindsTo.of_eq rfl) (locs rfl) ?_ rfl rfl rfl (by decide)
  intro h₁ F N
  dsimp only
  k_steps
  refine in_set F X (by k_is) (by decide +kernel) (by kernel_rfl) (by decide +kernel) ?_
  exact hret _ _ _ F.keep (congrArg Value.bool (c8_list c))
end Mine
end C1
section C2
set_option maxRecDepth 100000
namespace Mine
set_option maxHeartbeats 8000000 in
theorem t_ctoi_s (w : World) (c : Nat) (t : Tok) : Spec w 81 [.str ⟨#[c]⟩ t] 1 8 (fun _ _ v => ∃ t', v = .int c t') := by
  unfold Spec; k_fill
  intro mean mg mb A base g outer gens drawn toks os Q E X T B hh hd hu hret
  refine enter X T B (by k_is) (by k_is) (by omega) (BindsTo.of_eq rfl) (locs rfl) ?_ rfl rfl rfl (by decide)
  intro h₁ F N
  dsimp only
  k_steps
  all_goals exact hret _ _ _ F.keep ⟨_, rfl⟩
set_option maxHeartbeats 8000000 in
theorem t_ctoi_i (w : World) (n : Int) (t : Tok) : Spec w 81 [.int n t] 1 8 (fun _ _ v => v = .int n t) := by
  unfold Spec; k_fill
  intro mean mg mb A base g outer gens drawn toks os Q E X T B hh hd hu hret
  refine enter X T B (by k_is) (by k_is) (by omega) (BindsTo.of_eq rfl) (locs rfl) ?_ rfl rfl rfl (by decide)
  intro h₁ F N
  dsimp only
  k_steps
  all_goals exact hret _ _ _ F.keep rfl
set_option maxHeartbeats 8000000 in
theorem t_isprint (w : World) (n : Int) (t : Tok) : Spec w 88 [.int n t] 3 16 (fun _ _ v => v = .bool (decide (32 ≤ n ∧ n ≤ 126))) := by
  unfold Spec; k_fill
  intro mean mg mb A base g outer gens drawn toks os Q E X T B hh hd hu hret
  refine enter X T B (by k_is) (by k_is) (by omega) (BindsTo.of_eq rfl) (locs rfl) ?_ rfl rfl rfl (by decide)
  intro h₁ F N
  dsimp only
  k_steps
  refine (t_ctoi_i _ _ _).use X T B hh F N (by omega) (by omega) ?_
  rintro v h' tk' F' N' hk rfl
  k_steps
  · refine hret _ _ _ F'.keep (congrArg Value.bool ?_)
    rw [decide_eq_decide]; omega
  · refine hret _ _ _ F'.keep (congrArg Value.bool ?_)
    rw [decide_eq_decide]; omega
set_option maxHeartbeats 8000000 in
theorem t_ctrl (w : World) (n : Int) (t : Tok) : Spec w 95 [.int n t] 4 16 (fun _ _ v => ∃ t', v = .int (n % 32) t') := by
  unfold Spec; k_fill
  intro mean mg mb A base g outer gens drawn toks os Q E X T B hh hd hu hret
  refine enter X T B (by k_is) (by k_is) (by omega) (BindsTo.of_eq rfl) (locs rfl) ?_ rfl rfl rfl (by decide)
  intro h₁ F N
  dsimp only
  k_steps
  refine (t_ctoi_i _ _ _).use X T B hh F N (by omega) (by omega) ?_
  rintro v h' tk' F' N' hk rfl
  k_steps
  exact hret _ _ _ F'.keep ⟨_, by rw [bitAnd_m5]⟩
def uncS (c : Nat) : Str := if 32 ≤ c % 128 ∧ c % 128 ≤ 126 then ⟨#[c % 128]⟩ else Str.ofString "^" ++ ⟨#[(Builtin.bitOr ((c % 128 : Nat) : Int) 32 + 32).toNat]⟩
theorem or32 (a : Nat) (h : a < 128) : 0 ≤ Builtin.bitOr (a : Int) 32 ∧ Builtin.bitOr (a : Int) 32 < 128 := by
  have : ∀ a : Fin 128, 0 ≤ Builtin.bitOr (a.val : Int) 32 ∧ Builtin.bitOr (a.val : Int) 32 < 128 := by decide +kernel
  exact this ⟨a, h⟩
theorem unc_p (c : Nat) (h : 32 ≤ (c : Int) % 128 ∧ (c : Int) % 128 ≤ 126) : (⟨#[((c : Int) % 128).toNat]⟩ : Str) = uncS c := by
  unfold uncS
  rw [if_pos (by omega), show ((c : Int) % 128).toNat = c % 128 by omega]
theorem unc_n (c : Nat) (h : ¬ (32 ≤ (c : Int) % 128 ∧ (c : Int) % 128 ≤ 126)) : Str.ofString "^" ++ (⟨#[(Builtin.bitOr ((c : Int) % 128) 32 + 32).toNat]⟩ : Str) = uncS c := by
  unfold uncS
  rw [if_neg (by omega), show ((c % 128 : Nat) : Int) = (c : Int) % 128 by omega]
set_option maxHeartbeats 8000000 in
theorem t_unctrl (w : World) (c : Nat) (t : Tok) (h1 : ¬ ((c : Int) = 127)) (h2 : Builtin.bitAnd (c : Int) 128 = 0) : Spec w 109 [.str ⟨#[c]⟩ t] 6 32 (fun _ _ v => ∃ t', v = .str (uncS c) t') := by
  unfold Spec; k_fill
  intro mean mg mb A base g outer gens drawn toks os Q E X T B hh hd hu hret
  refine enter X T B (by k_is) (by k_is) (by omega) (BindsTo.of_eq rfl) (locs rfl) ?_ rfl rfl rfl (by decide)
  intro h₁ F N
  dsimp only
  k_steps
  refine (t_ctoi_s _ _ _).use X T B hh F N (by omega) (by omega) ?_
  rintro v h' tk' F' N' hk ⟨t', rfl⟩
  k_steps
  · exfalso; omega
  refine (t_isprint _ _ _).use X T B hh (by assumption) (by assumption) (by omega) (by omega) ?_
  rintro v h'' tk'' F'' N'' hk' rfl
  rw [bitAnd_m7]
  k_steps
  · rw [bitAnd_m7]
    refine chr_of_range (by omega) (by omega) ?_
    k_steps
    · exact absurd h2 (by assumption)
    · exact hret _ _ _ (Fr.keep (by assumption)) ⟨_, by rw [unc_p c (by assumption)]⟩
  · rw [bitAnd_m7]
    have hb := or32 (c % 128) (by omega)
    rw [show ((c % 128 : Nat) : Int) = (c : Int) % 128 by omega] at hb
    refine chr_of_range (by omega) (by omega) ?_
    k_steps
    · exact absurd h2 (by assumption)
    · exact hret _ _ _ (Fr.keep (by assumption)) ⟨_, by rw [unc_n c (by assumption)]⟩
end Mine
end C2
section C3
set_option maxRecDepth 100000
namespace Mine
set_option maxHeartbeats 8000000 in
theorem t_alt (w : World) (t : Tok) : Spec w 102 [.str (Str.ofString "-") t] 4 16 (fun _ _ v => ∃ t', v = .str ⟨#[173]⟩ t') := by
  unfold Spec; k_fill
  intro mean mg mb A base g outer gens drawn toks os Q E X T B hh hd hu hret
  refine enter X T B (by k_is) (by k_is) (by omega) (BindsTo.of_eq rfl) (locs rfl) ?_ rfl rfl rfl (by decide)
  intro h₁ F N
  dsimp only
  k_steps
  refine (t_ctoi_s _ 45 _).use X T B hh F N (by omega) (by omega) ?_
  rintro v h' tk' F' N' hk ⟨t', rfl⟩
  k_steps
  exact hret _ _ _ (Fr.keep (by assumption)) ⟨_, by rw [show (Builtin.bitOr (((45 : Nat) : Int)) 128).toNat = 173 by decide]⟩
theorem Spec.useO {w : World} {f : Addr} {vs : List Value} {dep un : Nat} {O : Nat → Obj} (S : Spec w f vs dep un (fun g h' v => ∃ a tk, v = .ref a ∧ g.get? a = none ∧ h'.get? a = some (O tk)))
    {mean : ExcName → Option Value} {mg mb : Str → Option Value} {A : Around} {base g : Heap} {outer : List Env} {L f0 : Addr} {m : Str → Option Value} {news : List (Addr × Obj)} {name : Str} {scope : Scope} {cd : Value} {s : Shared} {Q E : Value → Shared → Prop}
    (X : (KK w.params).In g) (T : Top qq (looseW qq ll) mean mg mb g) (B : Below A base outer g) (hh : A.handled = none) (F : Fr g L s.heap m) (N : News g L s.heap news) (hd : A.depth + 1 + dep < recursionLimit) (hu : A.units + 3 + un < cLine)
    (h : ∀ a tk h' tk', Fr g L h' m → News g L h' ((a, O tk) :: news) → Q (.ref a) { s with heap := h', toks := tk' }) (hk : scope.kind = .function := by rfl) :
    wpAny (model Challenge.rw_mj0050_01.row.prog w) (A.deeper (envOf name scope L f0 cd)) (call (.ref f) vs) Q E s := by
  refine Spec.use S X T B hh F N hd hu (fun v h' tk' F' N' k p => ?_) hk
  obtain ⟨a, tk, rfl, e1, e2⟩ := p
  refine h a tk h' tk' F' (fun p hp => ?_)
  rcases List.mem_cons.mp hp with rfl | hp
  · refine ⟨e2, fun e => ?_, ?_⟩
    · obtain ⟨oL, _, _, hL, _⟩ := F.ns
      dsimp only at e
      rw [e, hL] at e1; cases e1
    · cases q : g.get? a with
      | none => rfl
      | some o => rw [F.keep _ _ q] at e1; cases e1
  · exact N' p hp
def turnsO (tk : Nat) : Obj := W.listOf #[.int 832 tk, .int 833 (tk + 1), .int 8206 (tk + 1 + 1), .int 8207 (tk + 1 + 1 + 1), .int 8234 (tk + 1 + 1 + 1 + 1), .int 8235 (tk + 1 + 1 + 1 + 1 + 1), .int 8236 (tk + 1 + 1 + 1 + 1 + 1 + 1), .int 8237 (tk + 1 + 1 + 1 + 1 + 1 + 1 + 1), .int 8238 (tk + 1 + 1 + 1 + 1 + 1 + 1 + 1 + 1), .int 8298 (tk + 1 + 1 + 1 + 1 + 1 + 1 + 1 + 1 + 1), .int 8299 (tk + 1 + 1 + 1 + 1 + 1 + 1 + 1 + 1 + 1 + 1), .int 8300 (tk + 1 + 1 + 1 + 1 + 1 + 1 + 1 + 1 + 1 + 1 + 1), .int 8301 (tk + 1 + 1 + 1 + 1 + 1 + 1 + 1 + 1 + 1 + 1 + 1 + 1), .int 8302 (tk + 1 + 1 + 1 + 1 + 1 + 1 + 1 + 1 + 1 + 1 + 1 + 1 + 1), .int 8303 (tk + 1 + 1 + 1 + 1 + 1 + 1 + 1 + 1 + 1 + 1 + 1 + 1 + 1 + 1)] 0
set_option maxHeartbeats 8000000 in
theorem t_turns (w : World) : Spec w 123 [] 4 16 (fun g h' v => ∃ a tk, v = .ref a ∧ g.get? a = none ∧ h'.get? a = some (turnsO tk)) := by
  unfold Spec; k_fill
  intro mean mg mb A base g outer gens drawn toks os Q E X T B hh hd hu hret
  refine enter X T B (by k_is) (by k_is) (by omega) (BindsTo.of_eq rfl) (locs rfl) ?_ rfl rfl rfl (by decide)
  intro h₁ F N
  dsimp only
  k_steps
  rename News _ _ _ _ => N'
  exact hret _ _ _ (Fr.keep (by assumption)) ⟨_, _, rfl, (N' _ (.head _)).2.2, (N' _ (.head _)).1⟩
def dustO (tk : Nat) : Obj := W.listOf #[.int 173 tk, .int 847 (tk + 1), .int 6150 (tk + 1 + 1), .int 6155 (tk + 1 + 1 + 1), .int 6156 (tk + 1 + 1 + 1 + 1), .int 6157 (tk + 1 + 1 + 1 + 1 + 1), .int 8203 (tk + 1 + 1 + 1 + 1 + 1 + 1), .int 8204 (tk + 1 + 1 + 1 + 1 + 1 + 1 + 1), .int 8205 (tk + 1 + 1 + 1 + 1 + 1 + 1 + 1 + 1), .int 8288 (tk + 1 + 1 + 1 + 1 + 1 + 1 + 1 + 1 + 1), .int 65279 (tk + 1 + 1 + 1 + 1 + 1 + 1 + 1 + 1 + 1 + 1)] 0
set_option maxHeartbeats 8000000 in
theorem t_dust (w : World) : Spec w 116 [] 4 16 (fun g h' v => ∃ a tk, v = .ref a ∧ g.get? a = none ∧ h'.get? a = some (dustO tk)) := by
  unfold Spec; k_fill
  intro mean mg mb A base g outer gens drawn toks os Q E X T B hh hd hu hret
  refine enter X T B (by k_is) (by k_is) (by omega) (BindsTo.of_eq rfl) (locs rfl) ?_ rfl rfl rfl (by decide)
  intro h₁ F N
  dsimp only
  k_steps
  rename News _ _ _ _ => N'
  exact hret _ _ _ (Fr.keep (by assumption)) ⟨_, _, rfl, (N' _ (.head _)).2.2, (N' _ (.head _)).1⟩
end Mine
end C3
section C4
set_option maxRecDepth 100000
namespace Mine
def pieceD (a b c : Str) (ns : List Int) (d : Str) : PyData := .list [.str a, .str b, .str c, .list (ns.map .int), .str d]
theorem reads_ints {h : Heap} : ∀ {vs : List Value} {ns : List Int}, IntsAre vs ns → ReadsAll h vs (ns.map .int) []
  | _, _, .nil => .nil
  | _, _, .cons n t H => .cons (as := []) (.int n t) (reads_ints H)
theorem piece_reads {g h' : Heap} {L l l1 : Addr} {news : List (Addr × Obj)} {A B C D : Str} {ta tb tc td : Tok} {vs : List Value} {ns : List Int} (N : News g L h' news)
    (h1 : (l, W.listOf #[.str A ta, .str B tb, .str C tc, .ref l1, .str D td] 0) ∈ news) (h2 : (l1, W.listOf vs.toArray 0) ∈ news) (hi : IntsAre vs ns) :
    ∃ as, Reads h' (.ref l) (pieceD A B C ns D) as ∧ ∀ a ∈ as, g.get? a = none := by
  refine ⟨l :: ([] ++ ([] ++ ([] ++ ((l1 :: []) ++ ([] ++ []))))), .list (N _ h1).1 rfl rfl (.cons (.str A ta) (.cons (.str B tb) (.cons (.str C tc) (.cons (.list (N _ h2).1 rfl rfl (reads_ints hi)) (.cons (.str D td) .nil))))), ?_⟩
  intro a ha
  simp at ha
  rcases ha with rfl | rfl
  · exact (N _ h1).2.2
  · exact (N _ h2).2.2
end Mine
end C4
section P1
set_option maxRecDepth 100000
namespace Mine
def es : Str := Str.ofString ""
def bOf (c : Nat) : Str := if inC9 c = true ∨ inC8 c = true ∨ inB1 c = true then es else ⟨#[c]⟩
def cOf (c : Nat) : Str := if inC9 c = true then uncS c else es
def nOf (c : Nat) : List Int := if inC9 c = true ∨ inC8 c = true then [] else if inB1 c = true ∧ c / 16 = 4064 then [((c % 32 : Nat) : Int)] else []
def dOf (c : Nat) : Str := if inC9 c = true then es else if inC8 c = true then uncS c else es
def pcD (c : Nat) : PyData := pieceD ⟨#[c]⟩ (bOf c) (cOf c) (nOf c) (dOf c)
def turnsL : List Int := [832, 833, 8206, 8207, 8234, 8235, 8236, 8237, 8238, 8298, 8299, 8300, 8301, 8302, 8303]
def dustL : List Int := [173, 847, 6150, 6155, 6156, 6157, 8203, 8204, 8205, 8288, 65279]
def shownL : List Str := [Str.ofString "@", Str.ofString "A", Str.ofString "^N", Str.ofString "^O", Str.ofString "*", Str.ofString "+", Str.ofString ",", Str.ofString "-", Str.ofString ".", Str.ofString "j", Str.ofString "k", Str.ofString "l", Str.ofString "m", Str.ofString "n", Str.ofString "o"]
theorem pcD_eq {c : Nat} {A B C D : Str} {ns : List Int} (hA : A = ⟨#[c]⟩) (hB : B = bOf c) (hC : C = cOf c) (hn : ns = nOf c) (hD : D = dOf c) : pieceD A B C ns D = pcD c := by
  subst hA hB hC hn hD; rfl
theorem p_tag0 : pieceD ⟨#[Int.toNat 917505]⟩ (Str.ofString "") (Str.ofString "^A") [] (Str.ofString "") = pcD 917505 :=
  pcD_eq rfl (by decide +kernel) (by decide +kernel) (by decide +kernel) (by decide +kernel)
theorem p_tag1 (p : Int) (h1 : p ≠ 0) (h0 : 0 ≤ p) (h2 : p < 96) : pieceD ⟨#[(917535 + p).toNat]⟩ (Str.ofString "") ⟨#[(31 + p).toNat]⟩ [] (Str.ofString "") = pcD (917535 + p).toNat := by
  have h9 : inC9 (917535 + p).toNat = true := by simp only [inC9, decide_eq_true_eq]; omega
  refine pcD_eq rfl ?_ ?_ ?_ ?_
  · rw [bOf, if_pos (.inl h9)]; rfl
  · rw [cOf, if_pos h9, uncS, if_pos (by omega), show (917535 + p).toNat % 128 = (31 + p).toNat by omega]
  · rw [nOf, if_pos (.inl h9)]
  · rw [dOf, if_pos h9]; rfl
theorem p_tag2 : pieceD ⟨#[917631]⟩ (Str.ofString "") (Str.ofString "^\x9f") [] (Str.ofString "") = pcD 917631 :=
  pcD_eq rfl (by decide +kernel) (by decide +kernel) (by decide +kernel) (by decide +kernel)
theorem p_num (k : Int) (h0 : 0 ≤ k) (h1 : k < 16) : pieceD ⟨#[(65024 + k).toNat]⟩ (Str.ofString "") (Str.ofString "") [k] (Str.ofString "") = pcD (65024 + k).toNat := by
  have h9 : inC9 (65024 + k).toNat = false := by simp only [inC9, decide_eq_false_iff_not]; omega
  have h8 : inC8 (65024 + k).toNat = false := by simp only [inC8, decide_eq_false_iff_not]; omega
  have hb : inB1 (65024 + k).toNat = true := by simp only [inB1, decide_eq_true_eq]; omega
  refine pcD_eq rfl ?_ ?_ ?_ ?_
  · rw [bOf, if_pos (.inr (.inr hb))]; rfl
  · rw [cOf, if_neg (by rw [h9]; decide)]; rfl
  · rw [nOf, if_neg (by rw [h9, h8]; decide), if_pos ⟨hb, by omega⟩, show (((65024 + k).toNat % 32 : Nat) : Int) = k by omega]
  · rw [dOf, if_neg (by rw [h9]; decide), if_neg (by rw [h8]; decide)]; rfl
theorem p_turn (i : Nat) (h : i < 15) : pieceD ⟨#[(turnsL.getD i 0).toNat]⟩ (Str.ofString "") (Str.ofString "") [] (shownL.getD i Str.empty) = pcD (turnsL.getD i 0).toNat := by
  have : ∀ i : Fin 15, (Str.ofString "" = bOf (turnsL.getD i 0).toNat ∧ Str.ofString "" = cOf (turnsL.getD i 0).toNat) ∧ (([] : List Int) = nOf (turnsL.getD i 0).toNat ∧ shownL.getD i Str.empty = dOf (turnsL.getD i 0).toNat) := by decide +kernel
  obtain ⟨⟨h1, h2⟩, h3, h4⟩ := this ⟨i, h⟩
  exact pcD_eq rfl h1 h2 h3 h4
theorem p_dust (i : Nat) (h : i < 11) : pieceD ⟨#[(dustL.getD i 0).toNat]⟩ (Str.ofString "") (Str.ofString "") [] (Str.ofString "") = pcD (dustL.getD i 0).toNat := by
  have : ∀ i : Fin 11, (Str.ofString "" = bOf (dustL.getD i 0).toNat ∧ Str.ofString "" = cOf (dustL.getD i 0).toNat) ∧ (([] : List Int) = nOf (dustL.getD i 0).toNat ∧ Str.ofString "" = dOf (dustL.getD i 0).toNat) := by decide +kernel
  obtain ⟨⟨h1, h2⟩, h3, h4⟩ := this ⟨i, h⟩
  exact pcD_eq rfl h1 h2 h3 h4
theorem p_soft : pieceD ⟨#[173]⟩ (Str.ofString "") (Str.ofString "") [] (Str.ofString "") = pcD 173 :=
  pcD_eq rfl (by decide +kernel) (by decide +kernel) (by decide +kernel) (by decide +kernel)
theorem p_ask : pieceD (Str.ofString "?") (Str.ofString "?") (Str.ofString "") [] (Str.ofString "") = pcD 63 :=
  pcD_eq (by decide +kernel) (by decide +kernel) (by decide +kernel) (by decide +kernel) (by decide +kernel)
theorem p_seen (k : Int) (h0 : 0 ≤ k) (hd : (dustL.any fun x => x == k) = false) (h1 : ¬ (65023 < k ∧ k < 65040)) (ht : (turnsL.any fun x => x == k) = false) (h2 : k ≠ 917505) (h3 : ¬ (917535 < k ∧ k < 917632)) :
    pieceD ⟨#[k.toNat]⟩ ⟨#[k.toNat]⟩ (Str.ofString "") [] (Str.ofString "") = pcD k.toNat := by
  simp only [dustL, turnsL, List.any_cons, List.any_nil, Bool.or_eq_false_iff, beq_eq_false_iff_ne, ne_eq, Bool.or_false, and_true] at hd ht
  have h9 : inC9 k.toNat = false := by simp only [inC9, decide_eq_false_iff_not]; omega
  have h8 : inC8 k.toNat = false := by simp only [inC8, decide_eq_false_iff_not]; omega
  have hb : inB1 k.toNat = false := by simp only [inB1, decide_eq_false_iff_not]; omega
  refine pcD_eq rfl ?_ ?_ ?_ ?_
  · rw [bOf, if_neg (by rw [h9, h8, hb]; decide)]
  · rw [cOf, if_neg (by rw [h9]; decide)]; rfl
  · rw [nOf, if_neg (by rw [h9, h8]; decide), if_neg (by rw [hb]; simp)]
  · rw [dOf, if_neg (by rw [h9]; decide), if_neg (by rw [h8]; decide)]; rfl

theorem p_tag2' (p : Int) (h : ¬ p < 96) (h' : p < 97) : pieceD ⟨#[(917535 + p).toNat]⟩ (Str.ofString "") (Str.ofString "^\x9f") [] (Str.ofString "") = pcD (917535 + p).toNat := by
  obtain rfl : p = 96 := by omega
  exact p_tag2
theorem p_soft' : pieceD (Str.ofString "\u00ad") (Str.ofString "") (Str.ofString "") [] (Str.ofString "") = pcD 173 :=
  pcD_eq (by decide +kernel) (by decide +kernel) (by decide +kernel) (by decide +kernel) (by decide +kernel)
theorem turn_rng (i : Nat) : 0 ≤ turnsL.getD i 0 ∧ turnsL.getD i 0 ≤ 1114111 := by
  by_cases h : i < 15
  · have : ∀ i : Fin 15, 0 ≤ turnsL.getD i 0 ∧ turnsL.getD i 0 ≤ 1114111 := by decide +kernel
    exact this ⟨i, h⟩
  · rw [List.getD_eq_getElem?_getD, List.getElem?_eq_none (by simp only [turnsL, List.length_cons, List.length_nil]; omega)]; decide
theorem dust_rng (i : Nat) : 0 ≤ dustL.getD i 0 ∧ dustL.getD i 0 ≤ 1114111 := by
  by_cases h : i < 11
  · have : ∀ i : Fin 11, 0 ≤ dustL.getD i 0 ∧ dustL.getD i 0 ≤ 1114111 := by decide +kernel
    exact this ⟨i, h⟩
  · rw [List.getD_eq_getElem?_getD, List.getElem?_eq_none (by simp only [dustL, List.length_cons, List.length_nil]; omega)]; decide
theorem piece_end {g h' : Heap} {L l l1 : Addr} {news : List (Addr × Obj)} {A B C D : Str} {ta tb tc td : Tok} {vs : List Value} {ns : List Int} {c : Nat} (hc : c ≤ 1114111) (e : pieceD A B C ns D = pcD c) (N : News g L h' news)
    (h1 : (l, W.listOf #[.str A ta, .str B tb, .str C tc, .ref l1, .str D td] 0) ∈ news) (h2 : (l1, W.listOf vs.toArray 0) ∈ news) (hi : IntsAre vs ns) :
    ∃ c as, c ≤ 1114111 ∧ Reads h' (.ref l) (pcD c) as ∧ ∀ a ∈ as, g.get? a = none := by
  obtain ⟨as, r, f⟩ := piece_reads N h1 h2 hi
  exact ⟨c, as, hc, e ▸ r, f⟩
theorem fm_nn (a b : Int) (h : 0 < b) : 0 ≤ a.fmod b := Int.fmod_nonneg_of_pos a h
theorem fm_lt (a b : Int) (h : 0 < b) : a.fmod b < b := Int.fmod_lt_of_pos a h
end Mine
end P1
section C5
set_option maxRecDepth 100000
namespace Mine
set_option maxHeartbeats 8000000 in
theorem t_piece (w : World) (x : Int) (t : Tok) : Spec w 130 [.int x t] 8 64 (fun g h' v => ∃ c as, c ≤ 1114111 ∧ Reads h' v (pcD c) as ∧ ∀ a ∈ as, g.get? a = none) := by
  unfold Spec; k_fill
  intro mean mg mb A base g outer gens drawn toks os Q E X T B hh hd hu hret
  refine enter X T B (by k_is) (by k_is) (by omega) (BindsTo.of_eq rfl) (locs rfl) ?_ rfl rfl rfl (by decide)
  intro h₁ F N
  dsimp only
  k_steps
  · exact hret _ _ _ (Fr.keep (by assumption)) (piece_end (by decide) p_tag0 (by assumption) (.head _) (.tail _ (.head _)) .nil)
  · have q := fm_lt ((x.fmod (10 ^ Int.toNat 9)).fdiv 5) 97 (by decide)
    have q0 := fm_nn ((x.fmod (10 ^ Int.toNat 9)).fdiv 5) 97 (by decide)
    refine hret _ _ _ (Fr.keep (by assumption)) (piece_end (c := (917535 + ((x.fmod (10 ^ Int.toNat 9)).fdiv 5).fmod 97).toNat) ?_ (p_tag1 (((x.fmod (10 ^ Int.toNat 9)).fdiv 5).fmod 97) (by assumption) q0 (by assumption)) (by assumption) (.head _) (.tail _ (.head _)) .nil)
    omega
  · have q := fm_lt ((x.fmod (10 ^ Int.toNat 9)).fdiv 5) 97 (by decide)
    have q0 := fm_nn ((x.fmod (10 ^ Int.toNat 9)).fdiv 5) 97 (by decide)
    refine hret _ _ _ (Fr.keep (by assumption)) (piece_end (c := (917535 + ((x.fmod (10 ^ Int.toNat 9)).fdiv 5).fmod 97).toNat) ?_ (p_tag2' (((x.fmod (10 ^ Int.toNat 9)).fdiv 5).fmod 97) (by assumption) q) (by assumption) (.head _) (.tail _ (.head _)) .nil)
    omega
  · have q := fm_lt ((x.fmod (10 ^ Int.toNat 9)).fdiv 5) 16 (by decide)
    have q0 := fm_nn ((x.fmod (10 ^ Int.toNat 9)).fdiv 5) 16 (by decide)
    refine hret _ _ _ (Fr.keep (by assumption)) (piece_end (c := (65024 + ((x.fmod (10 ^ Int.toNat 9)).fdiv 5).fmod 16).toNat) ?_ (p_num (((x.fmod (10 ^ Int.toNat 9)).fdiv 5).fmod 16) q0 q) (by assumption) (.head _) (.tail _ (.head _)) (.cons _ _ .nil))
    omega
  · refine (t_turns _).useO X T B hh (by assumption) (by assumption) (by omega) (by omega) ?_
    intro a tk h' tk' F' N'
    unfold turnsO at N'
    k_steps
    refine chr_of_range (turn_rng _).1 (turn_rng _).2 ?_
    k_steps
    have q := fm_lt ((x.fmod (10 ^ Int.toNat 9)).fdiv 5) 15 (by decide)
    have q0 := fm_nn ((x.fmod (10 ^ Int.toNat 9)).fdiv 5) 15 (by decide)
    have q1 := (turn_rng (((x.fmod (10 ^ Int.toNat 9)).fdiv 5).fmod 15).toNat).2
    refine hret _ _ _ (Fr.keep (by assumption)) (piece_end ?_ (p_turn (((x.fmod (10 ^ Int.toNat 9)).fdiv 5).fmod 15).toNat (by omega)) (by assumption) (.head _) (.tail _ (.head _)) .nil)
    omega
  · refine (t_alt _ _).use X T B hh (by assumption) (by assumption) (by omega) (by omega) ?_
    rintro v h' tk' F' N' hk ⟨t', rfl⟩
    k_steps
    exact hret _ _ _ (Fr.keep (by assumption)) (piece_end (by decide) p_soft' (by assumption) (.head _) (.tail _ (.head _)) .nil)
  · refine (t_dust _).useO X T B hh (by assumption) (by assumption) (by omega) (by omega) ?_
    intro a tk h' tk' F' N'
    unfold dustO at N'
    k_steps
    refine chr_of_range (dust_rng _).1 (dust_rng _).2 ?_
    k_steps
    have q := fm_lt ((x.fmod (10 ^ Int.toNat 9)).fdiv 5) 11 (by decide)
    have q0 := fm_nn ((x.fmod (10 ^ Int.toNat 9)).fdiv 5) 11 (by decide)
    have q1 := (dust_rng (((x.fmod (10 ^ Int.toNat 9)).fdiv 5).fmod 11).toNat).2
    refine hret _ _ _ (Fr.keep (by assumption)) (piece_end ?_ (p_dust (((x.fmod (10 ^ Int.toNat 9)).fdiv 5).fmod 11).toNat (by omega)) (by assumption) (.head _) (.tail _ (.head _)) .nil)
    omega
  all_goals (
    refine (t_dust _).useO X T B hh (by assumption) (by assumption) (by omega) (by omega) ?_
    intro a tk h' tk' F' N'
    unfold dustO at N'
    k_steps)
  all_goals first
    | exact hret _ _ _ (Fr.keep (by assumption)) (piece_end (by decide) p_ask (by assumption) (.head _) (.tail _ (.head _)) .nil)
    | skip
  all_goals (
    refine (t_turns _).useO X T B hh (by assumption) (by assumption) (by omega) (by omega) ?_
    intro a tk h' tk' F' N'
    unfold turnsO at N'
    k_steps)
  all_goals first
    | exact hret _ _ _ (Fr.keep (by assumption)) (piece_end (by decide) p_ask (by assumption) (.head _) (.tail _ (.head _)) .nil)
    | skip
  all_goals (
    have q := fm_lt ((x.fmod (10 ^ Int.toNat 9)).fdiv 5) 1112064 (by decide)
    have q0 := fm_nn ((x.fmod (10 ^ Int.toNat 9)).fdiv 5) 1112064 (by decide))
  · refine hret _ _ _ (Fr.keep (by assumption)) (piece_end (c := (((x.fmod (10 ^ Int.toNat 9)).fdiv 5).fmod 1112064).toNat) ?_ (p_seen (((x.fmod (10 ^ Int.toNat 9)).fdiv 5).fmod 1112064) (by omega) (by assumption) (by omega) (by assumption) (by omega) (by omega)) (by assumption) (.head _) (.tail _ (.head _)) .nil)
    omega
  all_goals (
    refine hret _ _ _ (Fr.keep (by assumption)) (piece_end (c := (((x.fmod (10 ^ Int.toNat 9)).fdiv 5).fmod 1112064 + 2048).toNat) ?_ (p_seen (((x.fmod (10 ^ Int.toNat 9)).fdiv 5).fmod 1112064 + 2048) (by omega) (by assumption) (by omega) (by assumption) (by omega) (by omega)) (by assumption) (.head _) (.tail _ (.head _)) .nil)
    omega)
end Mine
end C5
section LP
set_option maxRecDepth 100000
namespace Mine
def Held (P : Prop) : Prop := P
theorem hold {P : Prop} (h : Held P) : P := h
theorem Fr.ext {g h h' : Heap} {L I : Addr} {m : Str → Option Value} (F : Fr g L h m) (he : Heap.ExtBut I h h') (hI : I ≠ L) (hg : g.get? I = none) : Fr g L h' m :=
  ⟨F.ns.extBut he (Ne.symm hI), fun b o e => he b o (fun q => by subst q; rw [hg] at e; cases e) (F.keep b o e), F.above⟩
theorem News.ext {g h h' : Heap} {L I : Addr} {news : List (Addr × Obj)} (N : News g L h news) (he : Heap.ExtBut I h h') (hn : ∀ p ∈ news, p.1 ≠ I) : News g L h' news :=
  fun p hp => ⟨he _ _ (hn p hp) (N p hp).1, (N p hp).2⟩
section
variable {prog : Program} {w : World} {A : Around} {g : Heap} {L f0 : Addr} {name : Str} {scope : Scope} {cd : Value} {v : Str} {px pos : Pos} {iter : PySem.Expr} {body : List Stmt} {m0 : Str → Option Value} {news0 : List (Addr × Obj)} {s : Shared}
  {Q : Flow → Shared → Prop} {E : Value → Shared → Prop}
/-- what a turn of a loop must show -/
def TurnEnd (g : Heap) (L I : Addr) (o : Obj) (s : Shared) (J : (Str → Option Value) → List (Addr × Obj) → Prop) (f : Flow) (s₂ : Shared) : Prop :=
  f = .next ∧ ∃ h' tk' m' news', s₂ = { s with heap := h', toks := tk' } ∧ Fr g L h' m' ∧ News g L h' ((I, o) :: news') ∧ (∀ p ∈ news', p.1 ≠ I) ∧ J m' news'
theorem forStr {x : Str} {t : Tok} (hh : A.handled = none) (hv : (envOf name scope L f0 cd).kindOf v = some .local) (hk : scope.kind = .function)
    (F : Fr g L s.heap m0) (N : News g L s.heap news0) (hiter : ∀ Q', Q' (.str x t) s → wpAny (model prog w) A (eval iter (envOf name scope L f0 cd)) Q' E s)
    (J : Nat → (Str → Option Value) → List (Addr × Obj) → Prop) (h0 : J 0 m0 news0)
    (step : ∀ i c tk m news I o h tk0, x.cps[i]? = some c → J i m news → (∀ p ∈ news, p.1 ≠ I) → Fr g L h (fun y => if y = v then some (.str ⟨#[c]⟩ tk) else m y) → News g L h ((I, o) :: news) →
      wpAny (model prog w) A (execs body (envOf name scope L f0 cd)) (TurnEnd g L I o s (J (i + 1))) E { s with heap := h, toks := tk0 })
    (hQ : ∀ h' tk m' news', Fr g L h' m' → News g L h' news' → J x.cps.size m' news' → Q .next { s with heap := h', toks := tk })
    (hs : ∀ y, foldedSetIterable iter (envOf name scope L f0 cd) y = pure y := by intro _; rfl)
    (hE : PassesOwn (model prog w) A (envOf name scope L f0 cd) E := by passes_own) :
    wpAny (model prog w) A (exec (.For (.Name v px) iter body [] pos) (envOf name scope L f0 cd)) Q E s := by
  have hp : ((envOf name scope L f0 cd).scope.kind == .class || ((envOf name scope L f0 cd).scope.kind == .module && (envOf name scope L f0 cd).locals != (envOf name scope L f0 cd).globals)) = false := by
    show (scope.kind == .class || (scope.kind == .module && L != mainGlobals)) = false; rw [hk]; rfl
  have hIL : s.heap.objs.size ≠ L := Nat.ne_of_gt F.ns.lt
  have hIg : g.get? s.heap.objs.size = none := by
    cases q : g.get? s.heap.objs.size with
    | none => rfl
    | some o => exact absurd (Heap.lt_size (F.keep _ _ q)) (Nat.lt_irrefl _)
  have hIn : ∀ p ∈ news0, p.1 ≠ s.heap.objs.size := fun p hp => Nat.ne_of_lt (Heap.lt_size (N p hp).1)
  have start : ∀ o : Obj, Fr g L (s.heap.push o) m0 ∧ News g L (s.heap.push o) news0 := fun o =>
    ⟨F.push o, fun p hp => ⟨Heap.get?_push_of_some _ (N p hp).1, (N p hp).2⟩⟩
  have key : ∀ (ty : String) (h1 : Heap), (∀ (s' : Shared) (i c : Nat) (Q' : Option Value → Shared → Prop) (E' : Value → Shared → Prop), s'.heap.IsStrIter s.heap.objs.size ty x t i → x.cps[i]? = some c →
        (∀ h', h'.IsStrIter s.heap.objs.size ty x t (i + 1) → Heap.SameBut s.heap.objs.size s'.heap h' → Q' (some (.str ⟨#[c]⟩ s'.toks)) { s' with heap := h', toks := s'.toks + 1 }) → wpAny (model prog w) A (pyNext (.ref s.heap.objs.size)) Q' E' s') →
      (∀ (s' : Shared) (i : Nat) (Q' : Option Value → Shared → Prop) (E' : Value → Shared → Prop), s'.heap.IsStrIter s.heap.objs.size ty x t i → x.cps[i]? = none →
        (∀ h', Heap.ExtBut s.heap.objs.size s'.heap h' → Q' none { s' with heap := h' }) → wpAny (model prog w) A (pyNext (.ref s.heap.objs.size)) Q' E' s') →
      h1.IsStrIter s.heap.objs.size ty x t 0 → Fr g L h1 m0 → News g L h1 news0 →
      codeAny (model prog w) A (.forLoop (.Name v px) (.ref s.heap.objs.size) body [] (envOf name scope L f0 cd)) (fun r s' => match r with | .ok f => Q f s' | .error e => cameBackBy (model prog w) A (envOf name scope L f0 cd) E e s') { s with heap := h1 } := by
    intro ty h1 item stop hit F1 N1
    refine codeAny_forLoop
      (fun n s' => ∃ h' tk m' news' i, s' = { s with heap := h', toks := tk } ∧ h'.IsStrIter s.heap.objs.size ty x t i ∧ Fr g L h' m' ∧ News g L h' news' ∧ (∀ p ∈ news', p.1 ≠ s.heap.objs.size) ∧ J i m' news' ∧ i ≤ x.cps.size ∧ n = x.cps.size + 1 - i) ?_ (x.cps.size + 1)
      ⟨h1, s.toks, m0, news0, 0, rfl, hit, F1, N1, hIn, h0, Nat.zero_le _, rfl⟩
    rintro n s' ⟨h', tk, m', news', i, rfl, hit', F', N', hn', hJ, hi, rfl⟩
    cases hc : x.cps[i]? with
    | none =>
      have hsz : i = x.cps.size := Nat.le_antisymm hi (by simpa using hc)
      refine stop _ i _ _ hit' hc fun h₁ he₁ => wpAny_execs_nil ?_
      exact hQ h₁ tk m' news' (Fr.ext F' he₁ hIL hIg) (News.ext N' he₁ hn') (hsz ▸ hJ)
    | some c =>
      have hlt : i < x.cps.size := (Array.getElem?_eq_some_iff.mp hc).1
      refine item _ i c _ _ hit' hc fun h₁ hit₁ hs₁ => ?_
      have F₁ := Fr.ext F' hs₁.extBut hIL hIg
      have N₁ := News.ext N' hs₁.extBut hn'
      refine wpAny_assign_Name (wpAny_storeName_local hv F₁.ns (fun h₂ hn₂ hs₂ => ?_) hp)
      have F₂ : Fr g L h₂ (fun y => if y = v then some (.str ⟨#[c]⟩ tk) else m' y) := F₁.set hn₂ hs₂
      have N₂ := N₁.set hs₂
      obtain ⟨o, ho, hoc, hod⟩ := hit₁.extBut hs₂.extBut hIL
      refine wpAny_passesOwn hE (wpAny_mono (step i c tk m' news' s.heap.objs.size o h₂ _ hc hJ hn' F₂ (fun p hp => ?_)) (fun f s₃ h₃ => ?_) fun _ _ e => e)
      · rcases List.mem_cons.mp hp with rfl | hp
        · exact ⟨ho, hIL, hIg⟩
        · exact N₂ p hp
      · obtain ⟨rfl, h₃', tk₃, m₃, news₃, rfl, F₃, N₃, hn₃, hJ₃⟩ := h₃
        exact ⟨x.cps.size + 1 - (i + 1), by omega, h₃', tk₃, m₃, news₃, i + 1, rfl, ⟨o, (N₃ _ (.head _)).1, hoc, hod⟩, F₃, fun p hp => N₃ p (.tail _ hp), hn₃, hJ₃, hlt, rfl⟩
  cases ha : x.cps.all (· < 128)
  · refine wpAny_For (hiter _ (wpAny_pyIter_wide ha ?_)) hs
    exact key "str_iterator" _ (fun s' i c Q' E' h1 h2 h3 => wpAny_pyNext_wide_item h1 h2 h3) (fun s' i Q' E' h1 h2 h3 => wpAny_pyNext_wide_end hh h1 h2 h3) ⟨_, Heap.get?_push_size _ rfl, rfl, rfl⟩ (start _).1 (start _).2
  · refine wpAny_For (hiter _ (wpAny_pyIter_ascii ha ?_)) hs
    exact key "str_ascii_iterator" _ (fun s' i c Q' E' h1 h2 h3 => wpAny_pyNext_ascii_item h1 h2 h3) (fun s' i Q' E' h1 h2 h3 => wpAny_pyNext_ascii_end hh h1 h2 h3) ⟨_, Heap.get?_push_size _ rfl, rfl, rfl⟩ (start _).1 (start _).2
theorem forList {ax : Addr} {items : Array Value} (hh : A.handled = none) (hv : (envOf name scope L f0 cd).kindOf v = some .local) (hk : scope.kind = .function)
    (F : Fr g L s.heap m0) (N : News g L s.heap news0) (hl : g.IsList ax items) (hiter : ∀ Q', Q' (.ref ax) s → wpAny (model prog w) A (eval iter (envOf name scope L f0 cd)) Q' E s)
    (J : Nat → (Str → Option Value) → List (Addr × Obj) → Prop) (h0 : J 0 m0 news0)
    (step : ∀ i x m news I o h tk0, items[i]? = some x → J i m news → (∀ p ∈ news, p.1 ≠ I) → Fr g L h (fun y => if y = v then some x else m y) → News g L h ((I, o) :: news) →
      wpAny (model prog w) A (execs body (envOf name scope L f0 cd)) (TurnEnd g L I o s (J (i + 1))) E { s with heap := h, toks := tk0 })
    (hQ : ∀ h' tk m' news', Fr g L h' m' → News g L h' news' → J items.size m' news' → Q .next { s with heap := h', toks := tk })
    (hs : ∀ y, foldedSetIterable iter (envOf name scope L f0 cd) y = pure y := by intro _; rfl)
    (hE : PassesOwn (model prog w) A (envOf name scope L f0 cd) E := by passes_own) :
    wpAny (model prog w) A (exec (.For (.Name v px) iter body [] pos) (envOf name scope L f0 cd)) Q E s := by
  have hp : ((envOf name scope L f0 cd).scope.kind == .class || ((envOf name scope L f0 cd).scope.kind == .module && (envOf name scope L f0 cd).locals != (envOf name scope L f0 cd).globals)) = false := by
    show (scope.kind == .class || (scope.kind == .module && L != mainGlobals)) = false; rw [hk]; rfl
  have hIL : s.heap.objs.size ≠ L := Nat.ne_of_gt F.ns.lt
  have hIg : g.get? s.heap.objs.size = none := by
    cases q : g.get? s.heap.objs.size with
    | none => rfl
    | some o => exact absurd (Heap.lt_size (F.keep _ _ q)) (Nat.lt_irrefl _)
  have hIn : ∀ p ∈ news0, p.1 ≠ s.heap.objs.size := fun p hp => Nat.ne_of_lt (Heap.lt_size (N p hp).1)
  refine wpAny_For (hiter _ (wpAny_pyIter_list (hl.at fun o e => F.keep _ _ e) ?_)) hs
  refine codeAny_forLoop
    (fun n s' => ∃ h' tk m' news' i, s' = { s with heap := h', toks := tk } ∧ h'.IsListIter s.heap.objs.size ax i ∧ Fr g L h' m' ∧ News g L h' news' ∧ (∀ p ∈ news', p.1 ≠ s.heap.objs.size) ∧ J i m' news' ∧ i ≤ items.size ∧ n = items.size + 1 - i) ?_ (items.size + 1)
    ⟨_, s.toks, m0, news0, 0, rfl, ⟨_, Heap.get?_push_size _ rfl, rfl, rfl⟩, F.push _, fun p hp => ⟨Heap.get?_push_of_some _ (N p hp).1, (N p hp).2⟩, hIn, h0, Nat.zero_le _, rfl⟩
  rintro n s' ⟨h', tk, m', news', i, rfl, hit', F', N', hn', hJ, hi, rfl⟩
  have hl' : h'.IsList ax items := hl.at fun o e => F'.keep _ _ e
  cases hc : items[i]? with
  | none =>
    have hsz : i = items.size := Nat.le_antisymm hi (by simpa using hc)
    refine wpAny_pyNext_list_end hh hit' hl' hc fun h₁ he₁ => wpAny_execs_nil ?_
    exact hQ h₁ tk m' news' (Fr.ext F' he₁ hIL hIg) (News.ext N' he₁ hn') (hsz ▸ hJ)
  | some c =>
    have hlt : i < items.size := (Array.getElem?_eq_some_iff.mp hc).1
    refine wpAny_pyNext_list_item hit' hl' hc fun h₁ hit₁ hs₁ => ?_
    have F₁ := Fr.ext F' hs₁.extBut hIL hIg
    have N₁ := News.ext N' hs₁.extBut hn'
    refine wpAny_assign_Name (wpAny_storeName_local hv F₁.ns (fun h₂ hn₂ hs₂ => ?_) hp)
    have F₂ : Fr g L h₂ (fun y => if y = v then some c else m' y) := F₁.set hn₂ hs₂
    have N₂ := N₁.set hs₂
    obtain ⟨o, ho, hoc, hod⟩ := hit₁.extBut hs₂.extBut hIL
    refine wpAny_passesOwn hE (wpAny_mono (step i c m' news' s.heap.objs.size o h₂ _ hc hJ hn' F₂ (fun p hp => ?_)) (fun f s₃ h₃ => ?_) fun _ _ e => e)
    · rcases List.mem_cons.mp hp with rfl | hp
      · exact ⟨ho, hIL, hIg⟩
      · exact N₂ p hp
    · obtain ⟨rfl, h₃', tk₃, m₃, news₃, rfl, F₃, N₃, hn₃, hJ₃⟩ := h₃
      exact ⟨items.size + 1 - (i + 1), by omega, h₃', tk₃, m₃, news₃, i + 1, rfl, ⟨o, (N₃ _ (.head _)).1, hoc, hod⟩, F₃, fun p hp => N₃ p (.tail _ hp), hn₃, hJ₃, hlt, rfl⟩
theorem appHead {a : Addr} {its : Array Value} {n : Nat} {x : Value} {m : Str → Option Value} {pre rest : List (Addr × Obj)} {Q : Value → Shared → Prop} (F : Fr g L s.heap m) (N : News g L s.heap (pre ++ (a, W.listOf its n) :: rest)) (hap : ∀ p ∈ pre ++ rest, p.1 ≠ a) (hsz : its.size ≤ sizeLine)
    (h : ∀ h', Fr g L h' m → News g L h' (pre ++ (a, W.listOf (its.push x) (n + 1)) :: rest) → Q .none { s with heap := h' }) : wpAny (model prog w) A (call (.builtin "list.append") [.ref a, x]) Q E s := by
  have hN := N (a, W.listOf its n) (by simp)
  refine append_at hN.1 (fun h' hs ho => h h' ?_ ?_) hsz
  · exact Fr.ext F hs.extBut hN.2.1 hN.2.2
  · intro p hp
    rcases List.mem_append.mp hp with hp | hp
    · have := N p (by simp [hp])
      exact ⟨(hs.2 _ (hap p (by simp [hp]))).trans this.1, this.2⟩
    · rcases List.mem_cons.mp hp with rfl | hp
      · exact ⟨ho, hN.2⟩
      · have := N p (by simp [hp])
        exact ⟨(hs.2 _ (hap p (by simp [hp]))).trans this.1, this.2⟩
end
end Mine
end LP
section P2
set_option maxRecDepth 100000
namespace Mine
def strL (l : List Nat) : Str := ⟨l.toArray⟩
def seenL (cs : List Nat) : List Nat := cs.flatMap fun c => (bOf c).cps.toList
def lettL (cs : List Nat) : List Nat := cs.flatMap fun c => (cOf c).cps.toList
def numsL (cs : List Nat) : List Int := cs.flatMap nOf
def turnsF (k : Nat) : List Nat → List (Nat × Str)
  | [] => []
  | c :: cs => (if dOf c = es then [] else [(k, dOf c)]) ++ turnsF (k + (bOf c).length) cs
theorem strL_length (l : List Nat) : (strL l).length = l.length := by simp [strL, Str.length]
theorem strL_append (a b : List Nat) : strL (a ++ b) = strL a ++ strL b := by
  apply Str.ext'; simp [strL, Str.cps_append]
theorem strL_cps (x : Str) : strL x.cps.toList = x := by
  apply Str.ext'; simp [strL]
theorem strL_es : strL [] = es := by decide +kernel
theorem append_es (x : Str) : x ++ es = x := by
  apply Str.ext'; rw [Str.cps_append, show es.cps = #[] by decide +kernel]; simp
theorem seen_snoc (pre : List Nat) (c : Nat) : strL (seenL (pre ++ [c])) = strL (seenL pre) ++ bOf c := by
  simp only [seenL, List.flatMap_append, List.flatMap_cons, List.flatMap_nil, List.append_nil, strL_append, strL_cps]
theorem lett_snoc (pre : List Nat) (c : Nat) : strL (lettL (pre ++ [c])) = strL (lettL pre) ++ cOf c := by
  simp only [lettL, List.flatMap_append, List.flatMap_cons, List.flatMap_nil, List.append_nil, strL_append, strL_cps]
theorem nums_snoc (pre : List Nat) (c : Nat) : numsL (pre ++ [c]) = numsL pre ++ nOf c := by
  simp only [numsL, List.flatMap_append, List.flatMap_cons, List.flatMap_nil, List.append_nil]
theorem turns_snoc (pre : List Nat) (c k : Nat) : turnsF k (pre ++ [c]) = turnsF k pre ++ (if dOf c = es then [] else [(k + (seenL pre).length, dOf c)]) := by
  induction pre generalizing k with
  | nil => simp [turnsF, seenL]
  | cons a pre ih =>
    rw [List.cons_append, turnsF, turnsF, ih, List.append_assoc]
    have : k + (bOf a).length + (seenL pre).length = k + (seenL (a :: pre)).length := by
      simp only [seenL, List.flatMap_cons, List.length_append, Str.length, Array.length_toList]; omega
    rw [this]
theorem take_next {cs : List Nat} {i c : Nat} (h : cs[i]? = some c) : cs.take (i + 1) = cs.take i ++ [c] := by
  rw [List.take_add_one, h]; rfl
theorem bOf_len (c : Nat) : (bOf c).length ≤ 1 := by
  unfold bOf; split
  · decide
  · exact Nat.le_refl _
theorem uncS_len (c : Nat) : 1 ≤ (uncS c).length ∧ (uncS c).length ≤ 2 := by
  unfold uncS; split
  · exact ⟨Nat.le_refl 1, by show 1 ≤ 2; omega⟩
  · rw [Str.length_append]
    have : (Str.ofString "^").length = 1 := by decide
    rw [this]
    show 1 ≤ 1 + 1 ∧ 1 + 1 ≤ 2
    omega
theorem cOf_len (c : Nat) : (cOf c).length ≤ 2 := by
  unfold cOf; split
  · exact (uncS_len c).2
  · decide
theorem seen_len (cs : List Nat) : (seenL cs).length ≤ cs.length := by
  induction cs with
  | nil => exact Nat.le_refl 0
  | cons c cs ih =>
    have := bOf_len c
    simp only [seenL, List.flatMap_cons, List.length_append, List.length_cons, Array.length_toList, Str.length] at *
    omega
theorem lett_len (cs : List Nat) : (lettL cs).length ≤ 2 * cs.length := by
  induction cs with
  | nil => exact Nat.le_refl 0
  | cons c cs ih =>
    have := cOf_len c
    simp only [lettL, List.flatMap_cons, List.length_append, List.length_cons, Array.length_toList, Str.length] at *
    omega
theorem uncS_ne (c : Nat) : uncS c ≠ es := by
  intro h
  have := (uncS_len c).1
  rw [h] at this
  exact absurd this (by decide)
structure Kinds (c : Nat) (b l : Str) (n : List Int) (d : Str) : Prop where
  b : bOf c = b
  l : cOf c = l
  n : nOf c = n
  d : dOf c = d
theorem k_c9 {c : Nat} (h : inC9 c = true) : Kinds c es (uncS c) [] es :=
  ⟨by rw [bOf, if_pos (.inl h)], by rw [cOf, if_pos h], by rw [nOf, if_pos (.inl h)], by rw [dOf, if_pos h]⟩
theorem k_c8 {c : Nat} (h9 : inC9 c = false) (h : inC8 c = true) : Kinds c es es [] (uncS c) :=
  ⟨by rw [bOf, if_pos (.inr (.inl h))], by rw [cOf, if_neg (by rw [h9]; decide)], by rw [nOf, if_pos (.inr h)], by rw [dOf, if_neg (by rw [h9]; decide), if_pos h]⟩
theorem k_num {c : Nat} (h9 : inC9 c = false) (h8 : inC8 c = false) (h : inB1 c = true) (h16 : c / 16 = 4064) : Kinds c es es [((c % 32 : Nat) : Int)] es :=
  ⟨by rw [bOf, if_pos (.inr (.inr h))], by rw [cOf, if_neg (by rw [h9]; decide)], by rw [nOf, if_neg (by rw [h9, h8]; decide), if_pos ⟨h, h16⟩], by rw [dOf, if_neg (by rw [h9]; decide), if_neg (by rw [h8]; decide)]⟩
theorem k_dust {c : Nat} (h9 : inC9 c = false) (h8 : inC8 c = false) (h : inB1 c = true) (h16 : ¬ c / 16 = 4064) : Kinds c es es [] es :=
  ⟨by rw [bOf, if_pos (.inr (.inr h))], by rw [cOf, if_neg (by rw [h9]; decide)], by rw [nOf, if_neg (by rw [h9, h8]; decide), if_neg (fun q => h16 q.2)], by rw [dOf, if_neg (by rw [h9]; decide), if_neg (by rw [h8]; decide)]⟩
theorem k_seen {c : Nat} (h9 : inC9 c = false) (h8 : inC8 c = false) (h : inB1 c = false) : Kinds c ⟨#[c]⟩ es [] es :=
  ⟨by rw [bOf, if_neg (by rw [h9, h8, h]; decide)], by rw [cOf, if_neg (by rw [h9]; decide)], by rw [nOf, if_neg (by rw [h9, h8]; decide), if_neg (by rw [h]; simp)], by rw [dOf, if_neg (by rw [h9]; decide), if_neg (by rw [h8]; decide)]⟩
end Mine
namespace Mine
theorem turns_len (cs : List Nat) : ∀ k, (turnsF k cs).length ≤ cs.length := by
  induction cs with
  | nil => intro k; exact Nat.le_refl 0
  | cons c cs ih =>
    intro k
    have := ih (k + (bOf c).length)
    rw [turnsF, List.length_append, List.length_cons]
    split
    · simp only [List.length_nil]; omega
    · simp only [List.length_cons, List.length_nil]; omega
theorem nums_len (cs : List Nat) : (numsL cs).length ≤ cs.length := by
  induction cs with
  | nil => exact Nat.le_refl 0
  | cons c cs ih =>
    have : (nOf c).length ≤ 1 := by
      unfold nOf; split
      · exact Nat.zero_le _
      · split
        · exact Nat.le_refl _
        · exact Nat.zero_le _
    simp only [numsL, List.flatMap_cons, List.length_append, List.length_cons] at *
    omega
inductive TurnsIn (news : List (Addr × Obj)) : List Value → List (Nat × Str) → Prop
  | nil : TurnsIn news [] []
  | cons {a : Addr} {k : Nat} {d : Str} {t t' : Tok} {vs ds} : (a, W.listOf #[.int (k : Int) t, .str d t'] 0) ∈ news → TurnsIn news vs ds → TurnsIn news (.ref a :: vs) ((k, d) :: ds)
theorem TurnsIn.mono {news news' : List (Addr × Obj)} (hs : ∀ p ∈ news, p ∈ news') : ∀ {vs ds}, TurnsIn news vs ds → TurnsIn news' vs ds
  | _, _, .nil => .nil
  | _, _, .cons h r => .cons (hs _ h) (TurnsIn.mono hs r)
theorem TurnsIn.snoc {news : List (Addr × Obj)} {a : Addr} {k : Nat} {d : Str} {t t' : Tok} (h : (a, W.listOf #[.int (k : Int) t, .str d t'] 0) ∈ news) : ∀ {vs ds}, TurnsIn news vs ds → TurnsIn news (vs ++ [.ref a]) (ds ++ [(k, d)])
  | _, _, .nil => .cons h .nil
  | _, _, .cons h' r => .cons h' (TurnsIn.snoc h r)
theorem TurnsIn.length {news : List (Addr × Obj)} : ∀ {vs ds}, TurnsIn news vs ds → vs.length = ds.length
  | _, _, .nil => rfl
  | _, _, .cons _ r => by rw [List.length_cons, List.length_cons, TurnsIn.length r]
theorem ints_snoc {vs : List Value} {ns : List Int} {n : Int} {t : Tok} : IntsAre vs ns → IntsAre (vs ++ [.int n t]) (ns ++ [n])
  | .nil => .cons n t .nil
  | .cons a b r => .cons a b (ints_snoc r)
def turnD (p : Nat × Str) : PyData := .list [.int (p.1 : Int), .str p.2]
theorem TurnsIn.reads {g h : Heap} {L : Addr} {news : List (Addr × Obj)} (N : News g L h news) : ∀ {vs ds}, TurnsIn news vs ds → ∃ as, ReadsAll h vs (ds.map turnD) as ∧ ∀ a ∈ as, g.get? a = none
  | _, _, .nil => ⟨[], .nil, fun _ ha => nomatch ha⟩
  | _, _, .cons (a := a) (k := k) (d := d) (t := t) (t' := t') hm r => by
    obtain ⟨as, hr, hf⟩ := TurnsIn.reads N r
    refine ⟨(a :: ([] ++ ([] ++ []))) ++ as, .cons (.list (N _ hm).1 rfl rfl (.cons (.int (k : Int) t) (.cons (.str d t') .nil))) hr, fun b hb => ?_⟩
    rcases List.mem_append.mp hb with hb | hb
    · simp at hb; subst hb; exact (N _ hm).2.2
    · exact hf b hb
end Mine
end P2
section R1
set_option maxRecDepth 100000
namespace Mine
local macro_rules | `(tactic| walk_at "exec For") => `(tactic| ((with_reducible show wpAny _ _ (exec (PySem.Stmt.For _ _ _ _ _) _) _ _ _); refine hold ?_))
abbrev nSeen : Str := Str.ofString "seen"
abbrev nLet : Str := Str.ofString "letters"
abbrev nNum : Str := Str.ofString "numbers"
abbrev nTur : Str := Str.ofString "turns"
theorem canon4 {m : Str → Option Value} {a b c d : Value} (h1 : m nSeen = some a) (h2 : m nLet = some b) (h3 : m nNum = some c) (h4 : m nTur = some d) :
    m = fun y => if y = nTur then some d else if y = nNum then some c else if y = nLet then some b else if y = nSeen then some a else m y := by
  funext y
  split
  · rename_i e; rw [e, h4]
  · split
    · rename_i e; rw [e, h3]
    · split
      · rename_i e; rw [e, h2]
      · split
        · rename_i e; rw [e, h1]
        · rfl
def RevJ (cs : List Nat) (i : Nat) (m : Str → Option Value) (news : List (Addr × Obj)) : Prop :=
  ∃ (t1 t2 : Tok) (nA tA : Addr) (its1 its2 : Array Value) (n1 n2 : Nat) (rest : List (Addr × Obj)),
    m nSeen = some (.str (strL (seenL (cs.take i))) t1) ∧ m nLet = some (.str (strL (lettL (cs.take i))) t2) ∧ m nNum = some (.ref nA) ∧ m nTur = some (.ref tA) ∧
    news = (tA, W.listOf its2 n2) :: (nA, W.listOf its1 n1) :: rest ∧ nA ≠ tA ∧ (∀ p ∈ rest, p.1 ≠ nA ∧ p.1 ≠ tA) ∧ IntsAre its1.toList (numsL (cs.take i)) ∧ TurnsIn rest its2.toList (turnsF 0 (cs.take i))
theorem rev_mk {cs : List Nat} {i c : Nat} {m : Str → Option Value} {news : List (Addr × Obj)} {b l : Str} {n : List Int} {d : Str} {t1 t2 : Tok} {nA tA : Addr} {its1 its2 : Array Value} {n1 n2 : Nat} {rest : List (Addr × Obj)} (hc : cs[i]? = some c) (K : Kinds c b l n d)
    (h1 : m nSeen = some (.str (strL (seenL (cs.take i)) ++ b) t1)) (h2 : m nLet = some (.str (strL (lettL (cs.take i)) ++ l) t2)) (h3 : m nNum = some (.ref nA)) (h4 : m nTur = some (.ref tA))
    (hn : news = (tA, W.listOf its2 n2) :: (nA, W.listOf its1 n1) :: rest) (hne : nA ≠ tA) (hr : ∀ p ∈ rest, p.1 ≠ nA ∧ p.1 ≠ tA) (hi1 : IntsAre its1.toList (numsL (cs.take i) ++ n))
    (hi2 : TurnsIn rest its2.toList (turnsF 0 (cs.take i) ++ (if d = es then [] else [((seenL (cs.take i)).length, d)]))) : RevJ cs (i + 1) m news := by
  have hT := take_next hc
  refine ⟨t1, t2, nA, tA, its1, its2, n1, n2, rest, ?_, ?_, h3, h4, hn, hne, hr, ?_, ?_⟩
  · rw [hT, seen_snoc, K.b]; exact h1
  · rw [hT, lett_snoc, K.l]; exact h2
  · rw [hT, nums_snoc, K.n]; exact hi1
  · rw [hT, turns_snoc, K.d, Nat.zero_add]; exact hi2
theorem end_c8 {g h5 : Heap} {s₀ : Shared} {tk : Nat} {L l' I nA tA : Addr} {o : Obj} {cs : List Nat} {i c : Nat} {m : Str → Option Value} {t1 t2 ta tb : Tok} {its1 its2 : Array Value} {n1 n2 : Nat} {rest : List (Addr × Obj)}
    (F5 : Fr g L h5 m) (N5 : News g L h5 ([(l', W.listOf #[.int ((strL (seenL (cs.take i))).length : Int) ta, .str (uncS c) tb] 0), (I, o)] ++ (tA, W.listOf (its2.push (.ref l')) (n2 + 1)) :: (nA, W.listOf its1 n1) :: rest))
    (l1 : I < l' ∧ tA < l' ∧ nA < l' ∧ AllLt l' rest) (hI : ∀ p ∈ (tA, W.listOf its2 n2) :: (nA, W.listOf its1 n1) :: rest, p.1 ≠ I) (hne : nA ≠ tA) (hr : ∀ p ∈ rest, p.1 ≠ nA ∧ p.1 ≠ tA)
    (hi1 : IntsAre its1.toList (numsL (cs.take i))) (hi2 : TurnsIn rest its2.toList (turnsF 0 (cs.take i))) (hc : cs[i]? = some c) (K : Kinds c es es [] (uncS c))
    (h1 : m nSeen = some (.str (strL (seenL (cs.take i))) t1)) (h2 : m nLet = some (.str (strL (lettL (cs.take i))) t2)) (h3 : m nNum = some (.ref nA)) (h4 : m nTur = some (.ref tA)) :
    TurnEnd g L I o s₀ (RevJ cs (i + 1)) .next { s₀ with heap := h5, toks := tk } := by
  refine ⟨rfl, h5, tk, m, (tA, W.listOf (its2.push (.ref l')) (n2 + 1)) :: (nA, W.listOf its1 n1) :: (l', W.listOf #[.int ((strL (seenL (cs.take i))).length : Int) ta, .str (uncS c) tb] 0) :: rest, rfl, F5, fun p hp => N5 p ?_, ?_,
    rev_mk hc K (by rw [append_es]; exact h1) (by rw [append_es]; exact h2) h3 h4 rfl hne ?_ (by rw [List.append_nil]; exact hi1) ?_⟩
  · simp only [List.mem_cons, List.mem_append, List.not_mem_nil, or_false] at hp ⊢
    rcases hp with rfl | rfl | rfl | rfl | hp
    · exact .inl (.inr rfl)
    · exact .inr (.inl rfl)
    · exact .inr (.inr (.inl rfl))
    · exact .inl (.inl rfl)
    · exact .inr (.inr (.inr hp))
  · intro p hp
    simp only [List.mem_cons] at hp
    rcases hp with rfl | rfl | rfl | hp
    · exact hI (tA, W.listOf its2 n2) (.head _)
    · exact hI _ (.tail _ (.head _))
    · exact Nat.ne_of_gt l1.1
    · exact hI _ (.tail _ (.tail _ hp))
  · intro p hp
    rcases List.mem_cons.mp hp with rfl | hp
    · exact ⟨Nat.ne_of_gt l1.2.2.1, Nat.ne_of_gt l1.2.1⟩
    · exact hr p hp
  · rw [if_neg (uncS_ne c), Array.toList_push]
    refine TurnsIn.snoc (t := ta) (t' := tb) ?_ (hi2.mono fun p hp => .tail _ hp)
    rw [← strL_length]
    exact .head _
theorem end_num {g h5 : Heap} {s₀ : Shared} {tk : Nat} {L I nA tA : Addr} {o : Obj} {cs : List Nat} {i c : Nat} {m : Str → Option Value} {t1 t2 ta : Tok} {its1 its2 : Array Value} {n1 n2 : Nat} {rest : List (Addr × Obj)} {k : Int}
    (F5 : Fr g L h5 m) (N5 : News g L h5 ([(I, o), (tA, W.listOf its2 n2)] ++ (nA, W.listOf (its1.push (.int k ta)) (n1 + 1)) :: rest))
    (hI : ∀ p ∈ (tA, W.listOf its2 n2) :: (nA, W.listOf its1 n1) :: rest, p.1 ≠ I) (hne : nA ≠ tA) (hr : ∀ p ∈ rest, p.1 ≠ nA ∧ p.1 ≠ tA)
    (hi1 : IntsAre its1.toList (numsL (cs.take i))) (hi2 : TurnsIn rest its2.toList (turnsF 0 (cs.take i))) (hc : cs[i]? = some c) (K : Kinds c es es [k] es)
    (h1 : m nSeen = some (.str (strL (seenL (cs.take i))) t1)) (h2 : m nLet = some (.str (strL (lettL (cs.take i))) t2)) (h3 : m nNum = some (.ref nA)) (h4 : m nTur = some (.ref tA)) :
    TurnEnd g L I o s₀ (RevJ cs (i + 1)) .next { s₀ with heap := h5, toks := tk } := by
  refine ⟨rfl, h5, tk, m, (tA, W.listOf its2 n2) :: (nA, W.listOf (its1.push (.int k ta)) (n1 + 1)) :: rest, rfl, F5, N5, ?_,
    rev_mk hc K (by rw [append_es]; exact h1) (by rw [append_es]; exact h2) h3 h4 rfl hne hr (by rw [Array.toList_push]; exact ints_snoc hi1) (by rw [if_pos rfl, List.append_nil]; exact hi2)⟩
  intro p hp
  simp only [List.mem_cons] at hp
  rcases hp with rfl | rfl | hp
  · exact hI _ (.head _)
  · exact hI (nA, W.listOf its1 n1) (.tail _ (.head _))
  · exact hI _ (.tail _ (.tail _ hp))
def revD (cs : List Nat) : PyData := .list [.str (strL (seenL cs)), .str (strL (lettL cs)), .list ((numsL cs).map .int), .list ((turnsF 0 cs).map turnD)]
theorem rev_reads {g h : Heap} {L l nA tA : Addr} {news rest : List (Addr × Obj)} {cs : List Nat} {t1 t2 : Tok} {its1 its2 : Array Value} {n1 n2 : Nat} (N : News g L h news)
    (m1 : (l, W.listOf #[.str (strL (seenL cs)) t1, .str (strL (lettL cs)) t2, .ref nA, .ref tA] 0) ∈ news) (m2 : (tA, W.listOf its2 n2) ∈ news) (m3 : (nA, W.listOf its1 n1) ∈ news) (hs : ∀ p ∈ rest, p ∈ news)
    (hi1 : IntsAre its1.toList (numsL cs)) (hi2 : TurnsIn rest its2.toList (turnsF 0 cs)) : ∃ as, Reads h (.ref l) (revD cs) as ∧ ∀ a ∈ as, g.get? a = none := by
  obtain ⟨as, hr, hf⟩ := TurnsIn.reads N (hi2.mono hs)
  refine ⟨l :: ([] ++ ([] ++ ((nA :: []) ++ ((tA :: as) ++ [])))), .list (N _ m1).1 rfl rfl (.cons (.str _ t1) (.cons (.str _ t2) (.cons (.list (N _ m3).1 rfl rfl (reads_ints hi1)) (.cons (.list (N _ m2).1 rfl rfl hr) .nil)))), ?_⟩
  intro a ha
  simp at ha
  rcases ha with rfl | rfl | rfl | ha
  · exact (N _ m1).2.2
  · exact (N _ m3).2.2
  · exact (N _ m2).2.2
  · exact hf a ha
theorem bit7 (c : Nat) (h : c / 128 % 2 = 0) : Builtin.bitAnd (c : Int) 128 = 0 := by
  have q := kbt_bit (c : Int) 7
  rw [show (2 : Int) ^ 7 = 128 from rfl] at q
  rw [q]; omega
theorem c9_unc {c : Nat} (h : inC9 c = true) : ¬ ((c : Int) = 127) ∧ Builtin.bitAnd (c : Int) 128 = 0 := by
  simp only [inC9, decide_eq_true_eq] at h
  exact ⟨by omega, bit7 c (by omega)⟩
theorem c8_unc {c : Nat} (h : inC8 c = true) : ¬ ((c : Int) = 127) ∧ Builtin.bitAnd (c : Int) 128 = 0 := by
  simp only [inC8, decide_eq_true_eq] at h
  exact ⟨by omega, bit7 c (by omega)⟩
set_option maxHeartbeats 8000000 in
theorem t_review (w : World) (cs : List Nat) (t : Tok) (hlen : cs.length ≤ 1000) : Spec w 144 [.str (strL cs) t] 12 100 (fun g h' v => ∃ as, Reads h' v (revD cs) as ∧ ∀ a ∈ as, g.get? a = none) := by
  unfold Spec; k_fill
  intro mean mg mb A base g outer gens drawn toks os Q E X T B hh hd hu hret
  refine enter X T B (by k_is) (by k_is) (by omega) (BindsTo.of_eq rfl) (locs rfl) ?_ rfl rfl rfl (by decide)
  intro h₁ F N
  dsimp only
  k_steps
  unfold Held
  refine forStr (x := strL cs) (t := t) (J := RevJ cs) hh rfl rfl (by assumption) (by assumption) (fun Q' h' => ?_) ?_ ?_ ?_
  · k_steps
    exact h'
  · refine ⟨_, _, _, _, #[], #[], 0, 0, [], rfl, rfl, rfl, rfl, rfl, ?_, ?_, ?_, ?_⟩
    · have l1 := ‹_ < _›
      exact Nat.ne_of_lt l1
    · intro p hp; cases hp
    · exact .nil
    · exact .nil
  · intro i c tk m news I o h tk0 hc hJ hI F1 N1
    obtain ⟨t1, t2, nA, tA, its1, its2, n1, n2, rest, hm1, hm2, hm3, hm4, rfl, hne, hr, hi1, hi2⟩ := hJ
    rw [canon4 hm1 hm2 hm3 hm4] at F1
    have hc' : cs[i]? = some c := by simpa [strL] using hc
    have hil : i < cs.length := (List.getElem?_eq_some_iff.mp hc').1
    have hT := take_next hc'
    have hls := seen_len (cs.take i)
    have hll := lett_len (cs.take i)
    rw [List.length_take] at hls hll
    have hu2 := uncS_len c
    k_steps
    refine (t_c9 _ _ _).use X T B hh (by assumption) (by assumption) (by omega) (by omega) ?_
    rintro v h2 tk2 F2 N2 hk2 rfl
    k_steps
    · have K := k_c9 (by assumption : inC9 c = true)
      refine (t_unctrl _ _ _ (c9_unc (by assumption)).1 (c9_unc (by assumption)).2).use X T B hh (by assumption) (by assumption) (by omega) (by omega) ?_
      rintro v h3 tk3 F3 N3 hk3 ⟨t3, rfl⟩
      k_steps
      refine PyProof.Rows.add_str ?_ (by rw [strL_length, sizeLine_eq]; omega)
      intro t4 tk4
      k_steps
      exact ⟨rfl, _, _, _, _, rfl, by assumption, by assumption, hI, rev_mk hc' K (by rw [append_es]; rfl) rfl rfl rfl rfl hne hr (by rw [List.append_nil]; exact hi1) (by rw [if_pos rfl, List.append_nil]; exact hi2)⟩
    · refine (t_c8 _ _ _).use X T B hh (by assumption) (by assumption) (by omega) (by omega) ?_
      rintro v h3 tk3 F3 N3 hk3 rfl
      k_steps
      · have K := k_c8 (by assumption : inC9 c = false) (by assumption : inC8 c = true)
        refine P.len_str (by rw [strL_length]; omega) ?_
        k_steps
        refine (t_unctrl _ _ _ (c8_unc (by assumption)).1 (c8_unc (by assumption)).2).use X T B hh (by assumption) (by assumption) (by omega) (by omega) ?_
        rintro v h4 tk4 F4 N4 hk4 ⟨t4, rfl⟩
        k_steps
        rename (I < _ ∧ _) => l1
        have hsz : its2.size ≤ sizeLine := by
          have e1 := hi2.length
          have e2 := turns_len (cs.take i) 0
          rw [List.length_take] at e2
          rw [sizeLine_eq]; simp only [Array.length_toList] at e1; omega
        refine appHead (pre := [(_, _), (I, o)]) (by assumption) (by assumption) ?_ hsz ?_
        · intro p hp
          simp at hp
          rcases hp with rfl | rfl | rfl | hp
          · exact Nat.ne_of_gt l1.2.1
          · exact fun q => hI _ (.head _) q.symm
          · exact hne
          · exact (hr p hp).2
        intro h5 F5 N5
        k_steps
        exact end_c8 F5 N5 l1 hI hne hr hi1 hi2 hc' K rfl rfl rfl rfl
      · refine (t_b1 _ _ _).use X T B hh (by assumption) (by assumption) (by omega) (by omega) ?_
        rintro v h4 tk4 F4 N4 hk4 rfl
        k_steps
        · have h16 : c / 16 = 4064 := by
            have q := (by assumption : (c : Int).fdiv 16 = 4064)
            rw [Int.fdiv_eq_ediv_of_nonneg _ (by decide : (0 : Int) ≤ 16)] at q; omega
          have K := k_num (by assumption : inC9 c = false) (by assumption : inC8 c = false) (by assumption : inB1 c = true) h16
          rw [show ((c % 32 : Nat) : Int) = (c : Int) % 32 by omega] at K
          refine (t_ctrl _ _ _).use X T B hh (by assumption) (by assumption) (by omega) (by omega) ?_
          rintro v h5 tk5 F5 N5 hk5 ⟨t5, rfl⟩
          k_steps
          have hsz : its1.size ≤ sizeLine := by
            have e1 := hi1.length
            have e2 := nums_len (cs.take i)
            rw [List.length_take] at e2
            rw [sizeLine_eq]; simp only [Array.length_toList] at e1; omega
          refine appHead (pre := [(I, o), (tA, W.listOf its2 n2)]) (by assumption) (by assumption) ?_ hsz ?_
          · intro p hp
            simp only [List.mem_cons, List.mem_append, List.not_mem_nil, or_false] at hp
            rcases hp with (rfl | rfl) | hp
            · exact fun q => hI (nA, W.listOf its1 n1) (.tail _ (.head _)) q.symm
            · exact Ne.symm hne
            · exact (hr p hp).1
          intro h6 F6 N6
          k_steps
          exact end_num F6 N6 hI hne hr hi1 hi2 hc' K rfl rfl rfl rfl
        · have h16 : ¬ c / 16 = 4064 := by
            have q := (by assumption : (c : Int).fdiv 16 ≠ 4064)
            rw [Int.fdiv_eq_ediv_of_nonneg _ (by decide : (0 : Int) ≤ 16)] at q; omega
          have K := k_dust (by assumption : inC9 c = false) (by assumption : inC8 c = false) (by assumption : inB1 c = true) h16
          exact ⟨rfl, _, _, _, _, rfl, by assumption, by assumption, hI, rev_mk hc' K (by rw [append_es]; rfl) (by rw [append_es]; rfl) rfl rfl rfl hne hr (by rw [List.append_nil]; exact hi1) (by rw [if_pos rfl, List.append_nil]; exact hi2)⟩
        · have K := k_seen (by assumption : inC9 c = false) (by assumption : inC8 c = false) (by assumption : inB1 c = false)
          refine PyProof.Rows.add_str ?_ (by rw [strL_length, sizeLine_eq]; show _ + 1 ≤ _; omega)
          intro t5 tk5
          k_steps
          exact ⟨rfl, _, _, _, _, rfl, by assumption, by assumption, hI, rev_mk hc' K rfl (by rw [append_es]; rfl) rfl rfl rfl hne hr (by rw [List.append_nil]; exact hi1) (by rw [if_pos rfl, List.append_nil]; exact hi2)⟩
  · intro h' tk m' news' F' N' hJ
    rw [show (strL cs).cps.size = cs.length by simp [strL]] at hJ
    obtain ⟨t1, t2, nA, tA, its1, its2, n1, n2, rest, hm1, hm2, hm3, hm4, rfl, hne, hr, hi1, hi2⟩ := hJ
    rw [List.take_length] at hm1 hm2 hi1 hi2
    rw [canon4 hm1 hm2 hm3 hm4] at F'
    dsimp only
    k_steps
    exact hret _ _ _ (Fr.keep (by assumption)) (rev_reads (by assumption) (.head _) (.tail _ (.head _)) (.tail _ (.tail _ (.head _))) (fun p hp => .tail _ (.tail _ (.tail _ hp))) hi1 hi2)
end Mine
end R1
section T0
set_option maxRecDepth 100000
namespace Mine
/-- a contract with a condition on the heap at the call -/
def SpecP (w : World) (f : Addr) (vs : List Value) (dep un : Nat) (R : Heap → Prop) (P : Heap → Heap → Value → Prop) : Prop :=
  ∀ (mean : ExcName → Option Value) (mg mb : Str → Option Value) (A : Around) (base g : Heap) (outer : List Env) (gens : Array GenState) (drawn : Drawn) (toks : Nat) (os : OsState) (Q E : Value → Shared → Prop),
    (KK w.params).In g → Top qq (looseW qq ll) mean mg mb g → Below A base outer g → A.handled = none → A.depth + dep < recursionLimit → A.units + un < cLine → R g →
    (∀ v h' tk', (∀ b o, g.get? b = some o → h'.get? b = some o) → P g h' v → Q v ⟨h', gens, drawn, tk', os⟩) →
    wpAny (model Challenge.rw_mj0050_01.row.prog w) A (call (.ref f) vs) Q E ⟨g, gens, drawn, toks, os⟩
theorem SpecP.use {w : World} {f : Addr} {vs : List Value} {dep un : Nat} {R : Heap → Prop} {P : Heap → Heap → Value → Prop} (S : SpecP w f vs dep un R P)
    {mean : ExcName → Option Value} {mg mb : Str → Option Value} {A : Around} {base g : Heap} {outer : List Env} {L f0 : Addr} {m : Str → Option Value} {news : List (Addr × Obj)} {name : Str} {scope : Scope} {cd : Value} {s : Shared} {Q E : Value → Shared → Prop}
    (X : (KK w.params).In g) (T : Top qq (looseW qq ll) mean mg mb g) (B : Below A base outer g) (hh : A.handled = none) (F : Fr g L s.heap m) (N : News g L s.heap news) (hd : A.depth + 1 + dep < recursionLimit) (hu : A.units + 3 + un < cLine) (hR : R s.heap)
    (h : ∀ v h' tk', Fr g L h' m → News g L h' news → (∀ b o, s.heap.get? b = some o → h'.get? b = some o) → P s.heap h' v → Q v { s with heap := h', toks := tk' }) (hk : scope.kind = .function := by rfl) :
    wpAny (model Challenge.rw_mj0050_01.row.prog w) (A.deeper (envOf name scope L f0 cd)) (call (.ref f) vs) Q E s := by
  obtain ⟨heap, gens, drawn, toks, os⟩ := s
  exact S mean mg mb _ base heap _ gens drawn toks os Q E (X.keeps F.keep) (T.keeps F.keep) (B.push F hk) hh hd hu hR fun v h' tk' k p => h v h' tk' (F.grownK k) (N.grown k) k p
theorem readsAll_get {h : Heap} : ∀ {vs : List Value} {ds : List PyData} {as : List Addr}, ReadsAll h vs ds as → ∀ {i : Nat} {x : Value}, vs[i]? = some x → ∃ d as', ds[i]? = some d ∧ Reads h x d as' ∧ ∀ a ∈ as', a ∈ as
  | _, _, _, .nil, i, x, e => by simp at e
  | _, _, _, .cons r R, 0, x, e => by
    simp only [List.getElem?_cons_zero, Option.some.injEq] at e
    subst e
    exact ⟨_, _, rfl, r, fun a ha => List.mem_append.mpr (.inl ha)⟩
  | _, _, _, .cons r R, i + 1, x, e => by
    simp only [List.getElem?_cons_succ] at e
    obtain ⟨d, as', h1, h2, h3⟩ := readsAll_get R e
    exact ⟨d, as', h1, h2, fun a ha => List.mem_append.mpr (.inr (h3 a ha))⟩
theorem readsAll_len {h : Heap} : ∀ {vs : List Value} {ds : List PyData} {as : List Addr}, ReadsAll h vs ds as → vs.length = ds.length
  | _, _, _, .nil => rfl
  | _, _, _, .cons _ R => by rw [List.length_cons, List.length_cons, readsAll_len R]
theorem piece_open {h : Heap} {x : Value} {c : Nat} {as : List Addr} (r : Reads h x (pcD c) as) :
    ∃ a b t0 t1 t2 t4 bs, x = .ref a ∧ h.IsList a [.str ⟨#[c]⟩ t0, .str (bOf c) t1, .str (cOf c) t2, .ref b, .str (dOf c) t4].toArray ∧ Reads h (.ref b) (.list ((nOf c).map .int)) bs := by
  obtain ⟨a, l, bs, rfl, rfl, hl, R⟩ := reads_list_items r
  cases R with | cons r0 R =>
  cases R with | cons r1 R =>
  cases R with | cons r2 R =>
  cases R with | cons r3 R =>
  cases R with | cons r4 R =>
  cases R
  obtain ⟨t0, rfl, rfl⟩ := reads_str_inv r0
  obtain ⟨t1, rfl, rfl⟩ := reads_str_inv r1
  obtain ⟨t2, rfl, rfl⟩ := reads_str_inv r2
  obtain ⟨t4, rfl, rfl⟩ := reads_str_inv r4
  obtain ⟨b, l', bs', rfl, rfl, hl', R'⟩ := reads_list_items r3
  exact ⟨a, b, t0, t1, t2, t4, _, rfl, hl, r3⟩
end Mine
end T0
section T1
set_option maxRecDepth 100000
namespace Mine
local macro_rules | `(tactic| walk_at "exec For") => `(tactic| ((with_reducible show wpAny _ _ (exec (PySem.Stmt.For _ _ _ _ _) _) _ _ _); refine hold ?_))
abbrev nTu : Str := Str.ofString "turns"
abbrev nAh : Str := Str.ofString "ahead"
theorem canon2 {m : Str → Option Value} {a b : Value} (h1 : m nTu = some a) (h2 : m nAh = some b) :
    m = fun y => if y = nAh then some b else if y = nTu then some a else m y := by
  funext y
  split
  · rename_i e; rw [e, h2]
  · split
    · rename_i e; rw [e, h1]
    · rfl
def TurJ (cs : List Nat) (i : Nat) (m : Str → Option Value) (news : List (Addr × Obj)) : Prop :=
  ∃ (t1 : Tok) (tA : Addr) (its : Array Value) (n : Nat) (rest : List (Addr × Obj)),
    m nTu = some (.ref tA) ∧ m nAh = some (.int ((seenL (cs.take i)).length : Int) t1) ∧ news = (tA, W.listOf its n) :: rest ∧ (∀ p ∈ rest, p.1 ≠ tA) ∧ TurnsIn rest its.toList (turnsF 0 (cs.take i))
theorem tur_mk {cs : List Nat} {i c : Nat} {m : Str → Option Value} {news : List (Addr × Obj)} {t1 : Tok} {tA : Addr} {its : Array Value} {n : Nat} {rest : List (Addr × Obj)} (hc : cs[i]? = some c)
    (h1 : m nTu = some (.ref tA)) (h2 : m nAh = some (.int (((seenL (cs.take i)).length : Int) + ((bOf c).length : Int)) t1)) (hn : news = (tA, W.listOf its n) :: rest) (hr : ∀ p ∈ rest, p.1 ≠ tA)
    (hi2 : TurnsIn rest its.toList (turnsF 0 (cs.take i) ++ (if dOf c = es then [] else [((seenL (cs.take i)).length, dOf c)]))) : TurJ cs (i + 1) m news := by
  have hT := take_next hc
  have hS := congrArg Str.length (seen_snoc (cs.take i) c)
  rw [strL_length, Str.length_append, strL_length] at hS
  refine ⟨t1, tA, its, n, rest, h1, ?_, hn, hr, ?_⟩
  · rw [hT, hS, h2]; rfl
  · rw [hT, turns_snoc, Nat.zero_add]; exact hi2
theorem end_tur {g h5 : Heap} {s₀ : Shared} {tk : Nat} {L l' I tA : Addr} {o : Obj} {cs : List Nat} {i c : Nat} {m : Str → Option Value} {t1 ta tb : Tok} {its : Array Value} {n : Nat} {rest : List (Addr × Obj)}
    (F5 : Fr g L h5 m) (N5 : News g L h5 ([(l', W.listOf #[.int ((seenL (cs.take i)).length : Int) ta, .str (dOf c) tb] 0), (I, o)] ++ (tA, W.listOf (its.push (.ref l')) (n + 1)) :: rest))
    (l1 : I < l' ∧ tA < l' ∧ AllLt l' rest) (hI : ∀ p ∈ (tA, W.listOf its n) :: rest, p.1 ≠ I) (hr : ∀ p ∈ rest, p.1 ≠ tA) (hi2 : TurnsIn rest its.toList (turnsF 0 (cs.take i))) (hc : cs[i]? = some c) (hd : dOf c ≠ es)
    (h1 : m nTu = some (.ref tA)) (h2 : m nAh = some (.int (((seenL (cs.take i)).length : Int) + ((bOf c).length : Int)) t1)) :
    TurnEnd g L I o s₀ (TurJ cs (i + 1)) .next { s₀ with heap := h5, toks := tk } := by
  refine ⟨rfl, h5, tk, m, (tA, W.listOf (its.push (.ref l')) (n + 1)) :: (l', W.listOf #[.int ((seenL (cs.take i)).length : Int) ta, .str (dOf c) tb] 0) :: rest, rfl, F5, fun p hp => N5 p ?_, ?_, tur_mk hc h1 h2 rfl ?_ ?_⟩
  · simp only [List.mem_cons, List.mem_append, List.not_mem_nil, or_false] at hp ⊢
    rcases hp with rfl | rfl | rfl | hp
    · exact .inl (.inr rfl)
    · exact .inr (.inl rfl)
    · exact .inl (.inl rfl)
    · exact .inr (.inr hp)
  · intro p hp
    simp only [List.mem_cons] at hp
    rcases hp with rfl | rfl | hp
    · exact hI (tA, W.listOf its n) (.head _)
    · exact Nat.ne_of_gt l1.1
    · exact hI _ (.tail _ hp)
  · intro p hp
    rcases List.mem_cons.mp hp with rfl | hp
    · exact Nat.ne_of_gt l1.2.1
    · exact hr p hp
  · rw [if_neg hd, Array.toList_push]
    exact TurnsIn.snoc (t := ta) (t' := tb) (.head _) (hi2.mono fun p hp => .tail _ hp)
set_option maxHeartbeats 8000000 in
theorem t_turned (w : World) (cs : List Nat) (ax : Addr) (hlen : cs.length ≤ 1000) : SpecP w 137 [.ref ax] 12 100 (fun g => ∃ items as, g.IsList ax items ∧ ReadsAll g items.toList (cs.map pcD) as)
    (fun g h' v => ∃ as, Reads h' v (.list ((turnsF 0 cs).map turnD)) as ∧ ∀ a ∈ as, g.get? a = none) := by
  unfold SpecP; k_fill
  intro mean mg mb A base g outer gens drawn toks os Q E X T B hh hd hu hR hret
  obtain ⟨items, ias, hl, hRA⟩ := hR
  refine enter X T B (by k_is) (by k_is) (by omega) (BindsTo.of_eq rfl) (locs rfl) ?_ rfl rfl rfl (by decide)
  intro h₁ F N
  dsimp only
  k_steps
  unfold Held
  refine forList (ax := ax) (items := items) (J := TurJ cs) hh rfl rfl (by assumption) (by assumption) hl (fun Q' h' => ?_) ?_ ?_ ?_
  · k_steps
    exact h'
  · refine ⟨_, _, #[], 0, [], rfl, rfl, rfl, ?_, .nil⟩
    intro p hp; cases hp
  · intro i x m news I o h tk0 hx hJ hI F1 N1
    obtain ⟨t1, tA, its, n, rest, hm1, hm2, rfl, hr, hi2⟩ := hJ
    rw [canon2 hm1 hm2] at F1
    obtain ⟨d, das, hd1, hd2, -⟩ := readsAll_get hRA (i := i) (x := x) (by simpa using hx)
    rw [List.getElem?_map] at hd1
    obtain ⟨c, hc', rfl⟩ := Option.map_eq_some_iff.mp hd1
    obtain ⟨a, b, s0, s1, s2, s4, bs, rfl, hp, -⟩ := piece_open hd2
    have hil : i < cs.length := (List.getElem?_eq_some_iff.mp hc').1
    have hT := take_next hc'
    have hls := seen_len (cs.take i)
    rw [List.length_take] at hls
    have hbl := bOf_len c
    k_steps
    · rename (I < _ ∧ _) => l1
      have hsz : its.size ≤ sizeLine := by
        have e1 := hi2.length
        have e2 := turns_len (cs.take i) 0
        rw [List.length_take] at e2
        rw [sizeLine_eq]; simp only [Array.length_toList] at e1; omega
      refine appHead (pre := [(_, _), (I, o)]) (by assumption) (by assumption) ?_ hsz ?_
      · intro p hp
        simp only [List.mem_cons, List.mem_append, List.not_mem_nil, or_false] at hp
        rcases hp with (rfl | rfl) | hp
        · exact Nat.ne_of_gt l1.2.1
        · exact fun q => hI _ (.head _) q.symm
        · exact hr p hp
      intro h5 F5 N5
      k_steps
      rename Fr _ _ _ _ => F6
      rename News _ _ _ _ => N6
      exact end_tur F6 N6 l1 hI hr hi2 hc' (bne_iff_ne.mp (by assumption)) rfl rfl
    · have hd : dOf c = es := by
        have q := (by assumption : (dOf c != Str.ofString "") = false)
        rwa [bne_eq_false_iff_eq] at q
      exact ⟨rfl, _, _, _, _, rfl, by assumption, by assumption, hI, tur_mk hc' rfl rfl rfl hr (by rw [if_pos hd, List.append_nil]; exact hi2)⟩
  · intro h' tk m' news' F' N' hJ
    have hz : items.size = cs.length := by have := readsAll_len hRA; simpa using this
    rw [hz] at hJ
    obtain ⟨t1, tA, its, n, rest, hm1, hm2, rfl, hr, hi2⟩ := hJ
    rw [List.take_length] at hm2 hi2
    rw [canon2 hm1 hm2] at F'
    dsimp only
    k_steps
    obtain ⟨as, hra, hf⟩ := TurnsIn.reads N' (hi2.mono fun p hp => .tail _ hp)
    refine hret _ _ _ (Fr.keep (by assumption)) ⟨tA :: as, .list (N' _ (.head _)).1 rfl rfl hra, ?_⟩
    intro a ha
    rcases List.mem_cons.mp ha with rfl | ha
    · exact (N' _ (.head _)).2.2
    · exact hf a ha
end Mine
end T1
section CM
set_option maxRecDepth 100000
namespace Mine
/-- the pieces by the ledger -/
inductive PiecesIn (news : List (Addr × Obj)) : List Value → List Nat → Prop
  | nil : PiecesIn news [] []
  | cons {a b oa ob c ys cs} : (a, oa) ∈ news → (b, ob) ∈ news → (∀ h' : Heap, h'.get? a = some oa → h'.get? b = some ob → ∃ as, Reads h' (.ref a) (pcD c) as) → PiecesIn news ys cs → PiecesIn news (.ref a :: ys) (c :: cs)
theorem PiecesIn.mono {news news' : List (Addr × Obj)} (hs : ∀ p ∈ news, p ∈ news') : ∀ {ys cs}, PiecesIn news ys cs → PiecesIn news' ys cs
  | _, _, .nil => .nil
  | _, _, .cons h1 h2 h3 r => .cons (hs _ h1) (hs _ h2) h3 (PiecesIn.mono hs r)
theorem PiecesIn.length {news : List (Addr × Obj)} : ∀ {ys cs}, PiecesIn news ys cs → ys.length = cs.length
  | _, _, .nil => rfl
  | _, _, .cons _ _ _ r => by rw [List.length_cons, List.length_cons, PiecesIn.length r]
theorem PiecesIn.reads {g h : Heap} {L : Addr} {news : List (Addr × Obj)} (N : News g L h news) : ∀ {ys cs}, PiecesIn news ys cs → ∃ as, ReadsAll h ys (cs.map pcD) as
  | _, _, .nil => ⟨[], .nil⟩
  | _, _, .cons h1 h2 h3 r => by
    obtain ⟨as, r1⟩ := h3 h (N _ h1).1 (N _ h2).1
    obtain ⟨bs, r2⟩ := PiecesIn.reads N r
    exact ⟨_, .cons r1 r2⟩
theorem PiecesIn.snoc {news : List (Addr × Obj)} {a b : Addr} {oa ob : Obj} {c : Nat} (h1 : (a, oa) ∈ news) (h2 : (b, ob) ∈ news) (h3 : ∀ h' : Heap, h'.get? a = some oa → h'.get? b = some ob → ∃ as, Reads h' (.ref a) (pcD c) as) : ∀ {ys cs}, PiecesIn news ys cs → PiecesIn news (ys ++ [.ref a]) (cs ++ [c])
  | _, _, .nil => .cons h1 h2 h3 .nil
  | _, _, .cons e1 e2 e3 r => .cons e1 e2 e3 (PiecesIn.snoc h1 h2 h3 r)
theorem piece_objs {h : Heap} {y : Value} {c : Nat} {as : List Addr} (r : Reads h y (pcD c) as) :
    ∃ a b oa ob, y = .ref a ∧ a ∈ as ∧ b ∈ as ∧ h.get? a = some oa ∧ h.get? b = some ob ∧ ∀ h' : Heap, h'.get? a = some oa → h'.get? b = some ob → ∃ as, Reads h' (.ref a) (pcD c) as := by
  cases r with | list h1 h2 h3 R =>
  rename_i a oa vs n as'
  obtain ⟨vl⟩ := vs
  cases R with | cons r0 R =>
  cases R with | cons r1 R =>
  cases R with | cons r2 R =>
  cases R with | cons r3 R =>
  cases R with | cons r4 R =>
  cases R
  obtain ⟨t0, rfl, rfl⟩ := reads_str_inv r0
  obtain ⟨t1, rfl, rfl⟩ := reads_str_inv r1
  obtain ⟨t2, rfl, rfl⟩ := reads_str_inv r2
  obtain ⟨t4, rfl, rfl⟩ := reads_str_inv r4
  cases r3 with | list g1 g2 g3 R3 =>
  rename_i b ob vs3 n3 as3
  obtain ⟨hi, rfl⟩ := readsAll_intsAre R3
  exact ⟨a, b, oa, ob, rfl, by simp, by simp, h1, g1, fun h' e1 e2 => ⟨_, .list e1 h2 h3 (.cons (.str _ t0) (.cons (.str _ t1) (.cons (.str _ t2) (.cons (.list e2 g2 g3 (hi.reads h')) (.cons (.str _ t4) .nil)))))⟩⟩
/-- a new piece onto the ledger, at the end of an element -/
theorem piece_onto {g h h' : Heap} {L I C D : Addr} {m : Str → Option Value} {oI oC : Obj} {ys : List Value} {news : List (Addr × Obj)} {y : Value} {c : Nat} {as : List Addr} {s : Shared} {tk : Nat} {S : List (Addr × Obj) → Prop} {J : Value → List (Addr × Obj) → Prop}
    (N : News g L h ((I, oI) :: (C, oC) :: (D, LCg.lst ys) :: news)) (F : Fr g L h m) (off : LCg.Off3 I C D news) (F' : Fr g L h' m) (N' : News g L h' ((I, oI) :: (C, oC) :: (D, LCg.lst ys) :: news)) (r : Reads h' y (pcD c) as) (hf : ∀ a ∈ as, h.get? a = none)
    (hS : ∀ news', (∀ p ∈ news, p ∈ news') → S news') (hJ : ∀ a b oa ob, y = .ref a → (∀ h' : Heap, h'.get? a = some oa → h'.get? b = some ob → ∃ as, Reads h' (.ref a) (pcD c) as) → J y ((a, oa) :: (b, ob) :: news)) :
    LCg.CompEnd g L m s I oI C oC D (LCg.lst ys) S J y { s with heap := h', toks := tk } := by
  obtain ⟨a, b, oa, ob, rfl, ha, hb, ea, eb, hr⟩ := piece_objs r
  have un : ∀ a, h.get? a = none → (a ≠ I ∧ a ≠ C ∧ a ≠ D) ∧ a ≠ L ∧ g.get? a = none := fun a z => by
    have q : ∀ p ∈ (I, oI) :: (C, oC) :: (D, LCg.lst ys) :: news, a ≠ p.1 := fun p hp e => by
      rw [e, (N p hp).1] at z; cases z
    refine ⟨⟨q _ (.head _), q _ (.tail _ (.head _)), q _ (.tail _ (.tail _ (.head _)))⟩, fun e => ?_, ?_⟩
    · obtain ⟨oL, _, _, hL, _⟩ := F.ns
      rw [e, hL] at z; cases z
    · cases e : g.get? a with
      | none => rfl
      | some o => rw [F.keep _ _ e] at z; cases z
  have ua := un a (hf a ha)
  have ub := un b (hf b hb)
  refine LCg.CompEnd.intro (all := (a, oa) :: (b, ob) :: (I, oI) :: (C, oC) :: (D, LCg.lst ys) :: news) F' (fun p hp => ?_) ((a, oa) :: (b, ob) :: news) (fun p hp => ?_) ⟨ua.1, ub.1, off⟩ (hS _ fun p hp => .tail _ (.tail _ hp)) (hJ a b oa ob rfl hr)
  · rcases List.mem_cons.mp hp with rfl | hp
    · exact ⟨ea, ua.2⟩
    · rcases List.mem_cons.mp hp with rfl | hp
      · exact ⟨eb, ub.2⟩
      · exact N' p hp
  · simp only [List.mem_cons] at hp ⊢
    rcases hp with rfl | rfl | rfl | rfl | rfl | hp
    · exact .inr (.inr (.inl rfl))
    · exact .inr (.inr (.inr (.inl rfl)))
    · exact .inr (.inr (.inr (.inr (.inl rfl))))
    · exact .inl rfl
    · exact .inr (.inl rfl)
    · exact .inr (.inr (.inr (.inr (.inr hp))))
/-- the turns of a comprehension, by a word J over what is made and the ledger -/
theorem rest_by {prog : Program} {w : World} {A : Around} {h₀ : Heap} {L : Addr} {m : Str → Option Value} {env : Env} {elt : PySem.Expr} {x : Str} {scope : Scope} {cl : List (Str × Addr)} {s : Shared} {S : List (Addr × Obj) → Prop} {P : Nat → Value → Prop} {Fin : List Value → List (Addr × Obj) → Prop} {n : Nat}
    (J : Nat → List Value → List (Addr × Obj) → Prop)
    (turn : ∀ i ys news v I oI C oC D m₂ h tk (E' : Value → Shared → Prop), i < n → J i ys news → P i v → LCg.NsObj oC m₂ → m₂ x = some v → Fr h₀ L h m → News h₀ L h ((I, oI) :: (C, oC) :: (D, LCg.lst ys) :: news) → LCg.Off3 I C D news → ((@Ne Nat I C) ∧ (@Ne Nat I D) ∧ (@Ne Nat C D)) →
      wpAny (model prog w) A (eval elt (compEnvC scope cl C env)) (LCg.CompEnd h₀ L m { s with heap := h, toks := tk } I oI C oC D (LCg.lst ys) S (fun y news' => J (i + 1) (ys ++ [y]) news')) E' { s with heap := h, toks := tk })
    (fin : ∀ ys news, J n ys news → Fin ys news) : ∀ (j i : Nat) (ys : List Value) (news : List (Addr × Obj)), i + j = n → J i ys news → LCg.CompRest prog w A h₀ L m env elt x scope cl s S P Fin j i ys news
  | 0, i, ys, news, hi, hj => LCg.CompRest.zero (fin ys news (by rw [← hi]; exact hj))
  | j + 1, i, ys, news, hi, hj => LCg.CompRest.succ fun v I oI C oC D m₂ h tk E' hv hC hx F N off ne =>
    wpAny_mono (turn i ys news v I oI C oC D m₂ h tk E' (by omega) hj hv hC hx F N off ne) (fun y s₂ hq => by
      obtain ⟨h', tk', nw, e, F', N', off', hS, hn⟩ := hq
      exact ⟨h', tk', nw, e, F', N', off', hS, rest_by J turn fin j (i + 1) _ _ (by omega) hn⟩) fun _ _ e => e
end Mine
end CM
section CC
set_option maxRecDepth 100000
namespace Mine
/-- a comprehension of two clauses without tests -/
abbrev two (elt i1 i2 : PySem.Expr) (x y : Str) (px py : Pos) (scope : Scope) (pos : Pos) : PySem.Expr := .ListComp elt [⟨.Name x px, i1, [], 0⟩, ⟨.Name y py, i2, [], 0⟩] scope pos
theorem turn_out (elt i1 i2 : PySem.Expr) (x y : Str) (px py : Pos) (scope : Scope) (pos : Pos) (it acc : Value) (env : Env) :
    compTurn (two elt i1 i2 x y px py scope pos) 0 it acc env = (standAt i1.pos >>= fun _ => pyNext it >>= fun r => match r with
      | none => pure (.done .next)
      | some v => letOwnedTupleGo (.Name x px) it v >>= fun _ => assign (.Name x px) env v >>= fun _ =>
        (eval i2 env >>= fun z => standAt i2.pos >>= fun _ => foldedSetIterable i2 env z >>= fun z => (holding [z] (pyIter z)) >>= fun it' => runOwn (.compStart (two elt i1 i2 x y px py scope pos) 1 it' acc env) env >>= fun _ =>
          again (.compLoop (two elt i1 i2 x y px py scope pos) 0 it acc env))) := by rfl
theorem turn_in (elt i1 i2 : PySem.Expr) (x y : Str) (px py : Pos) (scope : Scope) (pos : Pos) (it acc : Value) (env : Env) :
    compTurn (two elt i1 i2 x y px py scope pos) 1 it acc env = (standAt i2.pos >>= fun _ => pyNext it >>= fun r => match r with
      | none => pure (.done .next)
      | some v => letOwnedTupleGo (.Name y py) it v >>= fun _ => assign (.Name y py) env v >>= fun _ =>
        (eval elt env >>= fun z => call (.builtin "list.append") [acc, z] >>= fun _ => pure ()) >>= fun _ =>
          again (.compLoop (two elt i1 i2 x y px py scope pos) 1 it acc env)) := by rfl
section
variable {prog : Program} {w : World} {A : Around} {R : Result → Shared → Prop} {s : Shared} {elt i1 i2 : PySem.Expr} {x y : Str} {px py : Pos} {scope : Scope} {pos : Pos} {cenv : Env}
theorem start_in {it acc : Value}
    (h0 : codeAny (model prog w) A (.compLoop (two elt i1 i2 x y px py scope pos) 1 it acc cenv) R s)
    (h : wpAny (model prog w) A (pyIter it) (fun it' s' => codeAny (model prog w) A (.compLoop (two elt i1 i2 x y px py scope pos) 1 it' acc cenv) R s') (notedBy (model prog w) A cenv fun x s' => R (.error x) s') s) :
    codeAny (model prog w) A (.compStart (two elt i1 i2 x y px py scope pos) 1 it acc cenv) R s := by
  refine codeAny_of_tree ?_
  show wpAny _ _ ((compStart (two elt i1 i2 x y px py scope pos) 1 it acc cenv).onRaise (fun x => do noteFrame x cenv; standAt theWindowsPlace)) _ _ s
  refine wpAny_notedAt ?_
  unfold compStart
  show wpAny _ _ (ask >>= _) _ _ s
  refine wpAny_bind (wpAny_askSetting (wpAny_ite ?_))
  split
  · first
      | exact wpAny_bind (wpAny_pure (wpAny_pure (And.intro rfl h0)))
      | exact wpAny_pure (And.intro rfl h0)
  · refine wpAny_bind (wpAny_rule ?_)
    show wpAny _ _ (standAt i2.pos >>= _) _ _ s
    exact wpAny_bind (wpAny_standAt (wpAny_bind (wpAny_mono h (fun it' s' h' => wpAny_pure (And.intro rfl h')) fun _ _ x => x)))
theorem loop_in {I b D C : Addr} {zs ys : Array Value} {m : Str → Option Value}
    (hh : A.handled = none) (hC : cenv.locals = C) (hy : cenv.kindOf y = some .local)
    (hp : (cenv.scope.kind == .class || (cenv.scope.kind == .module && cenv.locals != cenv.globals)) = false)
    (hDI : D ≠ I) (hDC : D ≠ C) (hIC : I ≠ C) (hbI : b ≠ I) (hbC : b ≠ C) (hbD : b ≠ D)
    (hit : s.heap.IsListIter I b 0) (hl : s.heap.IsList b zs) (hacc : s.heap.IsList D ys) (hn : s.heap.Ns C m) (hsz : ys.size + zs.size ≤ sizeLine)
    (helt : ∀ (z : Value) (s₂ : Shared) (m₂ : Str → Option Value) (Q' : Value → Shared → Prop) (E' : Value → Shared → Prop), s₂.heap.Ns C m₂ → m₂ y = some z → Q' z s₂ → wpAny (model prog w) A (eval elt cenv) Q' E' s₂)
    (hR : ∀ h' tk m', h'.Ns C m' → h'.IsList D (ys ++ zs) → (∀ b o, b ≠ C → b ≠ I → b ≠ D → s.heap.get? b = some o → h'.get? b = some o) → R (.ok .next) { s with heap := h', toks := tk }) :
    codeAny (model prog w) A (.compLoop (two elt i1 i2 x y px py scope pos) 1 (.ref I) (.ref D) cenv) R s := by
  subst hC
  refine codeAny_loop rfl
    (fun k s' => ∃ h' tk m' i, s' = { s with heap := h', toks := tk } ∧ h'.IsListIter I b i ∧ h'.IsList b zs ∧ h'.IsList D (ys ++ zs.take i) ∧ h'.Ns cenv.locals m' ∧ i ≤ zs.size ∧ k = zs.size + 1 - i ∧
      ∀ b o, b ≠ cenv.locals → b ≠ I → b ≠ D → s.heap.get? b = some o → h'.get? b = some o) ?_ (zs.size + 1)
    ⟨s.heap, s.toks, m, 0, rfl, hit, hl, by simpa using hacc, hn, Nat.zero_le _, rfl, fun _ _ _ _ _ e => e⟩
  rintro k s' ⟨H, tk, m', i, rfl, hit', hl', hacc', hn', hi, rfl, hk⟩
  show wpAny _ _ ((compTurn (two elt i1 i2 x y px py scope pos) 1 (.ref I) (.ref D) cenv).onRaise (fun x => do noteFrame x cenv; theTreesLotGoes x)) _ _ _
  refine wpAny_noted ?_
  rw [turn_in]
  refine wpAny_bind (wpAny_standAt (wpAny_bind ?_))
  cases hv : zs[i]? with
  | none =>
    have hsz' : i = zs.size := Nat.le_antisymm hi (by simpa using hv)
    subst hsz'
    refine wpAny_pyNext_list_end hh hit' hl' hv fun h₁ he₁ => wpAny_pure ?_
    refine hR h₁ tk m' (hn'.extBut he₁ (Ne.symm hIC)) ?_ fun b o hbC hbI hbD e => he₁ b o hbI (hk b o hbC hbI hbD e)
    have q := hacc'.extBut he₁ hDI
    rwa [show zs.take zs.size = zs by simp] at q
  | some v =>
    have hlt : i < zs.size := (Array.getElem?_eq_some_iff.mp hv).1
    refine wpAny_pyNext_list_item hit' hl' hv fun h₁ hit₁ hs₁ => wpAny_bind (wpAny_pure ?_)
    refine wpAny_bind (wpAny_assign_Name (wpAny_storeName_local hy (hn'.sameBut hs₁ (Ne.symm hIC)) (fun h₂ hn₂ hs₂ => ?_) hp))
    have up₂ : ∀ b o, b ≠ cenv.locals → b ≠ I → H.get? b = some o → h₂.get? b = some o := fun b o hbC hbI e => hs₂.extBut b o hbC (hs₁.extBut b o hbI e)
    have hacc₂ : h₂.IsList D (ys ++ zs.take i) := hacc'.at fun o e => up₂ D o hDC hDI e
    refine wpAny_bind (wpAny_bind (helt v _ _ _ _ hn₂ (by simp) ?_))
    refine wpAny_bind (wpAny_list_append (hsz := ?hs) hacc₂ fun h₅ hl₅ hs₅ => ?_)
    case hs =>
      have q : (ys ++ zs.take i).size = ys.size + min i zs.size := by simp
      omega
    refine wpAny_pure ?_
    refine wpAny_pure ?_
    refine ⟨rfl, zs.size + 1 - (i + 1), by omega, h₅, _, _, i + 1, rfl, (hit₁.extBut hs₂.extBut hIC).extBut hs₅.extBut (Ne.symm hDI), (hl'.at fun o e => up₂ b o hbC hbI e).extBut hs₅.extBut hbD, ?_, hn₂.sameBut hs₅ (Ne.symm hDC), hlt, rfl,
      fun b o hbC hbI hbD e => hs₅.extBut b o hbD (up₂ b o hbC hbI (hk b o hbC hbI hbD e))⟩
    have e : (ys ++ zs.take i).push v = ys ++ zs.take (i + 1) := by
      apply Array.ext'
      have hv' : zs.toList[i]? = some v := by simpa using hv
      simp [List.take_add_one, hv']
    rw [← e]; exact hl₅
theorem loop_out {I ax D C : Addr} {items : Array Value} {m : Str → Option Value} {W : Value → List Value → Prop}
    (hh : A.handled = none) (hC : cenv.locals = C) (hx : cenv.kindOf x = some .local) (hy : cenv.kindOf y = some .local)
    (hp : (cenv.scope.kind == .class || (cenv.scope.kind == .module && cenv.locals != cenv.globals)) = false)
    (hDI : D ≠ I) (hDC : D ≠ C) (hIC : I ≠ C) (haI : ax ≠ I) (haC : ax ≠ C) (haD : ax ≠ D)
    (hit : s.heap.IsListIter I ax 0) (hl : s.heap.IsList ax items) (hacc : s.heap.IsList D #[]) (hn : s.heap.Ns C m) (hsz : items.size ≤ 1000) (hW : ∀ v zs, W v zs → zs.length ≤ 1)
    (hin : ∀ (v : Value) (s₂ : Shared) (m₂ : Str → Option Value) (Q' : Value → Shared → Prop) (E' : Value → Shared → Prop), v ∈ items → s₂.heap.Ns C m₂ → m₂ x = some v → (∀ b o, b ≠ C → b ≠ I → b ≠ D → s.heap.get? b = some o → s₂.heap.get? b = some o) →
      (∀ b zs, s.heap.IsList b (List.toArray zs) → b ≠ C → b ≠ I → b ≠ D → W v zs → ∀ tk, Q' (.ref b) { s₂ with toks := tk }) → wpAny (model prog w) A (eval i2 cenv) Q' E' s₂)
    (helt : ∀ (z : Value) (s₂ : Shared) (m₂ : Str → Option Value) (Q' : Value → Shared → Prop) (E' : Value → Shared → Prop), s₂.heap.Ns C m₂ → m₂ y = some z → Q' z s₂ → wpAny (model prog w) A (eval elt cenv) Q' E' s₂)
    (hR : ∀ h' tk m' zss, h'.Ns C m' → h'.IsList D (List.flatten zss).toArray → Paired W items.toList zss → (∀ b o, b ≠ C → b ≠ I → b ≠ D → s.heap.get? b = some o → h'.get? b = some o) → R (.ok .next) { s with heap := h', toks := tk })
    (hs : ∀ z, foldedSetIterable i2 cenv z = pure z) :
    codeAny (model prog w) A (.compLoop (two elt i1 i2 x y px py scope pos) 0 (.ref I) (.ref D) cenv) R s := by
  subst hC
  refine codeAny_loop rfl
    (fun k s' => ∃ h' tk m' i zss, s' = { s with heap := h', toks := tk } ∧ h'.IsListIter I ax i ∧ h'.IsList ax items ∧ h'.IsList D (List.flatten zss).toArray ∧ Paired W (items.toList.take i) zss ∧ (List.flatten zss).length ≤ i ∧ h'.Ns cenv.locals m' ∧ i ≤ items.size ∧ k = items.size + 1 - i ∧
      ∀ b o, b ≠ cenv.locals → b ≠ I → b ≠ D → s.heap.get? b = some o → h'.get? b = some o) ?_ (items.size + 1)
    ⟨s.heap, s.toks, m, 0, [], rfl, hit, hl, by simpa using hacc, by simpa using Paired.nil, Nat.zero_le _, hn, Nat.zero_le _, rfl, fun _ _ _ _ _ e => e⟩
  rintro k s' ⟨H, tk, m', i, zss, rfl, hit', hl', hacc', hP, hlen, hn', hi, rfl, hk⟩
  show wpAny _ _ ((compTurn (two elt i1 i2 x y px py scope pos) 0 (.ref I) (.ref D) cenv).onRaise (fun x => do noteFrame x cenv; theTreesLotGoes x)) _ _ _
  refine wpAny_noted ?_
  rw [turn_out]
  refine wpAny_bind (wpAny_standAt (wpAny_bind ?_))
  cases hv : items[i]? with
  | none =>
    have hsz' : items.toList.length ≤ i := by simpa using hv
    refine wpAny_pyNext_list_end hh hit' hl' hv fun h₁ he₁ => wpAny_pure ?_
    refine hR h₁ tk m' zss (hn'.extBut he₁ (Ne.symm hIC)) (hacc'.extBut he₁ hDI) (by rwa [List.take_of_length_le hsz'] at hP) fun b o hbC hbI hbD e => he₁ b o hbI (hk b o hbC hbI hbD e)
  | some v =>
    have hlt : i < items.size := (Array.getElem?_eq_some_iff.mp hv).1
    have hmem : v ∈ items := by obtain ⟨h1, rfl⟩ := Array.getElem?_eq_some_iff.mp hv; exact Array.getElem_mem h1
    have hv' : items.toList[i]? = some v := by simpa using hv
    refine wpAny_pyNext_list_item hit' hl' hv fun h₁ hit₁ hs₁ => wpAny_bind (wpAny_pure ?_)
    refine wpAny_bind (wpAny_assign_Name (wpAny_storeName_local hx (hn'.sameBut hs₁ (Ne.symm hIC)) (fun h₂ hn₂ hs₂ => ?_) hp))
    have up₂ : ∀ b o, b ≠ cenv.locals → b ≠ I → H.get? b = some o → h₂.get? b = some o := fun b o hbC hbI e => hs₂.extBut b o hbC (hs₁.extBut b o hbI e)
    have hit₂ : h₂.IsListIter I ax (i + 1) := hit₁.extBut hs₂.extBut hIC
    have hacc₂ : h₂.IsList D (List.flatten zss).toArray := hacc'.at fun o e => up₂ D o hDC hDI e
    have hl₂ : h₂.IsList ax items := hl'.at fun o e => up₂ ax o haC haI e
    refine wpAny_bind (hin v _ _ _ _ hmem hn₂ (by simp) (fun b o hbC hbI hbD e => up₂ b o hbC hbI (hk b o hbC hbI hbD e)) fun b zs hb hbC hbI hbD hWv tk₂ => ?_)
    have hb₂ : h₂.IsList b zs.toArray := hb.at fun o e => up₂ b o hbC hbI (hk b o hbC hbI hbD e)
    have hz1 := hW v zs hWv
    refine wpAny_bind (wpAny_standAt (wpAny_bind (wpAny_of_eq (hs _) (wpAny_bind (wpAny_holding (wpAny_pyIter_list hb₂ ?_))))))
    have lt_of : ∀ {b o}, h₂.get? b = some o → b < h₂.objs.size := fun e => Heap.lt_size e
    obtain ⟨oC, _, _, heC, _⟩ := id hn₂
    obtain ⟨oD, heD, _⟩ := id hacc₂
    obtain ⟨ob, heb, _⟩ := id hb₂
    obtain ⟨oI, heI, _⟩ := id hit₂
    obtain ⟨oa, hea, _⟩ := id hl₂
    refine wpAny_bind (wpAny_runOwn ?_)
    have inner : ∀ s₅ : Shared, s₅ = { s with heap := h₂.push { cls := .type "list_iterator", data := .fields #[.ref b, .int 0 0] }, toks := s₅.toks } → codeAny (model prog w) A (.compLoop (two elt i1 i2 x y px py scope pos) 1 (.ref h₂.objs.size) (.ref D) cenv)
        (fun r s' => match r with
          | .ok f => wpAny (model prog w) A (again (.compLoop (two elt i1 i2 x y px py scope pos) 0 (.ref I) (.ref D) cenv))
              (fun fin s' => match fin with | .done f => R (.ok f) s' | .again c' => c' = (.compLoop (two elt i1 i2 x y px py scope pos) 0 (.ref I) (.ref D) cenv) ∧ ∃ m, m < items.size + 1 - i ∧ ∃ h' tk m' i zss, s' = { s with heap := h', toks := tk } ∧ h'.IsListIter I ax i ∧ h'.IsList ax items ∧ h'.IsList D (List.flatten zss).toArray ∧ Paired W (items.toList.take i) zss ∧ (List.flatten zss).length ≤ i ∧ h'.Ns cenv.locals m' ∧ i ≤ items.size ∧ m = items.size + 1 - i ∧
                ∀ b o, b ≠ cenv.locals → b ≠ I → b ≠ D → s.heap.get? b = some o → h'.get? b = some o) (notedBy (model prog w) A cenv fun e s' => R (.error e) s') s'
          | .error e => cameBackBy (model prog w) A cenv (notedBy (model prog w) A cenv fun e s' => R (.error e) s') e s') s₅ := by
      intro s₅ e₅
      rw [e₅]
      refine loop_in (I := h₂.objs.size) (C := cenv.locals) (D := D) (b := b) (zs := zs.toArray) (ys := (List.flatten zss).toArray) hh rfl hy hp (Nat.ne_of_lt (lt_of heD)) hDC (Nat.ne_of_gt (lt_of heC)) (Nat.ne_of_lt (lt_of heb)) hbC hbD
        ⟨_, Heap.get?_push_size _ rfl, rfl, rfl⟩ (hb₂.push _) (hacc₂.push _) (hn₂.at' fun o e => Heap.get?_push_of_some _ e) (by rw [sizeLine_eq]; simp only [List.size_toArray]; omega) helt ?_
      intro h' tk' m'' hn'' hl'' hk''
      have upI : ∀ b o, b ≠ cenv.locals → b ≠ D → h₂.get? b = some o → h'.get? b = some o := fun b o hbC hbD e => hk'' b o hbC (Nat.ne_of_lt (lt_of e)) hbD (Heap.get?_push_of_some _ e)
      refine wpAny_pure ⟨rfl, items.size + 1 - (i + 1), by omega, h', tk', m'', i + 1, zss ++ [zs], rfl, hit₂.at fun o e => upI I o hIC (Ne.symm hDI) e, hl₂.at fun o e => upI ax o haC haD e, ?_, ?_, ?_, hn'', hlt, rfl,
        fun b o hbC hbI hbD e => upI b o hbC hbD (up₂ b o hbC hbI (hk b o hbC hbI hbD e))⟩
      · simpa using hl''
      · rw [List.take_add_one, hv']; exact hP.snoc hWv
      · simp only [List.flatten_append, List.length_append, List.flatten_cons, List.flatten_nil, List.append_nil]; omega
    refine start_in (inner _ rfl) (wpAny_pyIter_listiter ⟨_, Heap.get?_push_size _ rfl, rfl, rfl⟩ (inner _ rfl))
end
end Mine
end CC
section CD
set_option maxRecDepth 100000
namespace Mine
section
variable {prog : Program} {w : World} {A : Around} {E : Value → Shared → Prop} {s : Shared} {elt i1 i2 : PySem.Expr} {x y : Str} {px py : Pos} {scope : Scope} {pos : Pos}
theorem assign_two {g : Heap} {L f0 ax : Addr} {name v : Str} {pv spos : Pos} {lscope : Scope} {cd : Value} {m : Str → Option Value} {news : List (Addr × Obj)} {items : Array Value} {W : Value → List Value → Prop} {Q : Flow → Shared → Prop}
    (hh : A.handled = none) (F : Fr g L s.heap m) (N : News g L s.heap news) (hl : s.heap.IsList ax items) (hsz : items.size ≤ 1000) (hW : ∀ v zs, W v zs → zs.length ≤ 1)
    (hiter : ∀ Q' : Value → Shared → Prop, Q' (.ref ax) s → wpAny (model prog w) A (eval i1 (envOf name lscope L f0 cd)) Q' E s)
    (hin : ∀ (C : Addr) (v : Value) (s₂ : Shared) (m₂ : Str → Option Value) (Q' : Value → Shared → Prop) (E' : Value → Shared → Prop), v ∈ items → s₂.heap.Ns C m₂ → m₂ x = some v → (∀ b o, s.heap.get? b = some o → s₂.heap.get? b = some o) →
      (∀ b zs, s.heap.IsList b (List.toArray zs) → W v zs → ∀ tk, Q' (.ref b) { s₂ with toks := tk }) → wpAny (model prog w) A (eval i2 (compEnv scope C (envOf name lscope L f0 cd))) Q' E' s₂)
    (helt : ∀ (C : Addr) (z : Value) (s₂ : Shared) (m₂ : Str → Option Value) (Q' : Value → Shared → Prop) (E' : Value → Shared → Prop), s₂.heap.Ns C m₂ → m₂ y = some z → Q' z s₂ → wpAny (model prog w) A (eval elt (compEnv scope C (envOf name lscope L f0 cd))) Q' E' s₂)
    (hQ : ∀ D o h' tk zss n, Fr g L h' (fun z => if z = v then some (.ref D) else m z) → News g L h' ((D, o) :: news) → o.cls = .type "list" → o.data = .seq (List.flatten zss).toArray n → Paired W items.toList zss → Q .next { s with heap := h', toks := tk })
    (hsw : swapsWith (two elt i1 i2 x y px py scope pos) (some (.Name v pv)) spos.line (envOf name lscope L f0 cd) = pure true)
    (hfree : ∀ z ∈ scope.names, z.2 ≠ .free) (hcell : ∀ z ∈ scope.names, z.2 ≠ .cell) (hkind : scope.kind = .function)
    (hnames : ∀ z ∈ scope.names, z.2 = .local → scope.names.lookup z.1 = some .local) (hx : scope.names.lookup x = some .local) (hy : scope.names.lookup y = some .local)
    (hv : (envOf name lscope L f0 cd).kindOf v = some .local) (hlk : lscope.kind = .function)
    (hs1 : ∀ z, foldedSetIterable i1 (envOf name lscope L f0 cd) z = pure z) (hs2 : ∀ C z, foldedSetIterable i2 (compEnv scope C (envOf name lscope L f0 cd)) z = pure z) :
    wpAny (model prog w) A (exec (.Assign [.Name v pv] (two elt i1 i2 x y px py scope pos) spos) (envOf name lscope L f0 cd)) Q E s := by
  have hp : ((envOf name lscope L f0 cd).scope.kind == .class || ((envOf name lscope L f0 cd).scope.kind == .module && (envOf name lscope L f0 cd).locals != (envOf name lscope L f0 cd).globals)) = false := by
    show (lscope.kind == .class || (lscope.kind == .module && L != mainGlobals)) = false; rw [hlk]; rfl
  rw [exec_Assign_Name_used _ _ _ _ hsw]
  refine wpAny_bind (wpAny_standAt (wpAny_bind ?_))
  show wpAny _ A (do let _ ← comprehension (two elt i1 i2 x y px py scope pos) scope (envOf name lscope L f0 cd) _ (newList []) false (eval i1 (envOf name lscope L f0 cd)) (some (assign (.Name v pv) (envOf name lscope L f0 cd)))) _ _ s
  refine wpAny_bind (wpAny_mono (wpAny_comprehension_use (Q := fun _ s' => Q .next s') rfl hs1 hfree hkind hnames (hiter _ ?_))
    (fun _ s' hq => wpAny_pure (wpAny_pure hq)) fun _ _ e => e)
  refine wpAny_pyIter_list hl (wpAny_newObj_type (hd := by size_fits) (wpAny_newFunctionEnv hcell (by intro y hy; simp at hy) (fun h₁ hns₁ hsb₁ => ?_) hkind))
  dsimp only at hns₁ hsb₁ ⊢
  obtain ⟨ol, hol, hol'⟩ := id hl
  have hax : ax < s.heap.objs.size := Heap.lt_size hol
  generalize hH1 : s.heap.push { cls := .type "list_iterator", data := .fields #[.ref ax, .int 0 0] } = H1 at hns₁ hsb₁ ⊢
  have hD : H1.objs.size = s.heap.objs.size + 1 := by rw [← hH1, Heap.size_push]
  generalize hH2 : H1.push { cls := .type "list", dict := none, data := .seq ([] : List Value).toArray } = H2 at hns₁ hsb₁ ⊢
  have hC : H2.objs.size = s.heap.objs.size + 2 := by rw [← hH2, Heap.size_push, hD]
  have hDI : H1.objs.size ≠ s.heap.objs.size := by rw [hD]; exact Nat.succ_ne_self _
  have hDC : H1.objs.size ≠ H2.objs.size := by rw [hD, hC]; exact Nat.ne_of_lt (Nat.lt_succ_self _)
  have hIC : s.heap.objs.size ≠ H2.objs.size := by rw [hC]; exact Nat.ne_of_lt (Nat.lt_succ_of_lt (Nat.lt_succ_self _))
  have below : ∀ {b o}, s.heap.get? b = some o → b ≠ H2.objs.size ∧ b ≠ s.heap.objs.size ∧ b ≠ H1.objs.size := fun e =>
    have hb := Heap.lt_size e
    ⟨by rw [hC]; exact Nat.ne_of_lt (Nat.lt_succ_of_lt (Nat.lt_succ_of_lt hb)), Nat.ne_of_lt hb, by rw [hD]; exact Nat.ne_of_lt (Nat.lt_succ_of_lt hb)⟩
  have old : ∀ b o, s.heap.get? b = some o → h₁.get? b = some o := fun b o e =>
    hsb₁.extBut b o (below e).1 (Heap.get?_push_of_some _ (hH2 ▸ Heap.get?_push_of_some _ (hH1 ▸ Heap.get?_push_of_some _ e)))
  have hit : h₁.IsListIter s.heap.objs.size ax 0 :=
    ⟨_, hsb₁.extBut _ _ hIC (Heap.get?_push_of_some _ (hH2 ▸ Heap.get?_push_of_some _ (hH1 ▸ Heap.get?_push_size _ rfl))), rfl, rfl⟩
  have hacc : h₁.IsList H1.objs.size #[] := ⟨_, hsb₁.extBut _ _ hDC (Heap.get?_push_of_some _ (hH2 ▸ Heap.get?_push_size _ rfl)), rfl, _, rfl⟩
  have hl₁ : h₁.IsList ax items := ⟨ol, old _ _ hol, hol'⟩
  have fresh : ∀ a, s.heap.objs.size ≤ a → s.heap.get? a = none := fun a ha => by
    cases e : s.heap.get? a with
    | none => rfl
    | some o' => exact absurd (Heap.lt_size e) (Nat.not_lt.mpr ha)
  have hL₀ : g.get? L = none := Heap.get?_none_of_le F.above
  obtain ⟨oL, _, _, hoL, _⟩ := id F.ns
  have notL : ∀ a, s.heap.objs.size ≤ a → a ≠ L := fun a ha q => by have := fresh a ha; rw [q, hoL] at this; cases this
  have notg : ∀ a, s.heap.objs.size ≤ a → g.get? a = none := fun a ha => by
    cases e : g.get? a with
    | none => rfl
    | some o => have := fresh a ha; rw [F.keep _ _ e] at this; cases this
  have loop : ∀ s₂ : Shared, s₂ = { s with heap := h₁, toks := s.toks + ([] : List (Str × Value)).length } →
      codeAny (model prog w) A (.compLoop (two elt i1 i2 x y px py scope pos) 0 (.ref s.heap.objs.size) (.ref H1.objs.size) (compEnv scope H2.objs.size (envOf name lscope L f0 cd)))
        (fun r s' => match r with
          | .ok _ => wpAny (model prog w) A (assign (.Name v pv) (envOf name lscope L f0 cd) (.ref H1.objs.size)) (fun _ s'' => ∃ m, s''.heap.Ns H2.objs.size m ∧ ∀ h', Heap.SameBut H2.objs.size s''.heap h' → Q .next { s'' with heap := h' }) E s'
          | .error x => ∃ m, s'.heap.Ns H2.objs.size m ∧ ∀ h', Heap.SameBut H2.objs.size s'.heap h' → wpAny (model prog w) A (passOn "comprehension.variables-let-go" x (compEnv scope H2.objs.size (envOf name lscope L f0 cd)) : Sem Value) (fun _ s' => Q .next s') E { s' with heap := h' }) s₂ := by
    rintro s₂ rfl
    refine loop_out (W := W) (C := H2.objs.size) (D := H1.objs.size) (ax := ax) (items := items) hh rfl hx hy (by simp [compEnv, hkind]) hDI hDC hIC (below hol).2.1 (below hol).1 (below hol).2.2 hit hl₁ hacc hns₁ hsz hW ?_ ?_ ?_ (hs2 _)
    · intro v s₂ m₂ Q' E' hv hn hm hk hq
      refine hin _ v s₂ m₂ Q' E' hv hn hm (fun b o e => hk b o (below e).1 (below e).2.1 (below e).2.2 (old b o e)) fun b zs hb hw => ?_
      obtain ⟨ob, heb, _⟩ := id hb
      exact hq b zs (hb.at fun o e => old b o e) (below heb).1 (below heb).2.1 (below heb).2.2 hw
    · intro z s₂ m₂ Q' E' hn hm hq
      exact helt _ z s₂ m₂ Q' E' hn hm hq
    · intro h' tk m' zss hnC hlD hP hk
      have keep : ∀ b o, s.heap.get? b = some o → h'.get? b = some o := fun b o e => hk b o (below e).1 (below e).2.1 (below e).2.2 (old b o e)
      have hCs : s.heap.objs.size ≤ H2.objs.size := by rw [hC]; omega
      have hDs : s.heap.objs.size ≤ H1.objs.size := by rw [hD]; omega
      show wpAny _ A (assign (.Name v pv) (envOf name lscope L f0 cd) (.ref H1.objs.size)) _ _ _
      refine wpAny_assign_Name (wpAny_storeName_local hv (F.ns.keeps keep) (fun h₂ hn₂ hs₂ => ?_) hp)
      have hs₂' : Heap.SameBut L h' h₂ := hs₂
      refine ⟨m', hnC.sameBut hs₂' (notL _ hCs), fun h₃ hs₃ => ?_⟩
      have keep₃ : ∀ b o, b ≠ L → b ≠ H2.objs.size → h'.get? b = some o → h₃.get? b = some o := fun b o q1 q2 e => hs₃.extBut b o q2 (hs₂'.extBut b o q1 e)
      obtain ⟨o, ho, hoc, n, hod⟩ := hlD
      refine hQ _ o h₃ _ zss n ⟨hn₂.sameBut hs₃ (Ne.symm (notL _ hCs)), fun b o e => keep₃ b o (fun q => by rw [q, hL₀] at e; cases e) (fun q => by rw [q, notg _ hCs] at e; cases e) (keep b o (F.keep b o e)), F.above⟩ (fun p hp => ?_) hoc hod hP
      rcases List.mem_cons.mp hp with rfl | hp
      · exact ⟨keep₃ _ _ (notL _ hDs) hDC ho, notL _ hDs, notg _ hDs⟩
      · exact ⟨keep₃ _ _ (N p hp).2.1 (below (N p hp).1).1 (keep _ _ (N p hp).1), (N p hp).2⟩
  exact codeAny_compStart_list (loop _ rfl) (wpAny_pyIter_listiter hit (loop _ rfl))
end
end Mine
end CD
section P3
set_option maxRecDepth 100000
namespace Mine
def codL (f : Nat → Str) (cs : List Nat) : List Nat := cs.flatMap fun c => (f c).cps.toList
theorem joinK (f : Nat → Str) : ∀ cs : List Nat, Str.join es (cs.map f) = strL (codL f cs)
  | [] => by rw [List.map_nil]; exact strL_es.symm
  | [c] => by
    show f c = _
    simp only [codL, List.flatMap_cons, List.flatMap_nil, List.append_nil, strL_cps]
  | c :: d :: r => by
    have ih := joinK f (d :: r)
    show f c ++ es ++ Str.join es ((d :: r).map f) = _
    rw [ih, append_es]
    simp only [codL, List.flatMap_cons, strL_append, strL_cps]
theorem joinL (f : Nat → Str) (cs : List Nat) : Txt.join es (cs.map f) = strL (codL f cs) := by
  show Builtin.Str.glued es (cs.map f) = _
  rw [StrLaws.glued_eq_join]
  exact joinK f cs
theorem join_seen (cs : List Nat) : Txt.join es (cs.map bOf) = strL (seenL cs) := joinL bOf cs
theorem join_lett (cs : List Nat) : Txt.join es (cs.map cOf) = strL (lettL cs) := joinL cOf cs
theorem join_text (cs : List Nat) : Txt.join es (cs.map fun c => (⟨#[c]⟩ : Str)) = strL cs := by
  rw [joinL]; congr 1
  induction cs with
  | nil => rfl
  | cons c cs ih => rw [codL, List.flatMap_cons]; show c :: codL _ cs = _; rw [ih]
theorem strs_snoc {vs : List Value} {xs : List Str} {a : Str} {t : Tok} : StrsAre vs xs → StrsAre (vs ++ [.str a t]) (xs ++ [a])
  | .nil => .cons a t .nil
  | .cons b u r => .cons b u (strs_snoc r)
theorem strs_next {vs : List Value} {cs : List Nat} {f : Nat → Str} {i c : Nat} {t : Tok} (h : StrsAre vs ((cs.take i).map f)) (hc : cs[i]? = some c) : StrsAre (vs ++ [.str (f c) t]) ((cs.take (i + 1)).map f) := by
  rw [take_next hc, List.map_append]; exact strs_snoc h
theorem PiecesIn.at {g h : Heap} {L : Addr} {news : List (Addr × Obj)} (N : News g L h news) : ∀ {ys : List Value} {cs : List Nat}, PiecesIn news ys cs → ∀ {i : Nat} {v : Value}, ys[i]? = some v → ∃ c as, cs[i]? = some c ∧ Reads h v (pcD c) as
  | _, _, .nil, i, v, e => by simp at e
  | _, _, .cons h1 h2 h3 r, 0, v, e => by
    simp only [List.getElem?_cons_zero, Option.some.injEq] at e
    subst e
    obtain ⟨as, q⟩ := h3 h (N _ h1).1 (N _ h2).1
    exact ⟨_, as, rfl, q⟩
  | _, _, .cons h1 h2 h3 r, i + 1, v, e => by
    simp only [List.getElem?_cons_succ] at e
    obtain ⟨c, as, q1, q2⟩ := PiecesIn.at N r e
    exact ⟨c, as, q1, q2⟩
theorem strOk_of {l : List Nat} (h : ∀ c ∈ l, c ≤ 1114111) : PyData.strOk (strL l) = true := by
  unfold PyData.strOk
  simp only [strL]
  rw [List.all_toArray, List.all_eq_true]
  intro c hc
  have := h c hc
  simpa using (by omega : c < 1114112)
theorem bit_le (c : Nat) : (Builtin.bitOr ((c % 128 : Nat) : Int) 32 + 32).toNat ≤ 1114111 := by
  have := or32 (c % 128) (by omega)
  omega
theorem bit_le' (c : Nat) : (Builtin.bitOr ((c : Int) % 128) 32 + 32).toNat ≤ 1114111 := by
  have := bit_le c
  rwa [show ((c % 128 : Nat) : Int) = (c : Int) % 128 by omega] at this
theorem uncS_ok (c : Nat) : ∀ k ∈ (uncS c).cps.toList, k ≤ 1114111 := by
  have hb := bit_le' c
  unfold uncS; split
  · intro k hk
    have hk : k ∈ [c % 128] := hk
    simp at hk; omega
  · rw [Str.cps_append]
    intro k hk
    have e : (Str.ofString "^").cps = #[94] := by decide +kernel
    rw [e] at hk
    simp at hk
    omega
theorem seen_ok {cs : List Nat} (h : ∀ c ∈ cs, c ≤ 1114111) : ∀ k ∈ seenL cs, k ≤ 1114111 := by
  intro k hk
  obtain ⟨c, hc, hk⟩ := List.mem_flatMap.mp hk
  unfold bOf at hk; split at hk
  · rw [show es.cps.toList = [] by decide +kernel] at hk; cases hk
  · have hk : k ∈ [c] := hk
    simp at hk; have := h c hc; omega
theorem lett_ok (cs : List Nat) : ∀ k ∈ lettL cs, k ≤ 1114111 := by
  intro k hk
  obtain ⟨c, hc, hk⟩ := List.mem_flatMap.mp hk
  unfold cOf at hk; split at hk
  · exact uncS_ok c k hk
  · rw [show es.cps.toList = [] by decide +kernel] at hk; cases hk
theorem dOf_ok (c : Nat) : PyData.strOk (dOf c) = true := by
  have e : dOf c = strL (dOf c).cps.toList := (strL_cps _).symm
  rw [e]
  refine strOk_of fun k hk => ?_
  unfold dOf at hk
  split at hk
  · rw [show es.cps.toList = [] by decide +kernel] at hk; cases hk
  · split at hk
    · exact uncS_ok c k hk
    · rw [show es.cps.toList = [] by decide +kernel] at hk; cases hk
theorem turns_ok (cs : List Nat) : ∀ k, PyData.canLayAll0 ((turnsF k cs).map turnD) = true := by
  have app : ∀ (a b : List PyData), PyData.canLayAll0 a = true → PyData.canLayAll0 b = true → PyData.canLayAll0 (a ++ b) = true := by
    intro a b ha hb
    induction a with
    | nil => exact hb
    | cons x a ih =>
      simp only [List.cons_append, PyData.canLayAll0, Bool.and_eq_true] at ha ⊢
      exact ⟨ha.1, ih ha.2⟩
  induction cs with
  | nil => intro k; rfl
  | cons c cs ih =>
    intro k
    rw [turnsF, List.map_append]
    refine app _ _ ?_ (ih _)
    split
    · rfl
    · simp only [List.map_cons, List.map_nil, turnD, PyData.canLayAll0, PyData.canLay0, dOf_ok, Bool.and_self]
theorem nums_ok : ∀ l : List Int, PyData.canLayAll0 (l.map .int) = true
  | [] => rfl
  | a :: l => by simp only [List.map_cons, PyData.canLayAll0, PyData.canLay0, nums_ok l, Bool.and_self]
theorem rev_ok {cs : List Nat} (h : ∀ c ∈ cs, c ≤ 1114111) : (revD cs).canLay0 = true := by
  simp only [revD, PyData.canLay0, PyData.canLayAll0, strOk_of (seen_ok h), strOk_of (lett_ok cs), nums_ok, turns_ok, Bool.and_self]
theorem rev_depth (cs : List Nat) : (revD cs).depth ≤ 8 := by
  have hn : ∀ l : List Int, PyData.depthAll (l.map .int) ≤ 1 := by
    intro l
    induction l with
    | nil => simp [PyData.depthAll]
    | cons a l ih => simp only [List.map_cons, PyData.depthAll, PyData.depth]; omega
  have ht : ∀ l : List (Nat × Str), PyData.depthAll (l.map turnD) ≤ 3 := by
    intro l
    induction l with
    | nil => simp [PyData.depthAll]
    | cons a l ih => simp only [List.map_cons, PyData.depthAll, PyData.depth, turnD]; omega
  have h1 := hn (numsL cs)
  have h2 := ht (turnsF 0 cs)
  simp only [revD, PyData.depth, PyData.depthAll]
  omega
theorem nums_flat {news : List (Addr × Obj)} {W : Value → List Value → Prop} (hW : ∀ v zs, W v zs → True) : ∀ {vs : List Value} {zss : List (List Value)} {cs : List Nat}, Paired W vs zss → (∀ (i : Nat) (v : Value) (zs : List Value), vs[i]? = some v → W v zs → ∃ c, cs[i]? = some c ∧ IntsAre zs (nOf c)) → vs.length = cs.length → IntsAre zss.flatten (numsL cs)
  | _, _, [], .nil, _, _ => .nil
  | _, _, _ :: _, .nil, _, e => by simp at e
  | _, _, [], .cons _ _, _, e => by simp at e
  | v :: vs, zs :: zss, c :: cs, .cons h1 h2, f, e => by
    obtain ⟨c', hc, hi⟩ := f 0 v zs rfl h1
    simp only [List.getElem?_cons_zero, Option.some.injEq] at hc
    subst hc
    have ih := nums_flat hW (news := news) (cs := cs) h2 (fun i v zs hv hw => by
      obtain ⟨c, q1, q2⟩ := f (i + 1) v zs (by simpa using hv) hw
      exact ⟨c, by simpa using q1, q2⟩) (by simpa using e)
    rw [List.flatten_cons, numsL, List.flatMap_cons]
    exact hi.append ih
theorem sum_le (f : Nat → Str) (hf : ∀ c, (f c).length ≤ 2) (cs : List Nat) : ((cs.map f).map (·.length)).sum ≤ 2 * cs.length := by
  induction cs with
  | nil => exact Nat.le_refl 0
  | cons c cs ih =>
    have := hf c
    simp only [List.map_cons, List.sum_cons, List.length_cons] at *
    omega
theorem join_es {prog : Program} {w : World} {A : Around} {E : Value → Shared → Prop} {s : Shared} {D : Addr} {zs : List Value} {f : Nat → Str} {cs : List Nat} {t : Tok} {Q : Value → Shared → Prop} (hl : s.heap.IsList D zs.toArray) (hz : StrsAre zs (cs.map f)) (hf : ∀ c, (f c).length ≤ 2) (hcs : cs.length ≤ 1000)
    (h : ∀ t' k, Q (.str (strL (codL f cs)) t') { s with toks := k }) : wpAny (model prog w) A (call (.builtin "str.join") [.str (Str.ofString "") t, .ref D]) Q E s := by
  refine join_list (ys := cs.map f) hl (by simpa using hz) ?_ fun t' k => ?_
  · have h1 := sum_le f hf cs
    have h2 : (Str.ofString "").length = 0 := by decide
    rw [h2, Nat.mul_zero]; omega
  · have e := joinL f cs
    unfold es at e
    rw [e]; exact h t' k
theorem codL_one (cs : List Nat) : codL (fun c => (⟨#[c]⟩ : Str)) cs = cs := by
  induction cs with
  | nil => rfl
  | cons c cs ih => rw [codL, List.flatMap_cons]; show c :: codL _ cs = _; rw [ih]
theorem piece_unique {h : Heap} {v : Value} {c c' : Nat} {as as' : List Addr} (r : Reads h v (pcD c) as) (r' : Reads h v (pcD c') as') : c = c' := by
  obtain ⟨a, b, t0, t1, t2, t4, bs, rfl, ⟨o, h1, _, n, h2⟩, -⟩ := piece_open r
  obtain ⟨a', b', t0', t1', t2', t4', bs', e, ⟨o', h1', _, n', h2'⟩, -⟩ := piece_open r'
  cases e
  rw [h1] at h1'; cases h1'
  rw [h2] at h2'
  simp only [Data.seq.injEq, List.cons.injEq, Array.mk.injEq, Value.str.injEq, Str.mk.injEq] at h2'
  simpa using h2'.1.1.1
theorem numbers_are {g H : Heap} {L : Addr} {news : List (Addr × Obj)} {ys : List Value} {cs : List Nat} {zss : List (List Value)} (N : News g L H news) (hP : PiecesIn news ys cs) (h : Paired (fun v zs => ∃ c as, Reads H v (pcD c) as ∧ IntsAre zs (nOf c)) ys zss) : IntsAre zss.flatten (numsL cs) :=
  nums_flat (news := news) (hW := fun _ _ _ => trivial) h (fun i v zs hv hw => by
    obtain ⟨c, as, r, hi⟩ := hw
    obtain ⟨c', as', hc, r'⟩ := hP.at N hv
    rw [piece_unique r r'] at hi
    exact ⟨c', hc, hi⟩) hP.length
theorem assign_nums {prog : Program} {w : World} {A : Around} {E : Value → Shared → Prop} {s : Shared} {elt i1 i2 : PySem.Expr} {x y : Str} {px py : Pos} {scope : Scope} {pos : Pos}
    {g : Heap} {L f0 ax : Addr} {name v : Str} {pv spos : Pos} {lscope : Scope} {cd : Value} {m : Str → Option Value} {news old : List (Addr × Obj)} {ys : List Value} {cs : List Nat} {Q : Flow → Shared → Prop}
    (hh : A.handled = none) (F : Fr g L s.heap m) (N : News g L s.heap news) (hl : s.heap.IsList ax ys.toArray) (hP : PiecesIn old ys cs) (hsub : ∀ p ∈ old, p ∈ news) (hsz : cs.length ≤ 1000)
    (hiter : ∀ Q' : Value → Shared → Prop, Q' (.ref ax) s → wpAny (model prog w) A (eval i1 (envOf name lscope L f0 cd)) Q' E s)
    (hin : ∀ (C a b : Addr) (l0 l1 l2 l4 : Str) (s0 s1 s2 s4 : Tok) (s₂ : Shared) (m₂ : Str → Option Value) (Q' : Value → Shared → Prop) (E' : Value → Shared → Prop), s₂.heap.Ns C m₂ → m₂ x = some (.ref a) → s₂.heap.IsList a [.str l0 s0, .str l1 s1, .str l2 s2, .ref b, .str l4 s4].toArray →
      Fr g L s₂.heap m → News g L s₂.heap news → (∀ tk, Q' (.ref b) { s₂ with toks := tk }) → wpAny (model prog w) A (eval i2 (compEnv scope C (envOf name lscope L f0 cd))) Q' E' s₂)
    (helt : ∀ (C : Addr) (z : Value) (s₂ : Shared) (m₂ : Str → Option Value) (Q' : Value → Shared → Prop) (E' : Value → Shared → Prop), s₂.heap.Ns C m₂ → m₂ y = some z → Q' z s₂ → wpAny (model prog w) A (eval elt (compEnv scope C (envOf name lscope L f0 cd))) Q' E' s₂)
    (hQ : ∀ D o h' tk zs n, Fr g L h' (fun z => if z = v then some (.ref D) else m z) → News g L h' ((D, o) :: news) → o.cls = .type "list" → o.data = .seq zs n → IntsAre zs.toList (numsL cs) → Q .next { s with heap := h', toks := tk })
    (hsw : swapsWith (two elt i1 i2 x y px py scope pos) (some (.Name v pv)) spos.line (envOf name lscope L f0 cd) = pure true)
    (hfree : ∀ z ∈ scope.names, z.2 ≠ .free) (hcell : ∀ z ∈ scope.names, z.2 ≠ .cell) (hkind : scope.kind = .function)
    (hnames : ∀ z ∈ scope.names, z.2 = .local → scope.names.lookup z.1 = some .local) (hx : scope.names.lookup x = some .local) (hy : scope.names.lookup y = some .local)
    (hv : (envOf name lscope L f0 cd).kindOf v = some .local) (hlk : lscope.kind = .function)
    (hs1 : ∀ z, foldedSetIterable i1 (envOf name lscope L f0 cd) z = pure z) (hs2 : ∀ C z, foldedSetIterable i2 (compEnv scope C (envOf name lscope L f0 cd)) z = pure z) :
    wpAny (model prog w) A (exec (.Assign [.Name v pv] (two elt i1 i2 x y px py scope pos) spos) (envOf name lscope L f0 cd)) Q E s := by
  have N0 : News g L s.heap old := fun p hp => N p (hsub p hp)
  refine assign_two (ax := ax) (items := ys.toArray) (W := fun v zs => ∃ c as, Reads s.heap v (pcD c) as ∧ IntsAre zs (nOf c)) hh F N hl (by rw [List.size_toArray, hP.length]; exact hsz) ?_ hiter ?_ helt ?_ hsw hfree hcell hkind hnames hx hy hv hlk hs1 hs2
  · rintro v zs ⟨c, as, -, hi⟩
    have := hi.length
    have : (nOf c).length ≤ 1 := by
      unfold nOf; split
      · exact Nat.zero_le _
      · split
        · exact Nat.le_refl _
        · exact Nat.zero_le _
    omega
  · intro C v s₂ m₂ Q' E' hv hn hm hk hq
    obtain ⟨i, hv⟩ := List.mem_iff_getElem?.mp (by simpa using hv)
    obtain ⟨c, as, hc, hr⟩ := hP.at N0 (i := i) (v := v) hv
    obtain ⟨a, b, s0, s1, s2, s4, bs, rfl, hp, hr3⟩ := piece_open hr
    obtain ⟨b', l, bs', e, rfl, hb, hra⟩ := reads_list_items hr3
    cases e
    exact hin C a b _ _ _ _ s0 s1 s2 s4 s₂ m₂ Q' E' hn hm (hp.at fun o e => hk _ o e) (F.keeps hk) (N.grown hk) (hq b l hb ⟨c, as, hr, (readsAll_intsAre hra).1⟩)
  · intro D o h' tk zss n F' N' hc hd hp
    exact hQ D o h' tk _ n F' N' hc hd (by simpa using numbers_are N0 hP (by simpa using hp))
end Mine
end P3
section L2
set_option maxRecDepth 100000
namespace Mine
local macro_rules | `(tactic| walk_at "exec Assign cons ListComp") => `(tactic| ((with_reducible show wpAny _ _ (exec (PySem.Stmt.Assign _ (PySem.Expr.ListComp _ _ _ _) _) _) _ _ _); refine hold ?_))
local macro_rules | `(tactic| walk_at "CompSrc") => `(tactic| ((with_reducible show LCg.CompSrc _ _ _ _ _ _ _ _ _ _ _ _ _ _); refine hold ?_))
local macro_rules | `(tactic| walk_at "subscriptTail") => `(tactic| ((with_reducible show wpAny _ _ (subscriptTail _ _ (Value.ref _) (Value.int _ _)) _ _ _); refine hold ?_))
local macro_rules | `(tactic| walk_at "newList") => `(tactic| ((with_reducible show wpAny _ _ (newList (Value.str _ _ :: _)) _ _ _); refine hold ?_))
set_option maxHeartbeats 8000000 in
theorem t_law (w : World) (ax : Addr) (ns : List Int) (items : Array Value) (hi : IntsAre items.toList ns) (hlen : ns.length ≤ 63) : SpecP w 149 [.ref ax] 40 400 (fun g => g.IsList ax items)
    (fun g h' v => v = .bool true) := by
  unfold SpecP; k_fill
  intro mean mg mb A base g outer gens drawn toks os Q E X T B hh hd hu hR hret
  refine enter X T B (by k_is) (by k_is) (by omega) (BindsTo.of_eq rfl) (locs rfl) ?_ rfl rfl rfl (by decide)
  intro h₁ F N
  dsimp only
  k_steps
  unfold Held
  refine LCg.Assign_ListComp_U (F₀ := by k_asm) (by rfl) (by with_unfolding_all rfl) (by rfl) (by decide) (by rfl) (by decide) (by rfl) (by rfl) (by rfl) ?_
  k_steps
  unfold Held
  rename Fr _ _ _ _ => F1
  rename News _ _ _ _ => N1
  rename IntsAre _ _ => hI1
  have hl1 := hI1.length
  simp only [List.length_append, List.length_take, List.length_cons, List.length_nil] at hl1
  refine LCg.CompSrc.ledger hh F1 N1 (.head _) (by rw [sizeLine_eq]; simp only [List.size_toArray]; omega) ?_
  intro g1
  refine rest_by (fun i ys news => (∃ cs, cs.length = i ∧ (∀ c ∈ cs, c ≤ 1114111) ∧ PiecesIn news ys cs) ∧ ∀ p ∈ _, p ∈ news) ?_ ?_ _ 0 [] _ (Nat.zero_add _) ⟨⟨[], rfl, (fun _ hc => nomatch hc), .nil⟩, fun p hp => hp⟩
  · intro i ys news v I oI C oC D m₂ h tk2 E' hi2 hJ hv hC hm F2 N2 off ne
    obtain ⟨n, t, rfl, hn⟩ := hI1.at i v (by simpa using hv)
    obtain ⟨⟨cs, hcs, hcb, hP⟩, hsub⟩ := hJ
    k_steps
    refine (t_piece _ _ _).use X T B hh F2 N2 (by omega) (by omega) ?_
    rintro v2 h5 tk5 F5 N5 hk5 ⟨c, as, hcl, hr, hf⟩
    refine piece_onto N2 F2 off F5 N5 hr hf (fun news' hs => .inr ⟨_, hs _ (hsub _ (.head _)), rfl, _, rfl⟩) fun a b oa ob e hr' => ?_
    subst e
    refine ⟨⟨cs ++ [c], by rw [List.length_append, hcs]; rfl, fun c' hc' => ?_, ?_⟩, fun p hp => .tail _ (.tail _ (hsub p hp))⟩
    · rcases List.mem_append.mp hc' with hc' | hc'
      · exact hcb c' hc'
      · simp at hc'; omega
    · exact (hP.mono fun p hp => .tail _ (.tail _ hp)).snoc (.head _) (.tail _ (.head _)) hr'
  · intro ys news hJ
    obtain ⟨⟨cs, hcs, hcb, hP⟩, -⟩ := hJ
    have hys := hP.length
    have hcs1 : cs.length ≤ 25 := by rw [hcs]; simp only [List.size_toArray]; omega
    have hseen := seen_len cs
    have hlett := lett_len cs
    unfold LCg.FinA
    intro D h' tk' F' N' o1
    dsimp only
    k_steps
    unfold Held
    rename Fr _ _ _ _ => F31
    rename News _ _ _ _ => N31
    refine LCg.CompSrc.ledger hh F31 N31 (.head _) (by rw [sizeLine_eq]; simp only [List.size_toArray]; omega) ?_
    intro g2
    refine rest_by (fun i zs news' => news' = (D, LCg.lst ys) :: news ∧ StrsAre zs ((cs.take i).map bOf)) ?_ ?_ _ 0 [] _ (Nat.zero_add _) ⟨rfl, .nil⟩
    · intro i zs news' v I oI C oC Dx m₂ h tk2 E' hi2 hJ hv hC hm F2 N2 off ne
      obtain ⟨rfl, hz⟩ := hJ
      obtain ⟨c, as, hc, hr⟩ := hP.at (fun p hp => N2 p (.tail _ (.tail _ (.tail _ (.tail _ (hp)))))) (i := i) (v := v) (by simpa using hv)
      obtain ⟨a, b, s0, s1, s2, s4, bs, rfl, hp, -⟩ := piece_open hr
      k_steps
      unfold Held
      refine item_litK hp (by decide) (by decide) rfl ?_
      exact LCg.CompEnd.intro F2 N2 ((D, LCg.lst ys) :: news) (fun p hp => hp) off (.inr ⟨_, (.head _), rfl, _, rfl⟩) ⟨rfl, strs_next (f := bOf) hz hc⟩
    · intro zs1 news' hJ
      obtain ⟨rfl, hz⟩ := hJ
      rw [List.size_toArray, hys, List.take_length] at hz
      unfold LCg.FinE
      intro D1 h' tk' F' N' o1
      dsimp only
      k_steps
      refine join_es (f := bOf) ⟨_, (N' _ (.head _)).1, rfl, _, rfl⟩ hz (fun c => Nat.le_succ_of_le (bOf_len c)) (by omega) fun t1 k1 => ?_
      k_steps
      unfold Held
      rename Fr _ _ _ _ => F32
      rename News _ _ _ _ => N32
      refine LCg.CompSrc.ledger hh F32 N32 (.tail _ (.head _)) (by rw [sizeLine_eq]; simp only [List.size_toArray]; omega) ?_
      intro g2
      refine rest_by (fun i zs news' => news' = (D1, LCg.lst zs1) :: (D, LCg.lst ys) :: news ∧ StrsAre zs ((cs.take i).map cOf)) ?_ ?_ _ 0 [] _ (Nat.zero_add _) ⟨rfl, .nil⟩
      · intro i zs news' v I oI C oC Dx m₂ h tk2 E' hi2 hJ hv hC hm F2 N2 off ne
        obtain ⟨rfl, hz⟩ := hJ
        obtain ⟨c, as, hc, hr⟩ := hP.at (fun p hp => N2 p (.tail _ (.tail _ (.tail _ (.tail _ (.tail _ (hp))))))) (i := i) (v := v) (by simpa using hv)
        obtain ⟨a, b, s0, s1, s2, s4, bs, rfl, hp, -⟩ := piece_open hr
        k_steps
        unfold Held
        refine item_litK hp (by decide) (by decide) rfl ?_
        exact LCg.CompEnd.intro F2 N2 ((D1, LCg.lst zs1) :: (D, LCg.lst ys) :: news) (fun p hp => hp) off (.inr ⟨_, (.tail _ (.head _)), rfl, _, rfl⟩) ⟨rfl, strs_next (f := cOf) hz hc⟩
      · intro zs2 news' hJ
        obtain ⟨rfl, hz⟩ := hJ
        rw [List.size_toArray, hys, List.take_length] at hz
        unfold LCg.FinE
        intro D2 h' tk' F' N' o1
        dsimp only
        k_steps
        refine join_es (f := cOf) ⟨_, (N' _ (.head _)).1, rfl, _, rfl⟩ hz (fun c => cOf_len c) (by omega) fun t2 k2 => ?_
        k_steps
        unfold Held
        rename Fr _ _ _ _ => F4
        rename News _ _ _ _ => N4
        refine assign_nums (ax := D) (ys := ys) (cs := cs) (old := news) hh F4 N4 ⟨_, (N4 _ (.tail _ (.tail _ (.head _)))).1, rfl, _, rfl⟩ hP (fun p hp => .tail _ (.tail _ (.tail _ hp))) (by omega) (fun Q' hq => ?_) ?_ ?_ ?_ (by with_unfolding_all rfl) (by decide) (by decide) (by rfl) (by decide) (by rfl) (by rfl) (by rfl) (by rfl) (by intro _; rfl) (by intro _ _; rfl)
        · k_steps
          exact hq
        · intro C a b l0 l1 l2 l4 s0 s1 s2 s4 s₂ m₂ Q' E' hn hm hp F5 N5 hq
          k_steps
          unfold Held
          exact item_litK hp (by decide) (by decide) rfl (hq _)
        · intro C z s₂ m₂ Q' E' hn hm hq
          k_steps
          exact hq
        · intro Dn on h' tk' zs n F5 N5 hoc hod hnum
          dsimp only
          k_steps
          unfold Held
          rename Fr _ _ _ _ => F33
          rename News _ _ _ _ => N33
          refine LCg.CompSrc.ledger hh F33 N33 (.tail _ (.tail _ (.tail _ (.head _)))) (by rw [sizeLine_eq]; simp only [List.size_toArray]; omega) ?_
          intro g2
          refine rest_by (fun i zs news' => news' = (Dn, on) :: (D2, LCg.lst zs2) :: (D1, LCg.lst zs1) :: (D, LCg.lst ys) :: news ∧ StrsAre zs ((cs.take i).map (fun c => (⟨#[c]⟩ : Str)))) ?_ ?_ _ 0 [] _ (Nat.zero_add _) ⟨rfl, .nil⟩
          · intro i zs news' v I oI C oC Dx m₂ h tk2 E' hi2 hJ hv hC hm F2 N2 off ne
            obtain ⟨rfl, hz⟩ := hJ
            obtain ⟨c, as, hc, hr⟩ := hP.at (fun p hp => N2 p (.tail _ (.tail _ (.tail _ (.tail _ (.tail _ (.tail _ (.tail _ (hp))))))))) (i := i) (v := v) (by simpa using hv)
            obtain ⟨a, b, s0, s1, s2, s4, bs, rfl, hp, -⟩ := piece_open hr
            k_steps
            unfold Held
            refine item_litK hp (by decide) (by decide) rfl ?_
            exact LCg.CompEnd.intro F2 N2 ((Dn, on) :: (D2, LCg.lst zs2) :: (D1, LCg.lst zs1) :: (D, LCg.lst ys) :: news) (fun p hp => hp) off (.inr ⟨_, (.tail _ (.tail _ (.tail _ (.head _)))), rfl, _, rfl⟩) ⟨rfl, strs_next (f := (fun c => (⟨#[c]⟩ : Str))) hz hc⟩
          · intro zs3 news' hJ
            obtain ⟨rfl, hz⟩ := hJ
            rw [List.size_toArray, hys, List.take_length] at hz
            unfold LCg.FinE
            intro D3 h' tk' F' N' o1
            dsimp only
            k_steps
            refine join_es (f := (fun c => (⟨#[c]⟩ : Str))) ⟨_, (N' _ (.head _)).1, rfl, _, rfl⟩ hz (fun c => Nat.le_succ 1) (by omega) fun t3 k3 => ?_
            rw [codL_one]
            k_steps
            refine (t_review w cs _ (by omega)).use X T B hh (by assumption) (by assumption) (by omega) (by omega) ?_
            rintro v1 h5 tk5 F6 N6 hk6 ⟨as1, hr1, -⟩
            k_steps
            refine (t_turned w cs D (by omega)).use X T B hh F6 N6 (by omega) (by omega) ?_ ?_
            · obtain ⟨as, hra⟩ := PiecesIn.reads (fun p hp => N6 p (.tail _ (.tail _ (.tail _ (.tail _ (.tail _ hp)))))) hP
              exact ⟨ys.toArray, as, ⟨_, (N6 _ (.tail _ (.tail _ (.tail _ (.tail _ (.head _)))))).1, rfl, _, rfl⟩, hra⟩
            rintro v2 h7 tk7 F8 N8 hk8 ⟨as2, hr2, -⟩
            k_steps
            unfold Held
            refine wpAny_newObj_type (hd := by size_fits) ?_
            k_steps
            have up : ∀ (o : Obj) b o', h7.get? b = some o' → (h7.push o).get? b = some o' := fun o b o' e => Heap.get?_push_of_some _ e
            refine SeqAt.compareEq_reads (da := revD cs) (db := revD cs) (PyProof.Rows.Reads.keeps (fun b o e => up _ b o (hk8 b o e)) hr1)
              (.list (Heap.get?_push_size _ rfl) rfl rfl (.cons (.str _ _) (.cons (.str _ _) (.cons (.list (up _ _ _ (N8 _ (.tail _ (.head _))).1) hoc hod (hnum.reads _)) (.cons (PyProof.Rows.Reads.keeps (up _) hr2) .nil)))))
              (rev_ok hcb) (rev_ok hcb) ?_ ?_
            · have := rev_depth cs
              rw [Nat.min_self]
              show A.units + 3 + _ < cLine
              omega
            · rw [SeqAt.eqv_refl _ (rev_ok hcb)]
              k_steps
              exact hret _ _ _ (fun b o e => up _ b o (F8.keep b o e)) rfl
end Mine
end L2
namespace Mine
theorem intsT {vs : List Value} {ns : List Int} (h : IntsAre vs ns) : IntsAre vs.toArray.toList ns := by simpa using h
end Mine
open Mine
set_option maxRecDepth 100000 in
set_option maxHeartbeats 8000000 in
theorem PySem.Challenge.cw_mj0050_01_holds : PySem.Challenge.rw_mj0050_01.Holds := by
  w_on; o_law
  refine holds_open (q := qq) (loose := ll) (Xt := fun s => xlAt qq [] s && recOk (RowW.records (OpenRow.toRowW PySem.Challenge.rw_mj0050_01.row)) s) (XP := XL qq []) (Yf := Hook.obs HK) (Ya := Hook.val HK) (YP := Hook.says HK) (N := 12000) ?hl (Hook.of HK) (Hook.keeps HK) (fun s e => xl_of s (Bool.and_eq_true_iff.mp e).1) XL.keeps (by rfl) (by rfl) (by rfl) (fun s e => recFacts_of (Bool.and_eq_true_iff.mp e).2) (by rfl) (by first | assumption | decide +kernel) (by decide +kernel) ⟨rfl, rfl, rfl, rfl, rfl, by decide +kernel⟩ ?hw ?hc
  case hl => exact left
  case hw => w_witness2
  k_fill
  intro w s₀ s₁ mg mb G Y fa o pm cd doc dV kV ho hd hcd hD hmg hg args vals as hpre hlay hrd hwl hlo
  have KX := kIn_of Y
  have X := (Ground.X G).1
  have V := (Ground.X G).2
  refine Ground.open G ?_
  intro T B D TE TW
  wrow_args hpre hlay hrd hwl hlo
  have ef : fa = 149 := by
    have q := mg_of (n := Str.ofString "law") (v := .ref 149) KX T.g (by kernel_rfl)
    have q' := hmg.symm.trans q
    cases q'; rfl
  subst ef
  rename (IntsAre _ _) => hi₁
  rename (Heap.IsList _ _ _) => hl₁
  rename (¬ _ < _) => hc₁
  refine t_law w _ _ _ (intsT hi₁) ?_ (ExcName.means s₀.heap) mg mb callerA s₁.heap s₁.heap [] s₁.gens s₁.drawn s₁.toks s₁.os _ _ KX T (below_caller _) rfl (by decide) (by decide) hl₁ ?_
  · omega
  · intro v h' tk' hk hv
    have hv : v = .bool true := hv
    subst hv
    refine GoodW.toG ⟨.inl ⟨_, _, [], rfl, fun cls => ?_, .bool true, ?_, ?_⟩, hk, rfl, hg⟩
    · rfl
    · wrow_post
    · exact unshared_nil
