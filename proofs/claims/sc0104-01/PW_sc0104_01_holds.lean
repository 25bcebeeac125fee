import PyProof.Rows.All
import Wide.All
import OpenK.AllK
import Wide.FinOn
import Lean
import PySem.Challenge.RW_sc0104_01
open PySem PySem.W PyProof.Rows PySem.Calls
set_option Elab.async false
set_option compiler.extract_closed false
set_option linter.all false
set_option maxRecDepth 100000
set_option maxHeartbeats 8000000
namespace Mine
noncomputable abbrev pw : Program := PySem.Challenge.pw_sc0104_01
noncomputable def stmtAt (i : Nat) : Stmt := PySem.Challenge.pw_sc0104_01.main.body.getD i (.Pass ⟨0, 0, 0, 0⟩)
structure Fd where
  name : Str
  params : Arguments
  body : List Stmt
  scope : Scope
noncomputable def fdOf : Stmt → Fd
  | .FunctionDef n a b _ _ _ sc _ _ _ => ⟨n, a, b, sc⟩
  | _ => ⟨"", ⟨[], [], none, [], [], none, []⟩, [], ⟨.function, [], false, false, []⟩⟩
noncomputable def fd (i : Nat) : Fd := fdOf (stmtAt i)
noncomputable def clsBody : Stmt → List Stmt
  | .ClassDef _ _ _ b _ _ _ _ _ _ _ => b
  | _ => []
noncomputable def md (j : Nat) : Fd := fdOf ((clsBody (stmtAt 10)).getD j (.Pass ⟨0, 0, 0, 0⟩))
noncomputable def ob (c : Value) (d : Data) : Obj := ⟨c, none, d, #[]⟩
noncomputable def cob (a b c d e f g h i j k l m n o p q r s : Value) : Obj := ⟨.type PySem.W.SL.s5856160107412720595x4, none, .fields #[a, b, c, d, e, f, g, h, i, j, k, l, m, n, o, p, q, r, s], #[]⟩
noncomputable def fob (c : Value) (n q : Str) (p : Arguments) (b : FuncBody) (sc : Scope) (tk : Nat) (cl : List (Str × Addr)) (df kd dc pm : Value) (an : Option Addr) (cd ct : Value) (z : Nat) : Obj :=
  ⟨c, none, .func ⟨n, q, p, b, sc, tk, cl, df, kd, dc, pm, an, cd, ct, z⟩, #[]⟩
noncomputable def en (P : Params) (x : Str) (t : Nat) (v : Value) : DictEntry := ⟨PyData.keyHash P x, .str x t, v⟩
noncomputable abbrev y10062305145149207511x16 : String := PySem.W.SL.s10062305145149207511x16
noncomputable abbrev y10220274742760427390x26 : String := PySem.W.SL.s10220274742760427390x26
noncomputable abbrev y11030030927630378310x26 : String := PySem.W.SL.s11030030927630378310x26
noncomputable abbrev y11443829558043349243x14 : String := PySem.W.SL.s11443829558043349243x14
noncomputable abbrev y12411053484034534018x21 : String := PySem.W.SL.s12411053484034534018x21
noncomputable abbrev y13500813778147066322x18 : String := PySem.W.SL.s13500813778147066322x18
noncomputable abbrev y14018661285674007319x4 : String := PySem.W.SL.s14018661285674007319x4
noncomputable abbrev y14755015743595814543x17 : String := PySem.W.SL.s14755015743595814543x17
noncomputable abbrev y17162191345867700912x4 : String := PySem.W.SL.s17162191345867700912x4
noncomputable abbrev y2742458400755230247x6 : String := PySem.W.SL.s2742458400755230247x6
noncomputable abbrev y2766695959194262286x5 : String := PySem.W.SL.s2766695959194262286x5
noncomputable abbrev y4290257624100764138x5 : String := PySem.W.SL.s4290257624100764138x5
noncomputable abbrev y4860613602091757760x24 : String := PySem.W.SL.s4860613602091757760x24
noncomputable abbrev y5991306692159431302x13 : String := PySem.W.SL.s5991306692159431302x13
noncomputable abbrev y6511155373996960695x17 : String := PySem.W.SL.s6511155373996960695x17
noncomputable abbrev y658472552662922059x5 : String := PySem.W.SL.s658472552662922059x5
noncomputable abbrev y7097527257260152453x26 : String := PySem.W.SL.s7097527257260152453x26
noncomputable abbrev y7174869446012820540x8 : String := PySem.W.SL.s7174869446012820540x8
noncomputable def t0 : Str := ⟨⟨[95, 95, 110, 97, 109, 101, 95, 95]⟩⟩
noncomputable def t1 : Str := ⟨⟨[108, 97, 119, 95, 115, 99, 48, 49, 48, 52, 95, 48, 49]⟩⟩
noncomputable def t2 : Str := ⟨⟨[95, 95, 100, 111, 99, 95, 95]⟩⟩
noncomputable def t3 : Str := ⟨⟨[95, 95, 112, 97, 99, 107, 97, 103, 101, 95, 95]⟩⟩
noncomputable def t4 : Str := ⟨⟨[95, 95, 108, 111, 97, 100, 101, 114, 95, 95]⟩⟩
noncomputable def t5 : Str := ⟨⟨[95, 95, 115, 112, 101, 99, 95, 95]⟩⟩
noncomputable def t6 : Str := ⟨⟨[95, 95, 97, 110, 110, 111, 116, 97, 116, 105, 111, 110, 115, 95, 95]⟩⟩
noncomputable def t7 : Str := ⟨⟨[95, 95, 98, 117, 105, 108, 116, 105, 110, 115, 95, 95]⟩⟩
noncomputable def t8 : Str := ⟨⟨[95, 95, 102, 105, 108, 101, 95, 95]⟩⟩
noncomputable def t9 : Str := ⟨⟨[47, 99, 108, 97, 105, 109, 47, 99, 117, 116, 46, 112, 121]⟩⟩
noncomputable def t10 : Str := ⟨⟨[95, 95, 99, 97, 99, 104, 101, 100, 95, 95]⟩⟩
noncomputable def t11 : Str := ⟨⟨[95, 119, 97, 108, 108]⟩⟩
noncomputable def t12 : Str := ⟨⟨[95, 68, 73, 86, 95, 76, 73, 77, 73, 84]⟩⟩
noncomputable def t13 : Str := ⟨⟨[95, 100, 105, 118, 50, 110, 49, 110]⟩⟩
noncomputable def t14 : Str := ⟨⟨[95, 100, 105, 118, 51, 110, 50, 110]⟩⟩
noncomputable def t15 : Str := ⟨⟨[95, 105, 110, 116, 50, 100, 105, 103, 105, 116, 115]⟩⟩
noncomputable def t16 : Str := ⟨⟨[95, 100, 105, 103, 105, 116, 115, 50, 105, 110, 116]⟩⟩
noncomputable def t17 : Str := ⟨⟨[95, 100, 105, 118, 109, 111, 100, 95, 112, 111, 115]⟩⟩
noncomputable def t18 : Str := ⟨⟨[105, 110, 116, 95, 100, 105, 118, 109, 111, 100]⟩⟩
noncomputable def t19 : Str := ⟨⟨[87, 104, 105, 116, 101, 115, 112, 97, 99, 101]⟩⟩
noncomputable def t20 : Str := ⟨⟨[69, 78, 68, 77, 65, 82, 75, 69, 82]⟩⟩
noncomputable def t21 : Str := ⟨⟨[76, 80, 65, 82]⟩⟩
noncomputable def t22 : Str := ⟨⟨[82, 80, 65, 82]⟩⟩
noncomputable def t23 : Str := ⟨⟨[76, 83, 81, 66]⟩⟩
noncomputable def t24 : Str := ⟨⟨[82, 83, 81, 66]⟩⟩
noncomputable def t25 : Str := ⟨⟨[67, 79, 76, 79, 78]⟩⟩
noncomputable def t26 : Str := ⟨⟨[67, 79, 77, 77, 65]⟩⟩
noncomputable def t27 : Str := ⟨⟨[83, 69, 77, 73]⟩⟩
noncomputable def t28 : Str := ⟨⟨[80, 76, 85, 83]⟩⟩
noncomputable def t29 : Str := ⟨⟨[77, 73, 78, 85, 83]⟩⟩
noncomputable def t30 : Str := ⟨⟨[83, 84, 65, 82]⟩⟩
noncomputable def t31 : Str := ⟨⟨[83, 76, 65, 83, 72]⟩⟩
noncomputable def t32 : Str := ⟨⟨[86, 66, 65, 82]⟩⟩
noncomputable def t33 : Str := ⟨⟨[65, 77, 80, 69, 82]⟩⟩
noncomputable def t34 : Str := ⟨⟨[76, 69, 83, 83]⟩⟩
noncomputable def t35 : Str := ⟨⟨[71, 82, 69, 65, 84, 69, 82]⟩⟩
noncomputable def t36 : Str := ⟨⟨[69, 81, 85, 65, 76]⟩⟩
noncomputable def t37 : Str := ⟨⟨[68, 79, 84]⟩⟩
noncomputable def t38 : Str := ⟨⟨[80, 69, 82, 67, 69, 78, 84]⟩⟩
noncomputable def t39 : Str := ⟨⟨[76, 66, 82, 65, 67, 69]⟩⟩
noncomputable def t40 : Str := ⟨⟨[82, 66, 82, 65, 67, 69]⟩⟩
noncomputable def t41 : Str := ⟨⟨[69, 81, 69, 81, 85, 65, 76]⟩⟩
noncomputable def t42 : Str := ⟨⟨[78, 79, 84, 69, 81, 85, 65, 76]⟩⟩
noncomputable def t43 : Str := ⟨⟨[76, 69, 83, 83, 69, 81, 85, 65, 76]⟩⟩
noncomputable def t44 : Str := ⟨⟨[71, 82, 69, 65, 84, 69, 82, 69, 81, 85, 65, 76]⟩⟩
noncomputable def t45 : Str := ⟨⟨[84, 73, 76, 68, 69]⟩⟩
noncomputable def t46 : Str := ⟨⟨[67, 73, 82, 67, 85, 77, 70, 76, 69, 88]⟩⟩
noncomputable def t47 : Str := ⟨⟨[76, 69, 70, 84, 83, 72, 73, 70, 84]⟩⟩
noncomputable def t48 : Str := ⟨⟨[82, 73, 71, 72, 84, 83, 72, 73, 70, 84]⟩⟩
noncomputable def t49 : Str := ⟨⟨[68, 79, 85, 66, 76, 69, 83, 84, 65, 82]⟩⟩
noncomputable def t50 : Str := ⟨⟨[80, 76, 85, 83, 69, 81, 85, 65, 76]⟩⟩
noncomputable def t51 : Str := ⟨⟨[77, 73, 78, 69, 81, 85, 65, 76]⟩⟩
noncomputable def t52 : Str := ⟨⟨[83, 84, 65, 82, 69, 81, 85, 65, 76]⟩⟩
noncomputable def t53 : Str := ⟨⟨[83, 76, 65, 83, 72, 69, 81, 85, 65, 76]⟩⟩
noncomputable def t54 : Str := ⟨⟨[80, 69, 82, 67, 69, 78, 84, 69, 81, 85, 65, 76]⟩⟩
noncomputable def t55 : Str := ⟨⟨[65, 77, 80, 69, 82, 69, 81, 85, 65, 76]⟩⟩
noncomputable def t56 : Str := ⟨⟨[86, 66, 65, 82, 69, 81, 85, 65, 76]⟩⟩
noncomputable def t57 : Str := ⟨⟨[67, 73, 82, 67, 85, 77, 70, 76, 69, 88, 69, 81, 85, 65, 76]⟩⟩
noncomputable def t58 : Str := ⟨⟨[76, 69, 70, 84, 83, 72, 73, 70, 84, 69, 81, 85, 65, 76]⟩⟩
noncomputable def t59 : Str := ⟨⟨[82, 73, 71, 72, 84, 83, 72, 73, 70, 84, 69, 81, 85, 65, 76]⟩⟩
noncomputable def t60 : Str := ⟨⟨[68, 79, 85, 66, 76, 69, 83, 84, 65, 82, 69, 81, 85, 65, 76]⟩⟩
noncomputable def t61 : Str := ⟨⟨[68, 79, 85, 66, 76, 69, 83, 76, 65, 83, 72]⟩⟩
noncomputable def t62 : Str := ⟨⟨[68, 79, 85, 66, 76, 69, 83, 76, 65, 83, 72, 69, 81, 85, 65, 76]⟩⟩
noncomputable def t63 : Str := ⟨⟨[65, 84]⟩⟩
noncomputable def t64 : Str := ⟨⟨[65, 84, 69, 81, 85, 65, 76]⟩⟩
noncomputable def t65 : Str := ⟨⟨[82, 65, 82, 82, 79, 87]⟩⟩
noncomputable def t66 : Str := ⟨⟨[69, 76, 76, 73, 80, 83, 73, 83]⟩⟩
noncomputable def t67 : Str := ⟨⟨[67, 79, 76, 79, 78, 69, 81, 85, 65, 76]⟩⟩
noncomputable def t68 : Str := ⟨⟨[69, 88, 67, 76, 65, 77, 65, 84, 73, 79, 78]⟩⟩
noncomputable def t69 : Str := ⟨⟨[78, 84, 95, 79, 70, 70, 83, 69, 84]⟩⟩
noncomputable def t70 : Str := ⟨⟨[69, 88, 65, 67, 84, 95, 84, 79, 75, 69, 78, 95, 84, 89, 80, 69, 83]⟩⟩
noncomputable def t71 : Str := ⟨⟨[73, 83, 84, 69, 82, 77, 73, 78, 65, 76]⟩⟩
noncomputable def t72 : Str := ⟨⟨[73, 83, 78, 79, 78, 84, 69, 82, 77, 73, 78, 65, 76]⟩⟩
noncomputable def t73 : Str := ⟨⟨[73, 83, 69, 79, 70]⟩⟩
noncomputable def t74 : Str := ⟨⟨[95, 108, 97, 119, 95, 116, 114, 101, 101]⟩⟩
noncomputable def t75 : Str := ⟨⟨[95, 108, 97, 119, 95, 116, 101, 120, 116]⟩⟩
noncomputable def t76 : Str := ⟨⟨[95, 108, 97, 119, 95, 112, 105, 101, 99, 101]⟩⟩
noncomputable def t77 : Str := ⟨⟨[95, 108, 97, 119, 95, 114, 101, 97, 100]⟩⟩
noncomputable def t78 : Str := ⟨⟨[95, 108, 97, 119, 95, 116, 117, 114, 110, 101, 100]⟩⟩
noncomputable def t79 : Str := ⟨⟨[95, 108, 97, 119, 95, 119, 104, 111, 108, 101]⟩⟩
noncomputable def t80 : Str := ⟨⟨[95, 108, 97, 119, 95, 119, 97, 121]⟩⟩
noncomputable def t81 : Str := ⟨⟨[95, 108, 97, 119, 95, 104, 101, 105, 103, 104, 116, 115]⟩⟩
noncomputable def t82 : Str := ⟨⟨[95, 108, 97, 119, 95, 117, 110, 100, 111, 110, 101]⟩⟩
noncomputable def t83 : Str := ⟨⟨[95, 108, 97, 119, 95, 110, 101, 101, 100]⟩⟩
noncomputable def t84 : Str := ⟨⟨[95, 108, 97, 119, 95, 108, 105, 110, 101, 115]⟩⟩
noncomputable def t85 : Str := ⟨⟨[95, 108, 97, 119, 95, 115, 116, 101, 112, 115]⟩⟩
noncomputable def t86 : Str := ⟨⟨[95, 108, 97, 119, 95, 112, 97, 99, 107, 101, 100]⟩⟩
noncomputable def t87 : Str := ⟨⟨[95, 108, 97, 119, 95, 115, 121, 109, 98, 111, 108]⟩⟩
noncomputable def t88 : Str := ⟨⟨[108, 97, 119]⟩⟩
noncomputable def t89 : Str := ⟨⟨[60, 109, 111, 100, 117, 108, 101, 62]⟩⟩
noncomputable def t90 : Str := ⟨⟨[95, 95, 109, 97, 105, 110, 95, 95]⟩⟩
noncomputable def t91 : Str := ⟨⟨[107]⟩⟩
noncomputable def t92 : Str := ⟨⟨[97]⟩⟩
noncomputable def t93 : Str := ⟨⟨[98]⟩⟩
noncomputable def t94 : Str := ⟨⟨[110]⟩⟩
noncomputable def t95 : Str := ⟨⟨[112, 97, 100]⟩⟩
noncomputable def t96 : Str := ⟨⟨[104, 97, 108, 102, 95, 110]⟩⟩
noncomputable def t97 : Str := ⟨⟨[109, 97, 115, 107]⟩⟩
noncomputable def t98 : Str := ⟨⟨[98, 49]⟩⟩
noncomputable def t99 : Str := ⟨⟨[98, 50]⟩⟩
noncomputable def t100 : Str := ⟨⟨[113, 49]⟩⟩
noncomputable def t101 : Str := ⟨⟨[114]⟩⟩
noncomputable def t102 : Str := ⟨⟨[113, 50]⟩⟩
noncomputable def t103 : Str := ⟨⟨[99, 112, 121, 51, 49, 51, 46, 95, 112, 121, 108, 111, 110, 103]⟩⟩
noncomputable def t104 : Str := ⟨⟨[97, 49, 50]⟩⟩
noncomputable def t105 : Str := ⟨⟨[97, 51]⟩⟩
noncomputable def t106 : Str := ⟨⟨[113]⟩⟩
noncomputable def t107 : Str := ⟨⟨[97, 95, 100, 105, 103, 105, 116, 115]⟩⟩
noncomputable def t108 : Str := ⟨⟨[105, 110, 110, 101, 114]⟩⟩
noncomputable def t109 : Str := ⟨⟨[100, 105, 103, 105, 116, 115]⟩⟩
noncomputable def t110 : Str := ⟨⟨[113, 95, 100, 105, 103, 105, 116, 115]⟩⟩
noncomputable def t111 : Str := ⟨⟨[97, 95, 100, 105, 103, 105, 116]⟩⟩
noncomputable def t112 : Str := ⟨⟨[113, 95, 100, 105, 103, 105, 116]⟩⟩
noncomputable def t113 : Str := ⟨⟨[95, 95, 109, 111, 100, 117, 108, 101, 95, 95]⟩⟩
noncomputable def t114 : Str := ⟨⟨[99, 112, 121, 51, 49, 51, 46, 116, 97, 98, 110, 97, 110, 110, 121]⟩⟩
noncomputable def t115 : Str := ⟨⟨[95, 95, 113, 117, 97, 108, 110, 97, 109, 101, 95, 95]⟩⟩
noncomputable def t116 : Str := ⟨⟨[95, 95, 102, 105, 114, 115, 116, 108, 105, 110, 101, 110, 111, 95, 95]⟩⟩
noncomputable def t117 : Str := ⟨⟨[83]⟩⟩
noncomputable def t118 : Str := ⟨⟨[32]⟩⟩
noncomputable def t119 : Str := ⟨⟨[84]⟩⟩
noncomputable def t120 : Str := ⟨⟨[9]⟩⟩
noncomputable def t121 : Str := ⟨⟨[95, 95, 105, 110, 105, 116, 95, 95]⟩⟩
noncomputable def t122 : Str := ⟨⟨[108, 111, 110, 103, 101, 115, 116, 95, 114, 117, 110, 95, 111, 102, 95, 115, 112, 97, 99, 101, 115]⟩⟩
noncomputable def t123 : Str := ⟨⟨[105, 110, 100, 101, 110, 116, 95, 108, 101, 118, 101, 108]⟩⟩
noncomputable def t124 : Str := ⟨⟨[101, 113, 117, 97, 108]⟩⟩
noncomputable def t125 : Str := ⟨⟨[110, 111, 116, 95, 101, 113, 117, 97, 108, 95, 119, 105, 116, 110, 101, 115, 115]⟩⟩
noncomputable def t126 : Str := ⟨⟨[108, 101, 115, 115]⟩⟩
noncomputable def t127 : Str := ⟨⟨[110, 111, 116, 95, 108, 101, 115, 115, 95, 119, 105, 116, 110, 101, 115, 115]⟩⟩
noncomputable def t128 : Str := ⟨⟨[95, 95, 115, 116, 97, 116, 105, 99, 95, 97, 116, 116, 114, 105, 98, 117, 116, 101, 115, 95, 95]⟩⟩
noncomputable def t129 : Str := ⟨⟨[115, 101, 108, 102]⟩⟩
noncomputable def t130 : Str := ⟨⟨[119, 115]⟩⟩
noncomputable def t131 : Str := ⟨⟨[99, 111, 117, 110, 116]⟩⟩
noncomputable def t132 : Str := ⟨⟨[110, 116]⟩⟩
noncomputable def t133 : Str := ⟨⟨[99, 104]⟩⟩
noncomputable def t134 : Str := ⟨⟨[87, 104, 105, 116, 101, 115, 112, 97, 99, 101, 46, 95, 95, 105, 110, 105, 116, 95, 95]⟩⟩
noncomputable def t135 : Str := ⟨⟨[87, 104, 105, 116, 101, 115, 112, 97, 99, 101, 46, 108, 111, 110, 103, 101, 115, 116, 95, 114, 117, 110, 95, 111, 102, 95, 115, 112, 97, 99, 101, 115]⟩⟩
noncomputable def t136 : Str := ⟨⟨[116, 97, 98, 115, 105, 122, 101]⟩⟩
noncomputable def t137 : Str := ⟨⟨[116, 114, 97, 105, 108, 105, 110, 103]⟩⟩
noncomputable def t138 : Str := ⟨⟨[105, 108]⟩⟩
noncomputable def t139 : Str := ⟨⟨[105]⟩⟩
noncomputable def t140 : Str := ⟨⟨[87, 104, 105, 116, 101, 115, 112, 97, 99, 101, 46, 105, 110, 100, 101, 110, 116, 95, 108, 101, 118, 101, 108]⟩⟩
noncomputable def t141 : Str := ⟨⟨[111, 116, 104, 101, 114]⟩⟩
noncomputable def t142 : Str := ⟨⟨[87, 104, 105, 116, 101, 115, 112, 97, 99, 101, 46, 101, 113, 117, 97, 108]⟩⟩
noncomputable def t143 : Str := ⟨⟨[87, 104, 105, 116, 101, 115, 112, 97, 99, 101, 46, 110, 111, 116, 95, 101, 113, 117, 97, 108, 95, 119, 105, 116, 110, 101, 115, 115]⟩⟩
noncomputable def t144 : Str := ⟨⟨[87, 104, 105, 116, 101, 115, 112, 97, 99, 101, 46, 108, 101, 115, 115]⟩⟩
noncomputable def t145 : Str := ⟨⟨[87, 104, 105, 116, 101, 115, 112, 97, 99, 101, 46, 110, 111, 116, 95, 108, 101, 115, 115, 95, 119, 105, 116, 110, 101, 115, 115]⟩⟩
noncomputable def t146 : Str := ⟨⟨[105, 115, 95, 115, 105, 109, 112, 108, 101]⟩⟩
noncomputable def t147 : Str := ⟨⟨[110, 111, 114, 109]⟩⟩
noncomputable def t148 : Str := ⟨⟨[114, 97, 119]⟩⟩
noncomputable def t149 : Str := ⟨⟨[95, 95, 100, 105, 99, 116, 95, 95]⟩⟩
noncomputable def t150 : Str := ⟨⟨[95, 95, 119, 101, 97, 107, 114, 101, 102, 95, 95]⟩⟩
noncomputable def t151 : Str := ⟨⟨[33]⟩⟩
noncomputable def t152 : Str := ⟨⟨[33, 61]⟩⟩
noncomputable def t153 : Str := ⟨⟨[37]⟩⟩
noncomputable def t154 : Str := ⟨⟨[37, 61]⟩⟩
noncomputable def t155 : Str := ⟨⟨[38]⟩⟩
noncomputable def t156 : Str := ⟨⟨[38, 61]⟩⟩
noncomputable def t157 : Str := ⟨⟨[40]⟩⟩
noncomputable def t158 : Str := ⟨⟨[41]⟩⟩
noncomputable def t159 : Str := ⟨⟨[42]⟩⟩
noncomputable def t160 : Str := ⟨⟨[42, 42]⟩⟩
noncomputable def t161 : Str := ⟨⟨[42, 42, 61]⟩⟩
noncomputable def t162 : Str := ⟨⟨[42, 61]⟩⟩
noncomputable def t163 : Str := ⟨⟨[43]⟩⟩
noncomputable def t164 : Str := ⟨⟨[43, 61]⟩⟩
noncomputable def t165 : Str := ⟨⟨[44]⟩⟩
noncomputable def t166 : Str := ⟨⟨[45]⟩⟩
noncomputable def t167 : Str := ⟨⟨[45, 61]⟩⟩
noncomputable def t168 : Str := ⟨⟨[45, 62]⟩⟩
noncomputable def t169 : Str := ⟨⟨[46]⟩⟩
noncomputable def t170 : Str := ⟨⟨[46, 46, 46]⟩⟩
noncomputable def t171 : Str := ⟨⟨[47]⟩⟩
noncomputable def t172 : Str := ⟨⟨[47, 47]⟩⟩
noncomputable def t173 : Str := ⟨⟨[47, 47, 61]⟩⟩
noncomputable def t174 : Str := ⟨⟨[47, 61]⟩⟩
noncomputable def t175 : Str := ⟨⟨[58]⟩⟩
noncomputable def t176 : Str := ⟨⟨[58, 61]⟩⟩
noncomputable def t177 : Str := ⟨⟨[59]⟩⟩
noncomputable def t178 : Str := ⟨⟨[60]⟩⟩
noncomputable def t179 : Str := ⟨⟨[60, 60]⟩⟩
noncomputable def t180 : Str := ⟨⟨[60, 60, 61]⟩⟩
noncomputable def t181 : Str := ⟨⟨[60, 61]⟩⟩
noncomputable def t182 : Str := ⟨⟨[61]⟩⟩
noncomputable def t183 : Str := ⟨⟨[61, 61]⟩⟩
noncomputable def t184 : Str := ⟨⟨[62]⟩⟩
noncomputable def t185 : Str := ⟨⟨[62, 61]⟩⟩
noncomputable def t186 : Str := ⟨⟨[62, 62]⟩⟩
noncomputable def t187 : Str := ⟨⟨[62, 62, 61]⟩⟩
noncomputable def t188 : Str := ⟨⟨[64]⟩⟩
noncomputable def t189 : Str := ⟨⟨[64, 61]⟩⟩
noncomputable def t190 : Str := ⟨⟨[91]⟩⟩
noncomputable def t191 : Str := ⟨⟨[93]⟩⟩
noncomputable def t192 : Str := ⟨⟨[94]⟩⟩
noncomputable def t193 : Str := ⟨⟨[94, 61]⟩⟩
noncomputable def t194 : Str := ⟨⟨[123]⟩⟩
noncomputable def t195 : Str := ⟨⟨[124]⟩⟩
noncomputable def t196 : Str := ⟨⟨[124, 61]⟩⟩
noncomputable def t197 : Str := ⟨⟨[125]⟩⟩
noncomputable def t198 : Str := ⟨⟨[126]⟩⟩
noncomputable def t199 : Str := ⟨⟨[120]⟩⟩
noncomputable def t200 : Str := ⟨⟨[99, 112, 121, 51, 49, 51, 46, 116, 111, 107, 101, 110]⟩⟩
noncomputable def t201 : Str := ⟨⟨[100, 101, 97, 108]⟩⟩
noncomputable def t202 : Str := ⟨⟨[112, 108, 97, 99, 101]⟩⟩
noncomputable def t203 : Str := ⟨⟨[115, 105, 122, 101]⟩⟩
noncomputable def t204 : Str := ⟨⟨[107, 105, 110, 100]⟩⟩
noncomputable def t205 : Str := ⟨⟨[116, 114, 101, 101]⟩⟩
noncomputable def t206 : Str := ⟨⟨[114, 111, 111, 109]⟩⟩
noncomputable def t207 : Str := ⟨⟨[112, 97, 114, 116]⟩⟩
noncomputable def t208 : Str := ⟨⟨[116, 101, 120, 116]⟩⟩
noncomputable def t209 : Str := ⟨⟨[119, 105, 100, 116, 104]⟩⟩
noncomputable def t210 : Str := ⟨⟨[119, 97, 121]⟩⟩
noncomputable def t211 : Str := ⟨⟨[116, 117, 114, 110]⟩⟩
noncomputable def t212 : Str := ⟨⟨[115, 116, 101, 112, 115]⟩⟩
noncomputable def t213 : Str := ⟨⟨[104, 101, 105, 103, 104, 116, 115]⟩⟩
noncomputable def t214 : Str := ⟨⟨[115, 116, 101, 112]⟩⟩
noncomputable def t215 : Str := ⟨⟨[109, 97, 114, 103, 105, 110]⟩⟩
noncomputable def t216 : Str := ⟨⟨[115, 105, 103, 110, 115]⟩⟩
noncomputable def t217 : Str := ⟨⟨[108, 105, 110, 101, 115]⟩⟩
noncomputable def t218 : Str := ⟨⟨[108, 101, 102, 116]⟩⟩
noncomputable def t219 : Str := ⟨⟨[108, 101, 97, 100]⟩⟩
noncomputable def t220 : Str := ⟨⟨[115, 101, 101, 100]⟩⟩
noncomputable def t221 : Str := ⟨⟨[100, 101, 112, 116, 104]⟩⟩
noncomputable def t222 : Str := ⟨⟨[108, 105, 110, 101]⟩⟩
noncomputable def t223 : Str := ⟨⟨[97, 102, 116, 101, 114]⟩⟩
noncomputable def t224 : Str := ⟨⟨[114, 101, 115, 116]⟩⟩
noncomputable def o3 (P : Params) : Obj := (ob (.type y14018661285674007319x4) (.dict #[(en P t0 165 (.str t1 594)), (en P t2 166 .none), (en P t3 167 .none), (en P t4 168 (.builtin y7097527257260152453x26)), (en P t5 169 .none), (en P t6 170 (.ref 6)), (en P t7 171 (.ref 4)), (en P t8 173 (.str t9 172)), (en P t10 174 .none), (en P t11 193 (.ref 21)), (en P t12 197 (.int 4000 196)), (en P t13 214 (.ref 28)), (en P t14 228 (.ref 35)), (en P t15 239 (.ref 42)), (en P t16 250 (.ref 49)), (en P t17 265 (.ref 56)), (en P t18 275 (.ref 63)), (en P t19 373 (.ref 125)), (en P t20 377 (.int 0 376)), (en P t21 379 (.int 7 378)), (en P t22 381 (.int 8 380)), (en P t23 383 (.int 9 382)), (en P t24 385 (.int 10 384)), (en P t25 387 (.int 11 386)), (en P t26 389 (.int 12 388)), (en P t27 391 (.int 13 390)), (en P t28 393 (.int 14 392)), (en P t29 395 (.int 15 394)), (en P t30 397 (.int 16 396)), (en P t31 399 (.int 17 398)), (en P t32 401 (.int 18 400)), (en P t33 403 (.int 19 402)), (en P t34 405 (.int 20 404)), (en P t35 407 (.int 21 406)), (en P t36 409 (.int 22 408)), (en P t37 411 (.int 23 410)), (en P t38 413 (.int 24 412)), (en P t39 415 (.int 25 414)), (en P t40 417 (.int 26 416)), (en P t41 419 (.int 27 418)), (en P t42 421 (.int 28 420)), (en P t43 423 (.int 29 422)), (en P t44 425 (.int 30 424)), (en P t45 427 (.int 31 426)), (en P t46 429 (.int 32 428)), (en P t47 431 (.int 33 430)), (en P t48 433 (.int 34 432)), (en P t49 435 (.int 35 434)), (en P t50 437 (.int 36 436)), (en P t51 439 (.int 37 438)), (en P t52 441 (.int 38 440)), (en P t53 443 (.int 39 442)), (en P t54 445 (.int 40 444)), (en P t55 447 (.int 41 446)), (en P t56 449 (.int 42 448)), (en P t57 451 (.int 43 450)), (en P t58 453 (.int 44 452)), (en P t59 455 (.int 45 454)), (en P t60 457 (.int 46 456)), (en P t61 459 (.int 47 458)), (en P t62 461 (.int 48 460)), (en P t63 463 (.int 49 462)), (en P t64 465 (.int 50 464)), (en P t65 467 (.int 51 466)), (en P t66 469 (.int 52 468)), (en P t67 471 (.int 53 470)), (en P t68 473 (.int 54 472)), (en P t69 475 (.int 256 474)), (en P t70 572 (.ref 130)), (en P t71 579 (.ref 139)), (en P t72 586 (.ref 146)), (en P t73 593 (.ref 153)), (en P t74 608 (.ref 160)), (en P t75 614 (.ref 165)), (en P t76 623 (.ref 172)), (en P t77 629 (.ref 177)), (en P t78 635 (.ref 182)), (en P t79 643 (.ref 189)), (en P t80 649 (.ref 194)), (en P t81 658 (.ref 201)), (en P t82 664 (.ref 206)), (en P t83 670 (.ref 211)), (en P t84 688 (.ref 218)), (en P t85 703 (.ref 225)), (en P t86 709 (.ref 230)), (en P t87 715 (.ref 235)), (en P t88 721 (.ref 240))] 87))
noncomputable def o11 (P : Params) : Obj := (ob (.type y2766695959194262286x5) (.seq #[] 0))
noncomputable def o12 (P : Params) : Obj := (ob .none (.fields #[(.int 1 0), (.int 0 0), (.ref 20), (.int 6 0), (.int 0 0), (.ref 27), (.int 22 0), (.int 0 0), (.ref 34), (.int 32 0), (.int 0 0), (.ref 41), (.int 48 0), (.int 0 0), (.ref 48), (.int 57 0), (.int 0 0), (.ref 55), (.int 68 0), (.int 0 0), (.ref 62), (.int 80 0), (.int 0 0), (.ref 69), (.int 179 0), (.int 0 0), (.ref 138), (.int 181 0), (.int 0 0), (.ref 145), (.int 183 0), (.int 0 0), (.ref 152), (.int 186 0), (.int 0 0), (.ref 159), (.int 194 0), (.int 0 0), (.ref 164), (.int 197 0), (.int 0 0), (.ref 171), (.int 202 0), (.int 0 0), (.ref 176), (.int 218 0), (.int 0 0), (.ref 181), (.int 220 0), (.int 0 0), (.ref 188), (.int 224 0), (.int 0 0), (.ref 193), (.int 238 0), (.int 0 0), (.ref 200), (.int 243 0), (.int 0 0), (.ref 205), (.int 261 0), (.int 0 0), (.ref 210), (.int 264 0), (.int 0 0), (.ref 217), (.int 274 0), (.int 0 0), (.ref 224), (.int 282 0), (.int 0 0), (.ref 229), (.int 286 0), (.int 0 0), (.ref 234), (.int 291 0), (.int 0 0), (.ref 239)]))
noncomputable def o13 (P : Params) : Obj := (cob (.str t89 182) (.str t89 183) (.str t9 184) (.int 1 0) (.int 0 0) (.int 0 0) (.int 0 0) (.int 0 0) (.ref 11) (.bool false) (.int 181 0) (.ref 12) .none .none .none .none (.int 185 0) (.int 1 0) (.str t9 186))
noncomputable def o14 (P : Params) : Obj := (Obj.mk (.type y658472552662922059x5) none .plain #[(some (.ref 13)), (some (.ref 3)), (some (.ref 3)), none, (some (.str t90 164)), none, (some (.ref 0))])
noncomputable def o15 (P : Params) : Obj := (ob (.type y2766695959194262286x5) (.seq #[] 0))
noncomputable def o16 (P : Params) : Obj := (ob .none (.fields #[]))
noncomputable def o17 (P : Params) : Obj := (ob (.type y2766695959194262286x5) (.seq #[(.str t91 190)] 0))
noncomputable def o18 (P : Params) : Obj := (ob (.type y2766695959194262286x5) (.seq #[] 0))
noncomputable def o19 (P : Params) : Obj := (fob .none t11 t11 (fd 0).params (.stmts (fd 0).body) (fd 0).scope 0 [] .none .none .none .none none .none .none 0)
noncomputable def o20 (P : Params) : Obj := (cob (.str t11 187) (.str t11 188) (.str t9 189) (.int 1 0) (.int 1 0) (.int 0 0) (.int 0 0) (.int 3 0) (.ref 15) (.bool true) (.int 181 0) (.ref 16) .none (.ref 17) (.ref 18) (.ref 19) (.int 191 0) (.int 1 0) (.str t9 192))
noncomputable def o21 (P : Params) : Obj := (fob (.type y7174869446012820540x8) t11 t11 (fd 0).params (.stmts (fd 0).body) (fd 0).scope 3 [] .none .none .none (.str t90 164) none (.ref 20) .none 0)
noncomputable def o22 (P : Params) : Obj := (ob (.type y2766695959194262286x5) (.seq #[] 0))
noncomputable def o23 (P : Params) : Obj := (ob .none (.fields #[]))
noncomputable def o24 (P : Params) : Obj := (ob (.type y2766695959194262286x5) (.seq #[(.str t92 201), (.str t93 202), (.str t94 203), (.str t95 204), (.str t96 205), (.str t97 206), (.str t98 207), (.str t99 208), (.str t100 209), (.str t101 210), (.str t102 211)] 0))
noncomputable def o25 (P : Params) : Obj := (ob (.type y2766695959194262286x5) (.seq #[] 0))
noncomputable def o26 (P : Params) : Obj := (fob .none t13 t13 (fd 3).params (.stmts (fd 3).body) (fd 3).scope 0 [] .none .none .none .none none .none .none 0)
noncomputable def o27 (P : Params) : Obj := (cob (.str t13 198) (.str t13 199) (.str t9 200) (.int 6 0) (.int 3 0) (.int 0 0) (.int 0 0) (.int 3 0) (.ref 22) (.bool true) (.int 181 0) (.ref 23) .none (.ref 24) (.ref 25) (.ref 26) (.int 212 0) (.int 6 0) (.str t9 213))
noncomputable def o28 (P : Params) : Obj := (fob (.type y7174869446012820540x8) t13 t13 (fd 3).params (.stmts (fd 3).body) (fd 3).scope 3 [] .none .none .none (.str t103 194) none (.ref 27) .none 0)
noncomputable def o29 (P : Params) : Obj := (ob (.type y2766695959194262286x5) (.seq #[] 0))
noncomputable def o30 (P : Params) : Obj := (ob .none (.fields #[]))
noncomputable def o31 (P : Params) : Obj := (ob (.type y2766695959194262286x5) (.seq #[(.str t104 218), (.str t105 219), (.str t93 220), (.str t98 221), (.str t99 222), (.str t94 223), (.str t106 224), (.str t101 225)] 0))
noncomputable def o32 (P : Params) : Obj := (ob (.type y2766695959194262286x5) (.seq #[] 0))
noncomputable def o33 (P : Params) : Obj := (fob .none t14 t14 (fd 4).params (.stmts (fd 4).body) (fd 4).scope 0 [] .none .none .none .none none .none .none 0)
noncomputable def o34 (P : Params) : Obj := (cob (.str t14 215) (.str t14 216) (.str t9 217) (.int 22 0) (.int 6 0) (.int 0 0) (.int 0 0) (.int 3 0) (.ref 29) (.bool true) (.int 181 0) (.ref 30) .none (.ref 31) (.ref 32) (.ref 33) (.int 226 0) (.int 22 0) (.str t9 227))
noncomputable def o35 (P : Params) : Obj := (fob (.type y7174869446012820540x8) t14 t14 (fd 4).params (.stmts (fd 4).body) (fd 4).scope 3 [] .none .none .none (.str t103 194) none (.ref 34) .none 0)
noncomputable def o36 (P : Params) : Obj := (ob (.type y2766695959194262286x5) (.seq #[] 0))
noncomputable def o37 (P : Params) : Obj := (ob .none (.fields #[]))
noncomputable def o38 (P : Params) : Obj := (ob (.type y2766695959194262286x5) (.seq #[(.str t92 232), (.str t94 233)] 0))
noncomputable def o39 (P : Params) : Obj := (ob (.type y2766695959194262286x5) (.seq #[(.str t94 234), (.str t107 235), (.str t108 236)] 0))
noncomputable def o40 (P : Params) : Obj := (fob .none t15 t15 (fd 5).params (.stmts (fd 5).body) (fd 5).scope 0 [] .none .none .none .none none .none .none 0)
noncomputable def o41 (P : Params) : Obj := (cob (.str t15 229) (.str t15 230) (.str t9 231) (.int 32 0) (.int 2 0) (.int 0 0) (.int 0 0) (.int 3 0) (.ref 36) (.bool true) (.int 181 0) (.ref 37) .none (.ref 38) (.ref 39) (.ref 40) (.int 237 0) (.int 32 0) (.str t9 238))
noncomputable def o42 (P : Params) : Obj := (fob (.type y7174869446012820540x8) t15 t15 (fd 5).params (.stmts (fd 5).body) (fd 5).scope 3 [] .none .none .none (.str t103 194) none (.ref 41) .none 0)
noncomputable def o43 (P : Params) : Obj := (ob (.type y2766695959194262286x5) (.seq #[] 0))
noncomputable def o44 (P : Params) : Obj := (ob .none (.fields #[]))
noncomputable def o45 (P : Params) : Obj := (ob (.type y2766695959194262286x5) (.seq #[(.str t109 243), (.str t94 244)] 0))
noncomputable def o46 (P : Params) : Obj := (ob (.type y2766695959194262286x5) (.seq #[(.str t109 245), (.str t94 246), (.str t108 247)] 0))
noncomputable def o47 (P : Params) : Obj := (fob .none t16 t16 (fd 6).params (.stmts (fd 6).body) (fd 6).scope 0 [] .none .none .none .none none .none .none 0)
noncomputable def o48 (P : Params) : Obj := (cob (.str t16 240) (.str t16 241) (.str t9 242) (.int 48 0) (.int 2 0) (.int 0 0) (.int 0 0) (.int 3 0) (.ref 43) (.bool true) (.int 181 0) (.ref 44) .none (.ref 45) (.ref 46) (.ref 47) (.int 248 0) (.int 48 0) (.str t9 249))
noncomputable def o49 (P : Params) : Obj := (fob (.type y7174869446012820540x8) t16 t16 (fd 6).params (.stmts (fd 6).body) (fd 6).scope 3 [] .none .none .none (.str t103 194) none (.ref 48) .none 0)
noncomputable def o50 (P : Params) : Obj := (ob (.type y2766695959194262286x5) (.seq #[] 0))
noncomputable def o51 (P : Params) : Obj := (ob .none (.fields #[]))
noncomputable def o52 (P : Params) : Obj := (ob (.type y2766695959194262286x5) (.seq #[(.str t92 254), (.str t93 255), (.str t94 256), (.str t107 257), (.str t101 258), (.str t110 259), (.str t111 260), (.str t112 261), (.str t106 262)] 0))
noncomputable def o53 (P : Params) : Obj := (ob (.type y2766695959194262286x5) (.seq #[] 0))
noncomputable def o54 (P : Params) : Obj := (fob .none t17 t17 (fd 7).params (.stmts (fd 7).body) (fd 7).scope 0 [] .none .none .none .none none .none .none 0)
noncomputable def o55 (P : Params) : Obj := (cob (.str t17 251) (.str t17 252) (.str t9 253) (.int 57 0) (.int 2 0) (.int 0 0) (.int 0 0) (.int 3 0) (.ref 50) (.bool true) (.int 181 0) (.ref 51) .none (.ref 52) (.ref 53) (.ref 54) (.int 263 0) (.int 57 0) (.str t9 264))
noncomputable def o56 (P : Params) : Obj := (fob (.type y7174869446012820540x8) t17 t17 (fd 7).params (.stmts (fd 7).body) (fd 7).scope 3 [] .none .none .none (.str t103 194) none (.ref 55) .none 0)
noncomputable def o57 (P : Params) : Obj := (ob (.type y2766695959194262286x5) (.seq #[] 0))
noncomputable def o58 (P : Params) : Obj := (ob .none (.fields #[]))
noncomputable def o59 (P : Params) : Obj := (ob (.type y2766695959194262286x5) (.seq #[(.str t92 269), (.str t93 270), (.str t106 271), (.str t101 272)] 0))
noncomputable def o60 (P : Params) : Obj := (ob (.type y2766695959194262286x5) (.seq #[] 0))
noncomputable def o61 (P : Params) : Obj := (fob .none t18 t18 (fd 8).params (.stmts (fd 8).body) (fd 8).scope 0 [] .none .none .none .none none .none .none 0)
noncomputable def o62 (P : Params) : Obj := (cob (.str t18 266) (.str t18 267) (.str t9 268) (.int 68 0) (.int 2 0) (.int 0 0) (.int 0 0) (.int 3 0) (.ref 57) (.bool true) (.int 181 0) (.ref 58) .none (.ref 59) (.ref 60) (.ref 61) (.int 273 0) (.int 68 0) (.str t9 274))
noncomputable def o63 (P : Params) : Obj := (fob (.type y7174869446012820540x8) t18 t18 (fd 8).params (.stmts (fd 8).body) (fd 8).scope 3 [] .none .none .none (.str t103 194) none (.ref 62) .none 0)
noncomputable def o64 (P : Params) : Obj := (ob (.type y2766695959194262286x5) (.seq #[] 0))
noncomputable def o65 (P : Params) : Obj := (ob (.type y11030030927630378310x26) (.fields #[(.builtin y10062305145149207511x16), (.type y17162191345867700912x4)]))
noncomputable def o66 (P : Params) : Obj := (ob (.type y14018661285674007319x4) (.dict #[(en P t113 285 (.str t114 276)), (en P t115 287 (.str t19 286)), (en P t116 289 (.int 80 288)), (en P t117 293 (.str t118 291)), (en P t119 294 (.str t120 292)), (en P t121 309 (.ref 80)), (en P t122 316 (.ref 87)), (en P t123 328 (.ref 94)), (en P t124 336 (.ref 101)), (en P t125 344 (.ref 108)), (en P t126 352 (.ref 115)), (en P t127 360 (.ref 122)), (en P t128 366 (.ref 123))] 13))
noncomputable def o67 (P : Params) : Obj := (ob (.type y2766695959194262286x5) (.seq #[] 0))
noncomputable def o68 (P : Params) : Obj := (ob .none (.fields #[(.int 83 0), (.int 4 0), (.ref 79), (.int 106 0), (.int 4 0), (.ref 86), (.int 109 0), (.int 4 0), (.ref 93), (.int 116 0), (.int 4 0), (.ref 100), (.int 119 0), (.int 4 0), (.ref 107), (.int 122 0), (.int 4 0), (.ref 114), (.int 125 0), (.int 4 0), (.ref 121)]))
noncomputable def o69 (P : Params) : Obj := (cob (.str t19 280) (.str t19 281) (.str t9 282) (.int 80 0) (.int 0 0) (.int 0 0) (.int 0 0) (.int 0 0) (.ref 67) (.bool false) (.int 181 0) (.ref 68) .none .none .none .none (.int 283 0) (.int 80 0) (.str t9 284))
noncomputable def o70 (P : Params) : Obj := (Obj.mk (.type y658472552662922059x5) none .plain #[(some (.ref 69)), (some (.ref 3)), (some (.ref 66)), none, (some (.str t114 276)), none, (some (.ref 0))])
noncomputable def o71 (P : Params) : Obj := (ob (.type y13500813778147066322x18) (.fields #[.none, (.int 2 0)]))
noncomputable def o72 (P : Params) : Obj := (ob (.type y2766695959194262286x5) (.seq #[] 0))
noncomputable def o73 (P : Params) : Obj := (ob (.type y5991306692159431302x13) (.fields #[(.ref 72), .none, .none, .none, (.bool false), .none]))
noncomputable def o74 (P : Params) : Obj := (ob (.type y2766695959194262286x5) (.seq #[] 0))
noncomputable def o75 (P : Params) : Obj := (ob .none (.fields #[]))
noncomputable def o76 (P : Params) : Obj := (ob (.type y2766695959194262286x5) (.seq #[(.str t129 298), (.str t130 299), (.str t117 300), (.str t119 301), (.str t131 302), (.str t93 303), (.str t94 304), (.str t132 305), (.str t133 306)] 0))
noncomputable def o77 (P : Params) : Obj := (ob (.type y2766695959194262286x5) (.seq #[] 0))
noncomputable def o78 (P : Params) : Obj := (fob .none t121 t134 (md 1).params (.stmts (md 1).body) (md 1).scope 0 [] .none .none .none .none none .none .none 0)
noncomputable def o79 (P : Params) : Obj := (cob (.str t121 295) (.str t134 296) (.str t9 297) (.int 83 0) (.int 2 0) (.int 0 0) (.int 0 0) (.int 3 0) (.ref 74) (.bool true) (.int 181 0) (.ref 75) .none (.ref 76) (.ref 77) (.ref 78) (.int 307 0) (.int 83 0) (.str t9 308))
noncomputable def o80 (P : Params) : Obj := (fob (.type y7174869446012820540x8) t121 t134 (md 1).params (.stmts (md 1).body) (md 1).scope 3 [] .none .none .none (.str t114 276) none (.ref 79) .none 0)
noncomputable def o81 (P : Params) : Obj := (ob (.type y2766695959194262286x5) (.seq #[] 0))
noncomputable def o82 (P : Params) : Obj := (ob .none (.fields #[]))
noncomputable def o83 (P : Params) : Obj := (ob (.type y2766695959194262286x5) (.seq #[(.str t129 313)] 0))
noncomputable def o84 (P : Params) : Obj := (ob (.type y2766695959194262286x5) (.seq #[] 0))
noncomputable def o85 (P : Params) : Obj := (fob .none t122 t135 (md 2).params (.stmts (md 2).body) (md 2).scope 0 [] .none .none .none .none none .none .none 0)
noncomputable def o86 (P : Params) : Obj := (cob (.str t122 310) (.str t135 311) (.str t9 312) (.int 106 0) (.int 1 0) (.int 0 0) (.int 0 0) (.int 3 0) (.ref 81) (.bool true) (.int 181 0) (.ref 82) .none (.ref 83) (.ref 84) (.ref 85) (.int 314 0) (.int 106 0) (.str t9 315))
noncomputable def o87 (P : Params) : Obj := (fob (.type y7174869446012820540x8) t122 t135 (md 2).params (.stmts (md 2).body) (md 2).scope 3 [] .none .none .none (.str t114 276) none (.ref 86) .none 0)
noncomputable def o88 (P : Params) : Obj := (ob (.type y2766695959194262286x5) (.seq #[] 0))
noncomputable def o89 (P : Params) : Obj := (ob .none (.fields #[]))
noncomputable def o90 (P : Params) : Obj := (ob (.type y2766695959194262286x5) (.seq #[(.str t129 320), (.str t136 321), (.str t131 322), (.str t137 323), (.str t138 324), (.str t139 325)] 0))
noncomputable def o91 (P : Params) : Obj := (ob (.type y2766695959194262286x5) (.seq #[] 0))
noncomputable def o92 (P : Params) : Obj := (fob .none t123 t140 (md 3).params (.stmts (md 3).body) (md 3).scope 0 [] .none .none .none .none none .none .none 0)
noncomputable def o93 (P : Params) : Obj := (cob (.str t123 317) (.str t140 318) (.str t9 319) (.int 109 0) (.int 2 0) (.int 0 0) (.int 0 0) (.int 3 0) (.ref 88) (.bool true) (.int 181 0) (.ref 89) .none (.ref 90) (.ref 91) (.ref 92) (.int 326 0) (.int 109 0) (.str t9 327))
noncomputable def o94 (P : Params) : Obj := (fob (.type y7174869446012820540x8) t123 t140 (md 3).params (.stmts (md 3).body) (md 3).scope 3 [] .none .none .none (.str t114 276) none (.ref 93) .none 0)
noncomputable def o95 (P : Params) : Obj := (ob (.type y2766695959194262286x5) (.seq #[] 0))
noncomputable def o96 (P : Params) : Obj := (ob .none (.fields #[]))
noncomputable def o97 (P : Params) : Obj := (ob (.type y2766695959194262286x5) (.seq #[(.str t129 332), (.str t141 333)] 0))
noncomputable def o98 (P : Params) : Obj := (ob (.type y2766695959194262286x5) (.seq #[] 0))
noncomputable def o99 (P : Params) : Obj := (fob .none t124 t142 (md 4).params (.stmts (md 4).body) (md 7).scope 0 [] .none .none .none .none none .none .none 0)
noncomputable def o100 (P : Params) : Obj := (cob (.str t124 329) (.str t142 330) (.str t9 331) (.int 116 0) (.int 2 0) (.int 0 0) (.int 0 0) (.int 3 0) (.ref 95) (.bool true) (.int 181 0) (.ref 96) .none (.ref 97) (.ref 98) (.ref 99) (.int 334 0) (.int 116 0) (.str t9 335))
noncomputable def o101 (P : Params) : Obj := (fob (.type y7174869446012820540x8) t124 t142 (md 4).params (.stmts (md 4).body) (md 7).scope 3 [] .none .none .none (.str t114 276) none (.ref 100) .none 0)
noncomputable def o102 (P : Params) : Obj := (ob (.type y2766695959194262286x5) (.seq #[] 0))
noncomputable def o103 (P : Params) : Obj := (ob .none (.fields #[]))
noncomputable def o104 (P : Params) : Obj := (ob (.type y2766695959194262286x5) (.seq #[(.str t129 340), (.str t141 341)] 0))
noncomputable def o105 (P : Params) : Obj := (ob (.type y2766695959194262286x5) (.seq #[] 0))
noncomputable def o106 (P : Params) : Obj := (fob .none t125 t143 (md 5).params (.stmts (md 5).body) (md 7).scope 0 [] .none .none .none .none none .none .none 0)
noncomputable def o107 (P : Params) : Obj := (cob (.str t125 337) (.str t143 338) (.str t9 339) (.int 119 0) (.int 2 0) (.int 0 0) (.int 0 0) (.int 3 0) (.ref 102) (.bool true) (.int 181 0) (.ref 103) .none (.ref 104) (.ref 105) (.ref 106) (.int 342 0) (.int 119 0) (.str t9 343))
noncomputable def o108 (P : Params) : Obj := (fob (.type y7174869446012820540x8) t125 t143 (md 5).params (.stmts (md 5).body) (md 7).scope 3 [] .none .none .none (.str t114 276) none (.ref 107) .none 0)
noncomputable def o109 (P : Params) : Obj := (ob (.type y2766695959194262286x5) (.seq #[] 0))
noncomputable def o110 (P : Params) : Obj := (ob .none (.fields #[]))
noncomputable def o111 (P : Params) : Obj := (ob (.type y2766695959194262286x5) (.seq #[(.str t129 348), (.str t141 349)] 0))
noncomputable def o112 (P : Params) : Obj := (ob (.type y2766695959194262286x5) (.seq #[] 0))
noncomputable def o113 (P : Params) : Obj := (fob .none t126 t144 (md 6).params (.stmts (md 6).body) (md 7).scope 0 [] .none .none .none .none none .none .none 0)
noncomputable def o114 (P : Params) : Obj := (cob (.str t126 345) (.str t144 346) (.str t9 347) (.int 122 0) (.int 2 0) (.int 0 0) (.int 0 0) (.int 3 0) (.ref 109) (.bool true) (.int 181 0) (.ref 110) .none (.ref 111) (.ref 112) (.ref 113) (.int 350 0) (.int 122 0) (.str t9 351))
noncomputable def o115 (P : Params) : Obj := (fob (.type y7174869446012820540x8) t126 t144 (md 6).params (.stmts (md 6).body) (md 7).scope 3 [] .none .none .none (.str t114 276) none (.ref 114) .none 0)
noncomputable def o116 (P : Params) : Obj := (ob (.type y2766695959194262286x5) (.seq #[] 0))
noncomputable def o117 (P : Params) : Obj := (ob .none (.fields #[]))
noncomputable def o118 (P : Params) : Obj := (ob (.type y2766695959194262286x5) (.seq #[(.str t129 356), (.str t141 357)] 0))
noncomputable def o119 (P : Params) : Obj := (ob (.type y2766695959194262286x5) (.seq #[] 0))
noncomputable def o120 (P : Params) : Obj := (fob .none t127 t145 (md 7).params (.stmts (md 7).body) (md 7).scope 0 [] .none .none .none .none none .none .none 0)
noncomputable def o121 (P : Params) : Obj := (cob (.str t127 353) (.str t145 354) (.str t9 355) (.int 125 0) (.int 2 0) (.int 0 0) (.int 0 0) (.int 3 0) (.ref 116) (.bool true) (.int 181 0) (.ref 117) .none (.ref 118) (.ref 119) (.ref 120) (.int 358 0) (.int 125 0) (.str t9 359))
noncomputable def o122 (P : Params) : Obj := (fob (.type y7174869446012820540x8) t127 t145 (md 7).params (.stmts (md 7).body) (md 7).scope 3 [] .none .none .none (.str t114 276) none (.ref 121) .none 0)
noncomputable def o123 (P : Params) : Obj := (ob (.type y2766695959194262286x5) (.seq #[(.str t146 361), (.str t94 362), (.str t147 363), (.str t132 364), (.str t148 365)] 0))
noncomputable def o124 (P : Params) : Obj := (ob (.type y14018661285674007319x4) (.dict #[(en P t113 285 (.str t114 276)), (en P t116 289 (.int 80 288)), (en P t117 293 (.str t118 291)), (en P t119 294 (.str t120 292)), (en P t121 309 (.ref 80)), (en P t122 316 (.ref 87)), (en P t123 328 (.ref 94)), (en P t124 336 (.ref 101)), (en P t125 344 (.ref 108)), (en P t126 352 (.ref 115)), (en P t127 360 (.ref 122)), (en P t128 366 (.ref 123)), (en P t149 368 (.ref 126)), (en P t150 370 (.ref 127)), (en P t2 371 .none)] 4))
noncomputable def o125 (P : Params) : Obj := (Obj.mk (.type y17162191345867700912x4) none (.cls (ClassData.mk t19 [(.type y2742458400755230247x6)] [(.ref 125), (.type y2742458400755230247x6)] 124 t19 true [] [] false none false)) #[none, none, (some (.str t19 278)), (some (.str t19 286)), (some (.builtin y11443829558043349243x14)), (some (.bool true))])
noncomputable def o126 (P : Params) : Obj := (ob (.type y14755015743595814543x17) (.fields #[(.str t149 367), (.ref 125), (.builtin y6511155373996960695x17), (.builtin y12411053484034534018x21)]))
noncomputable def o127 (P : Params) : Obj := (ob (.type y14755015743595814543x17) (.fields #[(.str t150 369), (.ref 125), (.builtin y10220274742760427390x26), .none]))
noncomputable def o128 (P : Params) : Obj := (ob (.type y4290257624100764138x5) (.fields #[(.ref 125), (.ref 125), (.ref 125)]))
noncomputable def o129 (P : Params) : Obj := (ob (.type y11030030927630378310x26) (.fields #[(.builtin y4860613602091757760x24), (.ref 125)]))
noncomputable def o130 (P : Params) : Obj := (ob (.type y14018661285674007319x4) (.dict #[(en P t151 476 (.int 54 472)), (en P t152 478 (.int 28 420)), (en P t153 480 (.int 24 412)), (en P t154 482 (.int 40 444)), (en P t155 484 (.int 19 402)), (en P t156 486 (.int 41 446)), (en P t157 488 (.int 7 378)), (en P t158 490 (.int 8 380)), (en P t159 492 (.int 16 396)), (en P t160 494 (.int 35 434)), (en P t161 496 (.int 46 456)), (en P t162 498 (.int 38 440)), (en P t163 500 (.int 14 392)), (en P t164 502 (.int 36 436)), (en P t165 504 (.int 12 388)), (en P t166 506 (.int 15 394)), (en P t167 508 (.int 37 438)), (en P t168 510 (.int 51 466)), (en P t169 512 (.int 23 410)), (en P t170 514 (.int 52 468)), (en P t171 516 (.int 17 398)), (en P t172 518 (.int 47 458)), (en P t173 520 (.int 48 460)), (en P t174 522 (.int 39 442)), (en P t175 524 (.int 11 386)), (en P t176 526 (.int 53 470)), (en P t177 528 (.int 13 390)), (en P t178 530 (.int 20 404)), (en P t179 532 (.int 33 430)), (en P t180 534 (.int 44 452)), (en P t181 536 (.int 29 422)), (en P t182 538 (.int 22 408)), (en P t183 540 (.int 27 418)), (en P t184 542 (.int 21 406)), (en P t185 544 (.int 30 424)), (en P t186 545 (.int 34 432)), (en P t187 546 (.int 45 454)), (en P t188 547 (.int 49 462)), (en P t189 548 (.int 50 464)), (en P t190 549 (.int 9 382)), (en P t191 550 (.int 10 384)), (en P t192 551 (.int 32 428)), (en P t193 552 (.int 43 450)), (en P t194 553 (.int 25 414)), (en P t195 554 (.int 18 400)), (en P t196 555 (.int 42 448)), (en P t197 556 (.int 26 416)), (en P t198 557 (.int 31 426))] 48))
noncomputable def o131 (P : Params) : Obj := (ob (.type y14018661285674007319x4) (.dict #[(en P t168 510 (.int 51 466)), (en P t169 512 (.int 23 410)), (en P t170 514 (.int 52 468)), (en P t171 516 (.int 17 398)), (en P t172 518 (.int 47 458)), (en P t173 520 (.int 48 460)), (en P t174 522 (.int 39 442)), (en P t175 524 (.int 11 386)), (en P t176 526 (.int 53 470)), (en P t177 528 (.int 13 390)), (en P t178 530 (.int 20 404)), (en P t179 532 (.int 33 430)), (en P t180 534 (.int 44 452)), (en P t181 536 (.int 29 422)), (en P t182 538 (.int 22 408)), (en P t183 540 (.int 27 418)), (en P t184 542 (.int 21 406))] 17))
noncomputable def o132 (P : Params) : Obj := (ob (.type y14018661285674007319x4) (.dict #[(en P t185 544 (.int 30 424)), (en P t186 545 (.int 34 432)), (en P t187 546 (.int 45 454)), (en P t188 547 (.int 49 462)), (en P t189 548 (.int 50 464)), (en P t190 549 (.int 9 382)), (en P t191 550 (.int 10 384)), (en P t192 551 (.int 32 428)), (en P t193 552 (.int 43 450)), (en P t194 553 (.int 25 414)), (en P t195 554 (.int 18 400)), (en P t196 555 (.int 42 448)), (en P t197 556 (.int 26 416)), (en P t198 557 (.int 31 426))] 14))
noncomputable def o133 (P : Params) : Obj := (ob (.type y2766695959194262286x5) (.seq #[] 0))
noncomputable def o134 (P : Params) : Obj := (ob .none (.fields #[]))
noncomputable def o135 (P : Params) : Obj := (ob (.type y2766695959194262286x5) (.seq #[(.str t199 576)] 0))
noncomputable def o136 (P : Params) : Obj := (ob (.type y2766695959194262286x5) (.seq #[] 0))
noncomputable def o137 (P : Params) : Obj := (fob .none t71 t71 (fd 63).params (.stmts (fd 63).body) (fd 64).scope 0 [] .none .none .none .none none .none .none 0)
noncomputable def o138 (P : Params) : Obj := (cob (.str t71 573) (.str t71 574) (.str t9 575) (.int 179 0) (.int 1 0) (.int 0 0) (.int 0 0) (.int 3 0) (.ref 133) (.bool true) (.int 181 0) (.ref 134) .none (.ref 135) (.ref 136) (.ref 137) (.int 577 0) (.int 179 0) (.str t9 578))
noncomputable def o139 (P : Params) : Obj := (fob (.type y7174869446012820540x8) t71 t71 (fd 63).params (.stmts (fd 63).body) (fd 64).scope 3 [] .none .none .none (.str t200 374) none (.ref 138) .none 0)
noncomputable def o140 (P : Params) : Obj := (ob (.type y2766695959194262286x5) (.seq #[] 0))
noncomputable def o141 (P : Params) : Obj := (ob .none (.fields #[]))
noncomputable def o142 (P : Params) : Obj := (ob (.type y2766695959194262286x5) (.seq #[(.str t199 583)] 0))
noncomputable def o143 (P : Params) : Obj := (ob (.type y2766695959194262286x5) (.seq #[] 0))
noncomputable def o144 (P : Params) : Obj := (fob .none t72 t72 (fd 64).params (.stmts (fd 64).body) (fd 64).scope 0 [] .none .none .none .none none .none .none 0)
noncomputable def o145 (P : Params) : Obj := (cob (.str t72 580) (.str t72 581) (.str t9 582) (.int 181 0) (.int 1 0) (.int 0 0) (.int 0 0) (.int 3 0) (.ref 140) (.bool true) (.int 181 0) (.ref 141) .none (.ref 142) (.ref 143) (.ref 144) (.int 584 0) (.int 181 0) (.str t9 585))
noncomputable def o146 (P : Params) : Obj := (fob (.type y7174869446012820540x8) t72 t72 (fd 64).params (.stmts (fd 64).body) (fd 64).scope 3 [] .none .none .none (.str t200 374) none (.ref 145) .none 0)
noncomputable def o147 (P : Params) : Obj := (ob (.type y2766695959194262286x5) (.seq #[] 0))
noncomputable def o148 (P : Params) : Obj := (ob .none (.fields #[]))
noncomputable def o149 (P : Params) : Obj := (ob (.type y2766695959194262286x5) (.seq #[(.str t199 590)] 0))
noncomputable def o150 (P : Params) : Obj := (ob (.type y2766695959194262286x5) (.seq #[] 0))
noncomputable def o151 (P : Params) : Obj := (fob .none t73 t73 (fd 65).params (.stmts (fd 65).body) (fd 65).scope 0 [] .none .none .none .none none .none .none 0)
noncomputable def o152 (P : Params) : Obj := (cob (.str t73 587) (.str t73 588) (.str t9 589) (.int 183 0) (.int 1 0) (.int 0 0) (.int 0 0) (.int 3 0) (.ref 147) (.bool true) (.int 181 0) (.ref 148) .none (.ref 149) (.ref 150) (.ref 151) (.int 591 0) (.int 183 0) (.str t9 592))
noncomputable def o153 (P : Params) : Obj := (fob (.type y7174869446012820540x8) t73 t73 (fd 65).params (.stmts (fd 65).body) (fd 65).scope 3 [] .none .none .none (.str t200 374) none (.ref 152) .none 0)
noncomputable def o154 (P : Params) : Obj := (ob (.type y2766695959194262286x5) (.seq #[] 0))
noncomputable def o155 (P : Params) : Obj := (ob .none (.fields #[]))
noncomputable def o156 (P : Params) : Obj := (ob (.type y2766695959194262286x5) (.seq #[(.str t201 599), (.str t202 600), (.str t203 601), (.str t204 602), (.str t205 603), (.str t206 604), (.str t207 605)] 0))
noncomputable def o157 (P : Params) : Obj := (ob (.type y2766695959194262286x5) (.seq #[] 0))
noncomputable def o158 (P : Params) : Obj := (fob .none t74 t74 (fd 67).params (.stmts (fd 67).body) (fd 67).scope 0 [] .none .none .none .none none .none .none 0)
noncomputable def o159 (P : Params) : Obj := (cob (.str t74 596) (.str t74 597) (.str t9 598) (.int 186 0) (.int 3 0) (.int 0 0) (.int 0 0) (.int 3 0) (.ref 154) (.bool true) (.int 181 0) (.ref 155) .none (.ref 156) (.ref 157) (.ref 158) (.int 606 0) (.int 186 0) (.str t9 607))
noncomputable def o160 (P : Params) : Obj := (fob (.type y7174869446012820540x8) t74 t74 (fd 67).params (.stmts (fd 67).body) (fd 67).scope 3 [] .none .none .none (.str t1 594) none (.ref 159) .none 0)
noncomputable def o161 (P : Params) : Obj := (ob (.type y2766695959194262286x5) (.seq #[] 0))
noncomputable def o162 (P : Params) : Obj := (ob .none (.fields #[]))
noncomputable def o163 (P : Params) : Obj := (fob .none t75 t75 (fd 68).params (.stmts (fd 68).body) (fd 68).scope 0 [] .none .none .none .none none .none .none 0)
noncomputable def o164 (P : Params) : Obj := (cob (.str t75 609) (.str t75 610) (.str t9 611) (.int 194 0) (.int 2 0) (.int 0 0) (.int 0 0) (.int 3 0) (.ref 161) (.bool true) (.int 181 0) (.ref 162) .none .none .none (.ref 163) (.int 612 0) (.int 194 0) (.str t9 613))
noncomputable def o165 (P : Params) : Obj := (fob (.type y7174869446012820540x8) t75 t75 (fd 68).params (.stmts (fd 68).body) (fd 68).scope 3 [] .none .none .none (.str t1 594) none (.ref 164) .none 0)
noncomputable def o166 (P : Params) : Obj := (ob (.type y2766695959194262286x5) (.seq #[] 0))
noncomputable def o167 (P : Params) : Obj := (ob .none (.fields #[]))
noncomputable def o168 (P : Params) : Obj := (ob (.type y2766695959194262286x5) (.seq #[(.str t208 618), (.str t202 619), (.str t209 620)] 0))
noncomputable def o169 (P : Params) : Obj := (ob (.type y2766695959194262286x5) (.seq #[] 0))
noncomputable def o170 (P : Params) : Obj := (fob .none t76 t76 (fd 69).params (.stmts (fd 69).body) (fd 69).scope 0 [] .none .none .none .none none .none .none 0)
noncomputable def o171 (P : Params) : Obj := (cob (.str t76 615) (.str t76 616) (.str t9 617) (.int 197 0) (.int 2 0) (.int 0 0) (.int 0 0) (.int 3 0) (.ref 166) (.bool true) (.int 181 0) (.ref 167) .none (.ref 168) (.ref 169) (.ref 170) (.int 621 0) (.int 197 0) (.str t9 622))
noncomputable def o172 (P : Params) : Obj := (fob (.type y7174869446012820540x8) t76 t76 (fd 69).params (.stmts (fd 69).body) (fd 69).scope 3 [] .none .none .none (.str t1 594) none (.ref 171) .none 0)
noncomputable def o173 (P : Params) : Obj := (ob (.type y2766695959194262286x5) (.seq #[] 0))
noncomputable def o174 (P : Params) : Obj := (ob .none (.fields #[]))
noncomputable def o175 (P : Params) : Obj := (fob .none t77 t77 (fd 70).params (.stmts (fd 70).body) (fd 70).scope 0 [] .none .none .none .none none .none .none 0)
noncomputable def o176 (P : Params) : Obj := (cob (.str t77 624) (.str t77 625) (.str t9 626) (.int 202 0) (.int 1 0) (.int 0 0) (.int 0 0) (.int 3 0) (.ref 173) (.bool true) (.int 181 0) (.ref 174) .none .none .none (.ref 175) (.int 627 0) (.int 202 0) (.str t9 628))
noncomputable def o177 (P : Params) : Obj := (fob (.type y7174869446012820540x8) t77 t77 (fd 70).params (.stmts (fd 70).body) (fd 70).scope 3 [] .none .none .none (.str t1 594) none (.ref 176) .none 0)
noncomputable def o178 (P : Params) : Obj := (ob (.type y2766695959194262286x5) (.seq #[] 0))
noncomputable def o179 (P : Params) : Obj := (ob .none (.fields #[]))
noncomputable def o180 (P : Params) : Obj := (fob .none t78 t78 (fd 71).params (.stmts (fd 71).body) (fd 71).scope 0 [] .none .none .none .none none .none .none 0)
noncomputable def o181 (P : Params) : Obj := (cob (.str t78 630) (.str t78 631) (.str t9 632) (.int 218 0) (.int 2 0) (.int 0 0) (.int 0 0) (.int 3 0) (.ref 178) (.bool true) (.int 181 0) (.ref 179) .none .none .none (.ref 180) (.int 633 0) (.int 218 0) (.str t9 634))
noncomputable def o182 (P : Params) : Obj := (fob (.type y7174869446012820540x8) t78 t78 (fd 71).params (.stmts (fd 71).body) (fd 71).scope 3 [] .none .none .none (.str t1 594) none (.ref 181) .none 0)
noncomputable def o183 (P : Params) : Obj := (ob (.type y2766695959194262286x5) (.seq #[] 0))
noncomputable def o184 (P : Params) : Obj := (ob .none (.fields #[]))
noncomputable def o185 (P : Params) : Obj := (ob (.type y2766695959194262286x5) (.seq #[(.str t210 639), (.str t211 640)] 0))
noncomputable def o186 (P : Params) : Obj := (ob (.type y2766695959194262286x5) (.seq #[] 0))
noncomputable def o187 (P : Params) : Obj := (fob .none t79 t79 (fd 72).params (.stmts (fd 72).body) (fd 72).scope 0 [] .none .none .none .none none .none .none 0)
noncomputable def o188 (P : Params) : Obj := (cob (.str t79 636) (.str t79 637) (.str t9 638) (.int 220 0) (.int 2 0) (.int 0 0) (.int 0 0) (.int 3 0) (.ref 183) (.bool true) (.int 181 0) (.ref 184) .none (.ref 185) (.ref 186) (.ref 187) (.int 641 0) (.int 220 0) (.str t9 642))
noncomputable def o189 (P : Params) : Obj := (fob (.type y7174869446012820540x8) t79 t79 (fd 72).params (.stmts (fd 72).body) (fd 72).scope 3 [] .none .none .none (.str t1 594) none (.ref 188) .none 0)
noncomputable def o190 (P : Params) : Obj := (ob (.type y2766695959194262286x5) (.seq #[] 0))
noncomputable def o191 (P : Params) : Obj := (ob .none (.fields #[]))
noncomputable def o192 (P : Params) : Obj := (fob .none t80 t80 (fd 73).params (.stmts (fd 73).body) (fd 73).scope 0 [] .none .none .none .none none .none .none 0)
noncomputable def o193 (P : Params) : Obj := (cob (.str t80 644) (.str t80 645) (.str t9 646) (.int 224 0) (.int 1 0) (.int 0 0) (.int 0 0) (.int 3 0) (.ref 190) (.bool true) (.int 181 0) (.ref 191) .none .none .none (.ref 192) (.int 647 0) (.int 224 0) (.str t9 648))
noncomputable def o194 (P : Params) : Obj := (fob (.type y7174869446012820540x8) t80 t80 (fd 73).params (.stmts (fd 73).body) (fd 73).scope 3 [] .none .none .none (.str t1 594) none (.ref 193) .none 0)
noncomputable def o195 (P : Params) : Obj := (ob (.type y2766695959194262286x5) (.seq #[] 0))
noncomputable def o196 (P : Params) : Obj := (ob .none (.fields #[]))
noncomputable def o197 (P : Params) : Obj := (ob (.type y2766695959194262286x5) (.seq #[(.str t212 653), (.str t213 654), (.str t214 655)] 0))
noncomputable def o198 (P : Params) : Obj := (ob (.type y2766695959194262286x5) (.seq #[] 0))
noncomputable def o199 (P : Params) : Obj := (fob .none t81 t81 (fd 74).params (.stmts (fd 74).body) (fd 74).scope 0 [] .none .none .none .none none .none .none 0)
noncomputable def o200 (P : Params) : Obj := (cob (.str t81 650) (.str t81 651) (.str t9 652) (.int 238 0) (.int 1 0) (.int 0 0) (.int 0 0) (.int 3 0) (.ref 195) (.bool true) (.int 181 0) (.ref 196) .none (.ref 197) (.ref 198) (.ref 199) (.int 656 0) (.int 238 0) (.str t9 657))
noncomputable def o201 (P : Params) : Obj := (fob (.type y7174869446012820540x8) t81 t81 (fd 74).params (.stmts (fd 74).body) (fd 74).scope 3 [] .none .none .none (.str t1 594) none (.ref 200) .none 0)
noncomputable def o202 (P : Params) : Obj := (ob (.type y2766695959194262286x5) (.seq #[] 0))
noncomputable def o203 (P : Params) : Obj := (ob .none (.fields #[]))
noncomputable def o204 (P : Params) : Obj := (fob .none t82 t82 (fd 75).params (.stmts (fd 75).body) (fd 75).scope 0 [] .none .none .none .none none .none .none 0)
noncomputable def o205 (P : Params) : Obj := (cob (.str t82 659) (.str t82 660) (.str t9 661) (.int 243 0) (.int 1 0) (.int 0 0) (.int 0 0) (.int 3 0) (.ref 202) (.bool true) (.int 181 0) (.ref 203) .none .none .none (.ref 204) (.int 662 0) (.int 243 0) (.str t9 663))
noncomputable def o206 (P : Params) : Obj := (fob (.type y7174869446012820540x8) t82 t82 (fd 75).params (.stmts (fd 75).body) (fd 75).scope 3 [] .none .none .none (.str t1 594) none (.ref 205) .none 0)
noncomputable def o207 (P : Params) : Obj := (ob (.type y2766695959194262286x5) (.seq #[] 0))
noncomputable def o208 (P : Params) : Obj := (ob .none (.fields #[]))
noncomputable def o209 (P : Params) : Obj := (fob .none t83 t83 (fd 76).params (.stmts (fd 76).body) (fd 76).scope 0 [] .none .none .none .none none .none .none 0)
noncomputable def o210 (P : Params) : Obj := (cob (.str t83 665) (.str t83 666) (.str t9 667) (.int 261 0) (.int 1 0) (.int 0 0) (.int 0 0) (.int 3 0) (.ref 207) (.bool true) (.int 181 0) (.ref 208) .none .none .none (.ref 209) (.int 668 0) (.int 261 0) (.str t9 669))
noncomputable def o211 (P : Params) : Obj := (fob (.type y7174869446012820540x8) t83 t83 (fd 76).params (.stmts (fd 76).body) (fd 76).scope 3 [] .none .none .none (.str t1 594) none (.ref 210) .none 0)
noncomputable def o212 (P : Params) : Obj := (ob (.type y2766695959194262286x5) (.seq #[] 0))
noncomputable def o213 (P : Params) : Obj := (ob .none (.fields #[]))
noncomputable def o214 (P : Params) : Obj := (ob (.type y2766695959194262286x5) (.seq #[(.str t212 674), (.str t201 675), (.str t203 676), (.str t215 677), (.str t216 678), (.str t213 679), (.str t217 680), (.str t91 681), (.str t218 682), (.str t219 683), (.str t220 684), (.str t207 685)] 0))
noncomputable def o215 (P : Params) : Obj := (ob (.type y2766695959194262286x5) (.seq #[] 0))
noncomputable def o216 (P : Params) : Obj := (fob .none t84 t84 (fd 77).params (.stmts (fd 77).body) (fd 77).scope 0 [] .none .none .none .none none .none .none 0)
noncomputable def o217 (P : Params) : Obj := (cob (.str t84 671) (.str t84 672) (.str t9 673) (.int 264 0) (.int 5 0) (.int 0 0) (.int 0 0) (.int 3 0) (.ref 212) (.bool true) (.int 181 0) (.ref 213) .none (.ref 214) (.ref 215) (.ref 216) (.int 686 0) (.int 264 0) (.str t9 687))
noncomputable def o218 (P : Params) : Obj := (fob (.type y7174869446012820540x8) t84 t84 (fd 77).params (.stmts (fd 77).body) (fd 77).scope 3 [] .none .none .none (.str t1 594) none (.ref 217) .none 0)
noncomputable def o219 (P : Params) : Obj := (ob (.type y2766695959194262286x5) (.seq #[] 0))
noncomputable def o220 (P : Params) : Obj := (ob .none (.fields #[]))
noncomputable def o221 (P : Params) : Obj := (ob (.type y2766695959194262286x5) (.seq #[(.str t217 692), (.str t203 693), (.str t215 694), (.str t212 695), (.str t221 696), (.str t222 697), (.str t219 698), (.str t223 699), (.str t224 700)] 0))
noncomputable def o222 (P : Params) : Obj := (ob (.type y2766695959194262286x5) (.seq #[] 0))
noncomputable def o223 (P : Params) : Obj := (fob .none t85 t85 (fd 78).params (.stmts (fd 78).body) (fd 78).scope 0 [] .none .none .none .none none .none .none 0)
noncomputable def o224 (P : Params) : Obj := (cob (.str t85 689) (.str t85 690) (.str t9 691) (.int 274 0) (.int 3 0) (.int 0 0) (.int 0 0) (.int 3 0) (.ref 219) (.bool true) (.int 181 0) (.ref 220) .none (.ref 221) (.ref 222) (.ref 223) (.int 701 0) (.int 274 0) (.str t9 702))
noncomputable def o225 (P : Params) : Obj := (fob (.type y7174869446012820540x8) t85 t85 (fd 78).params (.stmts (fd 78).body) (fd 78).scope 3 [] .none .none .none (.str t1 594) none (.ref 224) .none 0)
noncomputable def o226 (P : Params) : Obj := (ob (.type y2766695959194262286x5) (.seq #[] 0))
noncomputable def o227 (P : Params) : Obj := (ob .none (.fields #[]))
noncomputable def o228 (P : Params) : Obj := (fob .none t86 t86 (fd 79).params (.stmts (fd 79).body) (fd 79).scope 0 [] .none .none .none .none none .none .none 0)
noncomputable def o229 (P : Params) : Obj := (cob (.str t86 704) (.str t86 705) (.str t9 706) (.int 282 0) (.int 1 0) (.int 0 0) (.int 0 0) (.int 3 0) (.ref 226) (.bool true) (.int 181 0) (.ref 227) .none .none .none (.ref 228) (.int 707 0) (.int 282 0) (.str t9 708))
noncomputable def o230 (P : Params) : Obj := (fob (.type y7174869446012820540x8) t86 t86 (fd 79).params (.stmts (fd 79).body) (fd 79).scope 3 [] .none .none .none (.str t1 594) none (.ref 229) .none 0)
noncomputable def o231 (P : Params) : Obj := (ob (.type y2766695959194262286x5) (.seq #[] 0))
noncomputable def o232 (P : Params) : Obj := (ob .none (.fields #[]))
noncomputable def o233 (P : Params) : Obj := (fob .none t87 t87 (fd 80).params (.stmts (fd 80).body) (fd 80).scope 0 [] .none .none .none .none none .none .none 0)
noncomputable def o234 (P : Params) : Obj := (cob (.str t87 710) (.str t87 711) (.str t9 712) (.int 286 0) (.int 1 0) (.int 0 0) (.int 0 0) (.int 3 0) (.ref 231) (.bool true) (.int 181 0) (.ref 232) .none .none .none (.ref 233) (.int 713 0) (.int 286 0) (.str t9 714))
noncomputable def o235 (P : Params) : Obj := (fob (.type y7174869446012820540x8) t87 t87 (fd 80).params (.stmts (fd 80).body) (fd 80).scope 3 [] .none .none .none (.str t1 594) none (.ref 234) .none 0)
noncomputable def o236 (P : Params) : Obj := (ob (.type y2766695959194262286x5) (.seq #[] 0))
noncomputable def o237 (P : Params) : Obj := (ob .none (.fields #[]))
noncomputable def o238 (P : Params) : Obj := (fob .none t88 t88 (fd 81).params (.stmts (fd 81).body) (fd 81).scope 0 [] .none .none .none .none none .none .none 0)
noncomputable def o239 (P : Params) : Obj := (cob (.str t88 716) (.str t88 717) (.str t9 718) (.int 291 0) (.int 1 0) (.int 0 0) (.int 0 0) (.int 3 0) (.ref 236) (.bool true) (.int 181 0) (.ref 237) .none .none .none (.ref 238) (.int 719 0) (.int 291 0) (.str t9 720))
noncomputable def o240 (P : Params) : Obj := (fob (.type y7174869446012820540x8) t88 t88 (fd 81).params (.stmts (fd 81).body) (fd 81).scope 3 [] .none .none .none (.str t1 594) none (.ref 239) .none 0)
noncomputable def o12v1 (P : Params) : Obj := (ob .none (.fields #[]))
noncomputable def o3v1 (P : Params) : Obj := (ob (.type y14018661285674007319x4) (.dict #[(en P t0 165 (.str t114 276)), (en P t2 166 .none), (en P t3 167 .none), (en P t4 168 (.builtin y7097527257260152453x26)), (en P t5 169 .none), (en P t6 170 (.ref 6)), (en P t7 171 (.ref 4)), (en P t8 173 (.str t9 172)), (en P t10 174 .none), (en P t11 193 (.ref 21)), (en P t12 197 (.int 4000 196)), (en P t13 214 (.ref 28)), (en P t14 228 (.ref 35)), (en P t15 239 (.ref 42)), (en P t16 250 (.ref 49)), (en P t17 265 (.ref 56)), (en P t18 275 (.ref 63))] 17))
noncomputable def o12v2 (P : Params) : Obj := (ob .none (.fields #[(.int 1 0), (.int 0 0), (.ref 20), (.int 6 0), (.int 0 0), (.ref 27), (.int 22 0), (.int 0 0), (.ref 34), (.int 32 0), (.int 0 0), (.ref 41), (.int 48 0), (.int 0 0), (.ref 48), (.int 57 0), (.int 0 0), (.ref 55), (.int 68 0), (.int 0 0), (.ref 62)]))
noncomputable def o3v2 (P : Params) : Obj := (ob (.type y14018661285674007319x4) (.dict #[(en P t0 165 (.str t114 276)), (en P t2 166 .none), (en P t3 167 .none), (en P t4 168 (.builtin y7097527257260152453x26)), (en P t5 169 .none), (en P t6 170 (.ref 6)), (en P t7 171 (.ref 4)), (en P t8 173 (.str t9 172)), (en P t10 174 .none), (en P t11 193 (.ref 21)), (en P t12 197 (.int 4000 196)), (en P t13 214 (.ref 28)), (en P t14 228 (.ref 35)), (en P t15 239 (.ref 42)), (en P t16 250 (.ref 49)), (en P t17 265 (.ref 56)), (en P t18 275 (.ref 63)), (en P t19 373 (.ref 125))] 18))
noncomputable def o12v3 (P : Params) : Obj := (ob .none (.fields #[(.int 1 0), (.int 0 0), (.ref 20), (.int 6 0), (.int 0 0), (.ref 27), (.int 22 0), (.int 0 0), (.ref 34), (.int 32 0), (.int 0 0), (.ref 41), (.int 48 0), (.int 0 0), (.ref 48), (.int 57 0), (.int 0 0), (.ref 55), (.int 68 0), (.int 0 0), (.ref 62), (.int 80 0), (.int 0 0), (.ref 69)]))
noncomputable def o3v3 (P : Params) : Obj := (ob (.type y14018661285674007319x4) (.dict #[(en P t0 165 (.str t200 374)), (en P t2 166 .none), (en P t3 167 .none), (en P t4 168 (.builtin y7097527257260152453x26)), (en P t5 169 .none), (en P t6 170 (.ref 6)), (en P t7 171 (.ref 4)), (en P t8 173 (.str t9 172)), (en P t10 174 .none), (en P t11 193 (.ref 21)), (en P t12 197 (.int 4000 196)), (en P t13 214 (.ref 28)), (en P t14 228 (.ref 35)), (en P t15 239 (.ref 42)), (en P t16 250 (.ref 49)), (en P t17 265 (.ref 56)), (en P t18 275 (.ref 63)), (en P t19 373 (.ref 125)), (en P t20 377 (.int 0 376)), (en P t21 379 (.int 7 378)), (en P t22 381 (.int 8 380)), (en P t23 383 (.int 9 382)), (en P t24 385 (.int 10 384)), (en P t25 387 (.int 11 386)), (en P t26 389 (.int 12 388)), (en P t27 391 (.int 13 390)), (en P t28 393 (.int 14 392)), (en P t29 395 (.int 15 394)), (en P t30 397 (.int 16 396)), (en P t31 399 (.int 17 398)), (en P t32 401 (.int 18 400)), (en P t33 403 (.int 19 402)), (en P t34 405 (.int 20 404)), (en P t35 407 (.int 21 406)), (en P t36 409 (.int 22 408)), (en P t37 411 (.int 23 410)), (en P t38 413 (.int 24 412)), (en P t39 415 (.int 25 414)), (en P t40 417 (.int 26 416)), (en P t41 419 (.int 27 418)), (en P t42 421 (.int 28 420)), (en P t43 423 (.int 29 422)), (en P t44 425 (.int 30 424)), (en P t45 427 (.int 31 426)), (en P t46 429 (.int 32 428)), (en P t47 431 (.int 33 430)), (en P t48 433 (.int 34 432)), (en P t49 435 (.int 35 434)), (en P t50 437 (.int 36 436)), (en P t51 439 (.int 37 438)), (en P t52 441 (.int 38 440)), (en P t53 443 (.int 39 442)), (en P t54 445 (.int 40 444)), (en P t55 447 (.int 41 446)), (en P t56 449 (.int 42 448)), (en P t57 451 (.int 43 450)), (en P t58 453 (.int 44 452)), (en P t59 455 (.int 45 454)), (en P t60 457 (.int 46 456)), (en P t61 459 (.int 47 458)), (en P t62 461 (.int 48 460)), (en P t63 463 (.int 49 462)), (en P t64 465 (.int 50 464)), (en P t65 467 (.int 51 466)), (en P t66 469 (.int 52 468)), (en P t67 471 (.int 53 470)), (en P t68 473 (.int 54 472)), (en P t69 475 (.int 256 474))] 68))
noncomputable def o3v4 (P : Params) : Obj := (ob (.type y14018661285674007319x4) (.dict #[(en P t0 165 (.str t200 374)), (en P t2 166 .none), (en P t3 167 .none), (en P t4 168 (.builtin y7097527257260152453x26)), (en P t5 169 .none), (en P t6 170 (.ref 6)), (en P t7 171 (.ref 4)), (en P t8 173 (.str t9 172)), (en P t10 174 .none), (en P t11 193 (.ref 21)), (en P t12 197 (.int 4000 196)), (en P t13 214 (.ref 28)), (en P t14 228 (.ref 35)), (en P t15 239 (.ref 42)), (en P t16 250 (.ref 49)), (en P t17 265 (.ref 56)), (en P t18 275 (.ref 63)), (en P t19 373 (.ref 125)), (en P t20 377 (.int 0 376)), (en P t21 379 (.int 7 378)), (en P t22 381 (.int 8 380)), (en P t23 383 (.int 9 382)), (en P t24 385 (.int 10 384)), (en P t25 387 (.int 11 386)), (en P t26 389 (.int 12 388)), (en P t27 391 (.int 13 390)), (en P t28 393 (.int 14 392)), (en P t29 395 (.int 15 394)), (en P t30 397 (.int 16 396)), (en P t31 399 (.int 17 398)), (en P t32 401 (.int 18 400)), (en P t33 403 (.int 19 402)), (en P t34 405 (.int 20 404)), (en P t35 407 (.int 21 406)), (en P t36 409 (.int 22 408)), (en P t37 411 (.int 23 410)), (en P t38 413 (.int 24 412)), (en P t39 415 (.int 25 414)), (en P t40 417 (.int 26 416)), (en P t41 419 (.int 27 418)), (en P t42 421 (.int 28 420)), (en P t43 423 (.int 29 422)), (en P t44 425 (.int 30 424)), (en P t45 427 (.int 31 426)), (en P t46 429 (.int 32 428)), (en P t47 431 (.int 33 430)), (en P t48 433 (.int 34 432)), (en P t49 435 (.int 35 434)), (en P t50 437 (.int 36 436)), (en P t51 439 (.int 37 438)), (en P t52 441 (.int 38 440)), (en P t53 443 (.int 39 442)), (en P t54 445 (.int 40 444)), (en P t55 447 (.int 41 446)), (en P t56 449 (.int 42 448)), (en P t57 451 (.int 43 450)), (en P t58 453 (.int 44 452)), (en P t59 455 (.int 45 454)), (en P t60 457 (.int 46 456)), (en P t61 459 (.int 47 458)), (en P t62 461 (.int 48 460)), (en P t63 463 (.int 49 462)), (en P t64 465 (.int 50 464)), (en P t65 467 (.int 51 466)), (en P t66 469 (.int 52 468)), (en P t67 471 (.int 53 470)), (en P t68 473 (.int 54 472)), (en P t69 475 (.int 256 474)), (en P t70 572 (.ref 130))] 69))
noncomputable def T_pre (P : Params) : BT := (.node (PySem.W.boot_o_0 P) (.node (PySem.W.boot_o_1 P) (.node (PySem.W.boot_o_3 P) (.node (PySem.W.boot_o_7 P) .nil .nil) (.node (o11 P) .nil .nil)) (.node (PySem.W.boot_o_5 P) (.node (PySem.W.boot_o_9 P) .nil .nil) (.node (o13 P) .nil .nil))) (.node (PySem.W.boot_o_2 P) (.node (PySem.W.boot_o_4 P) (.node (PySem.W.boot_o_8 P) .nil .nil) (.node (o12v1 P) .nil .nil)) (.node (PySem.W.boot_o_6 P) (.node (PySem.W.boot_o_10 P) .nil .nil) (.node (o14 P) .nil .nil))))
noncomputable def T_p9 (P : Params) : BT := (.node (PySem.W.boot_o_0 P) (.node (PySem.W.boot_o_1 P) (.node (o3v1 P) (.node (PySem.W.boot_o_7 P) (.node (o15 P) (.node (o31 P) (.node (o63 P) .nil .nil) .nil) (.node (o47 P) .nil .nil)) (.node (o23 P) (.node (o39 P) .nil .nil) (.node (o55 P) .nil .nil))) (.node (o11 P) (.node (o19 P) (.node (o35 P) .nil .nil) (.node (o51 P) .nil .nil)) (.node (o27 P) (.node (o43 P) .nil .nil) (.node (o59 P) .nil .nil)))) (.node (PySem.W.boot_o_5 P) (.node (PySem.W.boot_o_9 P) (.node (o17 P) (.node (o33 P) .nil .nil) (.node (o49 P) .nil .nil)) (.node (o25 P) (.node (o41 P) .nil .nil) (.node (o57 P) .nil .nil))) (.node (o13 P) (.node (o21 P) (.node (o37 P) .nil .nil) (.node (o53 P) .nil .nil)) (.node (o29 P) (.node (o45 P) .nil .nil) (.node (o61 P) .nil .nil))))) (.node (PySem.W.boot_o_2 P) (.node (PySem.W.boot_o_4 P) (.node (PySem.W.boot_o_8 P) (.node (o16 P) (.node (o32 P) .nil .nil) (.node (o48 P) .nil .nil)) (.node (o24 P) (.node (o40 P) .nil .nil) (.node (o56 P) .nil .nil))) (.node (o12v2 P) (.node (o20 P) (.node (o36 P) .nil .nil) (.node (o52 P) .nil .nil)) (.node (o28 P) (.node (o44 P) .nil .nil) (.node (o60 P) .nil .nil)))) (.node (PySem.W.boot_o_6 P) (.node (PySem.W.boot_o_10 P) (.node (o18 P) (.node (o34 P) .nil .nil) (.node (o50 P) .nil .nil)) (.node (o26 P) (.node (o42 P) .nil .nil) (.node (o58 P) .nil .nil))) (.node (o14 P) (.node (o22 P) (.node (o38 P) .nil .nil) (.node (o54 P) .nil .nil)) (.node (o30 P) (.node (o46 P) .nil .nil) (.node (o62 P) .nil .nil))))))
noncomputable def T_p10 (P : Params) : BT := (.node (PySem.W.boot_o_0 P) (.node (PySem.W.boot_o_1 P) (.node (o3v2 P) (.node (PySem.W.boot_o_7 P) (.node (o15 P) (.node (o31 P) (.node (o63 P) (.node (o127 P) .nil .nil) .nil) (.node (o95 P) .nil .nil)) (.node (o47 P) (.node (o79 P) .nil .nil) (.node (o111 P) .nil .nil))) (.node (o23 P) (.node (o39 P) (.node (o71 P) .nil .nil) (.node (o103 P) .nil .nil)) (.node (o55 P) (.node (o87 P) .nil .nil) (.node (o119 P) .nil .nil)))) (.node (o11 P) (.node (o19 P) (.node (o35 P) (.node (o67 P) .nil .nil) (.node (o99 P) .nil .nil)) (.node (o51 P) (.node (o83 P) .nil .nil) (.node (o115 P) .nil .nil))) (.node (o27 P) (.node (o43 P) (.node (o75 P) .nil .nil) (.node (o107 P) .nil .nil)) (.node (o59 P) (.node (o91 P) .nil .nil) (.node (o123 P) .nil .nil))))) (.node (PySem.W.boot_o_5 P) (.node (PySem.W.boot_o_9 P) (.node (o17 P) (.node (o33 P) (.node (o65 P) (.node (o129 P) .nil .nil) .nil) (.node (o97 P) .nil .nil)) (.node (o49 P) (.node (o81 P) .nil .nil) (.node (o113 P) .nil .nil))) (.node (o25 P) (.node (o41 P) (.node (o73 P) .nil .nil) (.node (o105 P) .nil .nil)) (.node (o57 P) (.node (o89 P) .nil .nil) (.node (o121 P) .nil .nil)))) (.node (o13 P) (.node (o21 P) (.node (o37 P) (.node (o69 P) .nil .nil) (.node (o101 P) .nil .nil)) (.node (o53 P) (.node (o85 P) .nil .nil) (.node (o117 P) .nil .nil))) (.node (o29 P) (.node (o45 P) (.node (o77 P) .nil .nil) (.node (o109 P) .nil .nil)) (.node (o61 P) (.node (o93 P) .nil .nil) (.node (o125 P) .nil .nil)))))) (.node (PySem.W.boot_o_2 P) (.node (PySem.W.boot_o_4 P) (.node (PySem.W.boot_o_8 P) (.node (o16 P) (.node (o32 P) (.node (o64 P) (.node (o128 P) .nil .nil) .nil) (.node (o96 P) .nil .nil)) (.node (o48 P) (.node (o80 P) .nil .nil) (.node (o112 P) .nil .nil))) (.node (o24 P) (.node (o40 P) (.node (o72 P) .nil .nil) (.node (o104 P) .nil .nil)) (.node (o56 P) (.node (o88 P) .nil .nil) (.node (o120 P) .nil .nil)))) (.node (o12v3 P) (.node (o20 P) (.node (o36 P) (.node (o68 P) .nil .nil) (.node (o100 P) .nil .nil)) (.node (o52 P) (.node (o84 P) .nil .nil) (.node (o116 P) .nil .nil))) (.node (o28 P) (.node (o44 P) (.node (o76 P) .nil .nil) (.node (o108 P) .nil .nil)) (.node (o60 P) (.node (o92 P) .nil .nil) (.node (o124 P) .nil .nil))))) (.node (PySem.W.boot_o_6 P) (.node (PySem.W.boot_o_10 P) (.node (o18 P) (.node (o34 P) (.node (o66 P) .nil .nil) (.node (o98 P) .nil .nil)) (.node (o50 P) (.node (o82 P) .nil .nil) (.node (o114 P) .nil .nil))) (.node (o26 P) (.node (o42 P) (.node (o74 P) .nil .nil) (.node (o106 P) .nil .nil)) (.node (o58 P) (.node (o90 P) .nil .nil) (.node (o122 P) .nil .nil)))) (.node (o14 P) (.node (o22 P) (.node (o38 P) (.node (o70 P) .nil .nil) (.node (o102 P) .nil .nil)) (.node (o54 P) (.node (o86 P) .nil .nil) (.node (o118 P) .nil .nil))) (.node (o30 P) (.node (o46 P) (.node (o78 P) .nil .nil) (.node (o110 P) .nil .nil)) (.node (o62 P) (.node (o94 P) .nil .nil) (.node (o126 P) .nil .nil)))))))
noncomputable def T_p61 (P : Params) : BT := (.node (PySem.W.boot_o_0 P) (.node (PySem.W.boot_o_1 P) (.node (o3v3 P) (.node (PySem.W.boot_o_7 P) (.node (o15 P) (.node (o31 P) (.node (o63 P) (.node (o127 P) .nil .nil) .nil) (.node (o95 P) .nil .nil)) (.node (o47 P) (.node (o79 P) .nil .nil) (.node (o111 P) .nil .nil))) (.node (o23 P) (.node (o39 P) (.node (o71 P) .nil .nil) (.node (o103 P) .nil .nil)) (.node (o55 P) (.node (o87 P) .nil .nil) (.node (o119 P) .nil .nil)))) (.node (o11 P) (.node (o19 P) (.node (o35 P) (.node (o67 P) .nil .nil) (.node (o99 P) .nil .nil)) (.node (o51 P) (.node (o83 P) .nil .nil) (.node (o115 P) .nil .nil))) (.node (o27 P) (.node (o43 P) (.node (o75 P) .nil .nil) (.node (o107 P) .nil .nil)) (.node (o59 P) (.node (o91 P) .nil .nil) (.node (o123 P) .nil .nil))))) (.node (PySem.W.boot_o_5 P) (.node (PySem.W.boot_o_9 P) (.node (o17 P) (.node (o33 P) (.node (o65 P) (.node (o129 P) .nil .nil) .nil) (.node (o97 P) .nil .nil)) (.node (o49 P) (.node (o81 P) .nil .nil) (.node (o113 P) .nil .nil))) (.node (o25 P) (.node (o41 P) (.node (o73 P) .nil .nil) (.node (o105 P) .nil .nil)) (.node (o57 P) (.node (o89 P) .nil .nil) (.node (o121 P) .nil .nil)))) (.node (o13 P) (.node (o21 P) (.node (o37 P) (.node (o69 P) .nil .nil) (.node (o101 P) .nil .nil)) (.node (o53 P) (.node (o85 P) .nil .nil) (.node (o117 P) .nil .nil))) (.node (o29 P) (.node (o45 P) (.node (o77 P) .nil .nil) (.node (o109 P) .nil .nil)) (.node (o61 P) (.node (o93 P) .nil .nil) (.node (o125 P) .nil .nil)))))) (.node (PySem.W.boot_o_2 P) (.node (PySem.W.boot_o_4 P) (.node (PySem.W.boot_o_8 P) (.node (o16 P) (.node (o32 P) (.node (o64 P) (.node (o128 P) .nil .nil) .nil) (.node (o96 P) .nil .nil)) (.node (o48 P) (.node (o80 P) .nil .nil) (.node (o112 P) .nil .nil))) (.node (o24 P) (.node (o40 P) (.node (o72 P) .nil .nil) (.node (o104 P) .nil .nil)) (.node (o56 P) (.node (o88 P) .nil .nil) (.node (o120 P) .nil .nil)))) (.node (o12v3 P) (.node (o20 P) (.node (o36 P) (.node (o68 P) .nil .nil) (.node (o100 P) .nil .nil)) (.node (o52 P) (.node (o84 P) .nil .nil) (.node (o116 P) .nil .nil))) (.node (o28 P) (.node (o44 P) (.node (o76 P) .nil .nil) (.node (o108 P) .nil .nil)) (.node (o60 P) (.node (o92 P) .nil .nil) (.node (o124 P) .nil .nil))))) (.node (PySem.W.boot_o_6 P) (.node (PySem.W.boot_o_10 P) (.node (o18 P) (.node (o34 P) (.node (o66 P) .nil .nil) (.node (o98 P) .nil .nil)) (.node (o50 P) (.node (o82 P) .nil .nil) (.node (o114 P) .nil .nil))) (.node (o26 P) (.node (o42 P) (.node (o74 P) .nil .nil) (.node (o106 P) .nil .nil)) (.node (o58 P) (.node (o90 P) .nil .nil) (.node (o122 P) .nil .nil)))) (.node (o14 P) (.node (o22 P) (.node (o38 P) (.node (o70 P) .nil .nil) (.node (o102 P) .nil .nil)) (.node (o54 P) (.node (o86 P) .nil .nil) (.node (o118 P) .nil .nil))) (.node (o30 P) (.node (o46 P) (.node (o78 P) .nil .nil) (.node (o110 P) .nil .nil)) (.node (o62 P) (.node (o94 P) .nil .nil) (.node (o126 P) .nil .nil)))))))
noncomputable def T_p62 (P : Params) : BT := (.node (PySem.W.boot_o_0 P) (.node (PySem.W.boot_o_1 P) (.node (o3v4 P) (.node (PySem.W.boot_o_7 P) (.node (o15 P) (.node (o31 P) (.node (o63 P) (.node (o127 P) .nil .nil) .nil) (.node (o95 P) .nil .nil)) (.node (o47 P) (.node (o79 P) .nil .nil) (.node (o111 P) .nil .nil))) (.node (o23 P) (.node (o39 P) (.node (o71 P) .nil .nil) (.node (o103 P) .nil .nil)) (.node (o55 P) (.node (o87 P) .nil .nil) (.node (o119 P) .nil .nil)))) (.node (o11 P) (.node (o19 P) (.node (o35 P) (.node (o67 P) (.node (o131 P) .nil .nil) .nil) (.node (o99 P) .nil .nil)) (.node (o51 P) (.node (o83 P) .nil .nil) (.node (o115 P) .nil .nil))) (.node (o27 P) (.node (o43 P) (.node (o75 P) .nil .nil) (.node (o107 P) .nil .nil)) (.node (o59 P) (.node (o91 P) .nil .nil) (.node (o123 P) .nil .nil))))) (.node (PySem.W.boot_o_5 P) (.node (PySem.W.boot_o_9 P) (.node (o17 P) (.node (o33 P) (.node (o65 P) (.node (o129 P) .nil .nil) .nil) (.node (o97 P) .nil .nil)) (.node (o49 P) (.node (o81 P) .nil .nil) (.node (o113 P) .nil .nil))) (.node (o25 P) (.node (o41 P) (.node (o73 P) .nil .nil) (.node (o105 P) .nil .nil)) (.node (o57 P) (.node (o89 P) .nil .nil) (.node (o121 P) .nil .nil)))) (.node (o13 P) (.node (o21 P) (.node (o37 P) (.node (o69 P) .nil .nil) (.node (o101 P) .nil .nil)) (.node (o53 P) (.node (o85 P) .nil .nil) (.node (o117 P) .nil .nil))) (.node (o29 P) (.node (o45 P) (.node (o77 P) .nil .nil) (.node (o109 P) .nil .nil)) (.node (o61 P) (.node (o93 P) .nil .nil) (.node (o125 P) .nil .nil)))))) (.node (PySem.W.boot_o_2 P) (.node (PySem.W.boot_o_4 P) (.node (PySem.W.boot_o_8 P) (.node (o16 P) (.node (o32 P) (.node (o64 P) (.node (o128 P) .nil .nil) .nil) (.node (o96 P) .nil .nil)) (.node (o48 P) (.node (o80 P) .nil .nil) (.node (o112 P) .nil .nil))) (.node (o24 P) (.node (o40 P) (.node (o72 P) .nil .nil) (.node (o104 P) .nil .nil)) (.node (o56 P) (.node (o88 P) .nil .nil) (.node (o120 P) .nil .nil)))) (.node (o12v3 P) (.node (o20 P) (.node (o36 P) (.node (o68 P) (.node (o132 P) .nil .nil) .nil) (.node (o100 P) .nil .nil)) (.node (o52 P) (.node (o84 P) .nil .nil) (.node (o116 P) .nil .nil))) (.node (o28 P) (.node (o44 P) (.node (o76 P) .nil .nil) (.node (o108 P) .nil .nil)) (.node (o60 P) (.node (o92 P) .nil .nil) (.node (o124 P) .nil .nil))))) (.node (PySem.W.boot_o_6 P) (.node (PySem.W.boot_o_10 P) (.node (o18 P) (.node (o34 P) (.node (o66 P) (.node (o130 P) .nil .nil) .nil) (.node (o98 P) .nil .nil)) (.node (o50 P) (.node (o82 P) .nil .nil) (.node (o114 P) .nil .nil))) (.node (o26 P) (.node (o42 P) (.node (o74 P) .nil .nil) (.node (o106 P) .nil .nil)) (.node (o58 P) (.node (o90 P) .nil .nil) (.node (o122 P) .nil .nil)))) (.node (o14 P) (.node (o22 P) (.node (o38 P) (.node (o70 P) .nil .nil) (.node (o102 P) .nil .nil)) (.node (o54 P) (.node (o86 P) .nil .nil) (.node (o118 P) .nil .nil))) (.node (o30 P) (.node (o46 P) (.node (o78 P) .nil .nil) (.node (o110 P) .nil .nil)) (.node (o62 P) (.node (o94 P) .nil .nil) (.node (o126 P) .nil .nil)))))))
noncomputable def T_p81 (P : Params) : BT := (.node (PySem.W.boot_o_0 P) (.node (PySem.W.boot_o_1 P) (.node (o3 P) (.node (PySem.W.boot_o_7 P) (.node (o15 P) (.node (o31 P) (.node (o63 P) (.node (o127 P) .nil .nil) (.node (o191 P) .nil .nil)) (.node (o95 P) (.node (o159 P) .nil .nil) (.node (o223 P) .nil .nil))) (.node (o47 P) (.node (o79 P) (.node (o143 P) .nil .nil) (.node (o207 P) .nil .nil)) (.node (o111 P) (.node (o175 P) .nil .nil) (.node (o239 P) .nil .nil)))) (.node (o23 P) (.node (o39 P) (.node (o71 P) (.node (o135 P) .nil .nil) (.node (o199 P) .nil .nil)) (.node (o103 P) (.node (o167 P) .nil .nil) (.node (o231 P) .nil .nil))) (.node (o55 P) (.node (o87 P) (.node (o151 P) .nil .nil) (.node (o215 P) .nil .nil)) (.node (o119 P) (.node (o183 P) .nil .nil) .nil)))) (.node (o11 P) (.node (o19 P) (.node (o35 P) (.node (o67 P) (.node (o131 P) .nil .nil) (.node (o195 P) .nil .nil)) (.node (o99 P) (.node (o163 P) .nil .nil) (.node (o227 P) .nil .nil))) (.node (o51 P) (.node (o83 P) (.node (o147 P) .nil .nil) (.node (o211 P) .nil .nil)) (.node (o115 P) (.node (o179 P) .nil .nil) .nil))) (.node (o27 P) (.node (o43 P) (.node (o75 P) (.node (o139 P) .nil .nil) (.node (o203 P) .nil .nil)) (.node (o107 P) (.node (o171 P) .nil .nil) (.node (o235 P) .nil .nil))) (.node (o59 P) (.node (o91 P) (.node (o155 P) .nil .nil) (.node (o219 P) .nil .nil)) (.node (o123 P) (.node (o187 P) .nil .nil) .nil))))) (.node (PySem.W.boot_o_5 P) (.node (PySem.W.boot_o_9 P) (.node (o17 P) (.node (o33 P) (.node (o65 P) (.node (o129 P) .nil .nil) (.node (o193 P) .nil .nil)) (.node (o97 P) (.node (o161 P) .nil .nil) (.node (o225 P) .nil .nil))) (.node (o49 P) (.node (o81 P) (.node (o145 P) .nil .nil) (.node (o209 P) .nil .nil)) (.node (o113 P) (.node (o177 P) .nil .nil) .nil))) (.node (o25 P) (.node (o41 P) (.node (o73 P) (.node (o137 P) .nil .nil) (.node (o201 P) .nil .nil)) (.node (o105 P) (.node (o169 P) .nil .nil) (.node (o233 P) .nil .nil))) (.node (o57 P) (.node (o89 P) (.node (o153 P) .nil .nil) (.node (o217 P) .nil .nil)) (.node (o121 P) (.node (o185 P) .nil .nil) .nil)))) (.node (o13 P) (.node (o21 P) (.node (o37 P) (.node (o69 P) (.node (o133 P) .nil .nil) (.node (o197 P) .nil .nil)) (.node (o101 P) (.node (o165 P) .nil .nil) (.node (o229 P) .nil .nil))) (.node (o53 P) (.node (o85 P) (.node (o149 P) .nil .nil) (.node (o213 P) .nil .nil)) (.node (o117 P) (.node (o181 P) .nil .nil) .nil))) (.node (o29 P) (.node (o45 P) (.node (o77 P) (.node (o141 P) .nil .nil) (.node (o205 P) .nil .nil)) (.node (o109 P) (.node (o173 P) .nil .nil) (.node (o237 P) .nil .nil))) (.node (o61 P) (.node (o93 P) (.node (o157 P) .nil .nil) (.node (o221 P) .nil .nil)) (.node (o125 P) (.node (o189 P) .nil .nil) .nil)))))) (.node (PySem.W.boot_o_2 P) (.node (PySem.W.boot_o_4 P) (.node (PySem.W.boot_o_8 P) (.node (o16 P) (.node (o32 P) (.node (o64 P) (.node (o128 P) .nil .nil) (.node (o192 P) .nil .nil)) (.node (o96 P) (.node (o160 P) .nil .nil) (.node (o224 P) .nil .nil))) (.node (o48 P) (.node (o80 P) (.node (o144 P) .nil .nil) (.node (o208 P) .nil .nil)) (.node (o112 P) (.node (o176 P) .nil .nil) (.node (o240 P) .nil .nil)))) (.node (o24 P) (.node (o40 P) (.node (o72 P) (.node (o136 P) .nil .nil) (.node (o200 P) .nil .nil)) (.node (o104 P) (.node (o168 P) .nil .nil) (.node (o232 P) .nil .nil))) (.node (o56 P) (.node (o88 P) (.node (o152 P) .nil .nil) (.node (o216 P) .nil .nil)) (.node (o120 P) (.node (o184 P) .nil .nil) .nil)))) (.node (o12 P) (.node (o20 P) (.node (o36 P) (.node (o68 P) (.node (o132 P) .nil .nil) (.node (o196 P) .nil .nil)) (.node (o100 P) (.node (o164 P) .nil .nil) (.node (o228 P) .nil .nil))) (.node (o52 P) (.node (o84 P) (.node (o148 P) .nil .nil) (.node (o212 P) .nil .nil)) (.node (o116 P) (.node (o180 P) .nil .nil) .nil))) (.node (o28 P) (.node (o44 P) (.node (o76 P) (.node (o140 P) .nil .nil) (.node (o204 P) .nil .nil)) (.node (o108 P) (.node (o172 P) .nil .nil) (.node (o236 P) .nil .nil))) (.node (o60 P) (.node (o92 P) (.node (o156 P) .nil .nil) (.node (o220 P) .nil .nil)) (.node (o124 P) (.node (o188 P) .nil .nil) .nil))))) (.node (PySem.W.boot_o_6 P) (.node (PySem.W.boot_o_10 P) (.node (o18 P) (.node (o34 P) (.node (o66 P) (.node (o130 P) .nil .nil) (.node (o194 P) .nil .nil)) (.node (o98 P) (.node (o162 P) .nil .nil) (.node (o226 P) .nil .nil))) (.node (o50 P) (.node (o82 P) (.node (o146 P) .nil .nil) (.node (o210 P) .nil .nil)) (.node (o114 P) (.node (o178 P) .nil .nil) .nil))) (.node (o26 P) (.node (o42 P) (.node (o74 P) (.node (o138 P) .nil .nil) (.node (o202 P) .nil .nil)) (.node (o106 P) (.node (o170 P) .nil .nil) (.node (o234 P) .nil .nil))) (.node (o58 P) (.node (o90 P) (.node (o154 P) .nil .nil) (.node (o218 P) .nil .nil)) (.node (o122 P) (.node (o186 P) .nil .nil) .nil)))) (.node (o14 P) (.node (o22 P) (.node (o38 P) (.node (o70 P) (.node (o134 P) .nil .nil) (.node (o198 P) .nil .nil)) (.node (o102 P) (.node (o166 P) .nil .nil) (.node (o230 P) .nil .nil))) (.node (o54 P) (.node (o86 P) (.node (o150 P) .nil .nil) (.node (o214 P) .nil .nil)) (.node (o118 P) (.node (o182 P) .nil .nil) .nil))) (.node (o30 P) (.node (o46 P) (.node (o78 P) (.node (o142 P) .nil .nil) (.node (o206 P) .nil .nil)) (.node (o110 P) (.node (o174 P) .nil .nil) (.node (o238 P) .nil .nil))) (.node (o62 P) (.node (o94 P) (.node (o158 P) .nil .nil) (.node (o222 P) .nil .nil)) (.node (o126 P) (.node (o190 P) .nil .nil) .nil)))))))
noncomputable def objsL (P : Params) : List Obj := [PySem.W.boot_o_0 P, PySem.W.boot_o_1 P, PySem.W.boot_o_2 P, o3 P, PySem.W.boot_o_4 P, PySem.W.boot_o_5 P, PySem.W.boot_o_6 P, PySem.W.boot_o_7 P, PySem.W.boot_o_8 P, PySem.W.boot_o_9 P, PySem.W.boot_o_10 P, o11 P, o12 P, o13 P, o14 P, o15 P, o16 P, o17 P, o18 P, o19 P, o20 P, o21 P, o22 P, o23 P, o24 P, o25 P, o26 P, o27 P, o28 P, o29 P, o30 P, o31 P, o32 P, o33 P, o34 P, o35 P, o36 P, o37 P, o38 P, o39 P, o40 P, o41 P, o42 P, o43 P, o44 P, o45 P, o46 P, o47 P, o48 P, o49 P, o50 P, o51 P, o52 P, o53 P, o54 P, o55 P, o56 P, o57 P, o58 P, o59 P, o60 P, o61 P, o62 P, o63 P, o64 P, o65 P, o66 P, o67 P, o68 P, o69 P, o70 P, o71 P, o72 P, o73 P, o74 P, o75 P, o76 P, o77 P, o78 P, o79 P, o80 P, o81 P, o82 P, o83 P, o84 P, o85 P, o86 P, o87 P, o88 P, o89 P, o90 P, o91 P, o92 P, o93 P, o94 P, o95 P, o96 P, o97 P, o98 P, o99 P, o100 P, o101 P, o102 P, o103 P, o104 P, o105 P, o106 P, o107 P, o108 P, o109 P, o110 P, o111 P, o112 P, o113 P, o114 P, o115 P, o116 P, o117 P, o118 P, o119 P, o120 P, o121 P, o122 P, o123 P, o124 P, o125 P, o126 P, o127 P, o128 P, o129 P, o130 P, o131 P, o132 P, o133 P, o134 P, o135 P, o136 P, o137 P, o138 P, o139 P, o140 P, o141 P, o142 P, o143 P, o144 P, o145 P, o146 P, o147 P, o148 P, o149 P, o150 P, o151 P, o152 P, o153 P, o154 P, o155 P, o156 P, o157 P, o158 P, o159 P, o160 P, o161 P, o162 P, o163 P, o164 P, o165 P, o166 P, o167 P, o168 P, o169 P, o170 P, o171 P, o172 P, o173 P, o174 P, o175 P, o176 P, o177 P, o178 P, o179 P, o180 P, o181 P, o182 P, o183 P, o184 P, o185 P, o186 P, o187 P, o188 P, o189 P, o190 P, o191 P, o192 P, o193 P, o194 P, o195 P, o196 P, o197 P, o198 P, o199 P, o200 P, o201 P, o202 P, o203 P, o204 P, o205 P, o206 P, o207 P, o208 P, o209 P, o210 P, o211 P, o212 P, o213 P, o214 P, o215 P, o216 P, o217 P, o218 P, o219 P, o220 P, o221 P, o222 P, o223 P, o224 P, o225 P, o226 P, o227 P, o228 P, o229 P, o230 P, o231 P, o232 P, o233 P, o234 P, o235 P, o236 P, o237 P, o238 P, o239 P, o240 P]
noncomputable def Hfin (P : Params) : Heap := ⟨⟨objsL P⟩, {}⟩
end Mine
namespace Mine
abbrev qB : Pos := ⟨0, 0, 0, 0⟩
noncomputable def envT : Env := { scope := pw.main.scope, locals := mainNs, globals := mainNs, cells := [], code := .ref 13, frame := some 14 }
noncomputable def bodyT : List Stmt := behindTheImports pw
noncomputable def cE : Code := .body bodyT envT
abbrev annT : Option Value := some (.ref 6)
noncomputable def stsT (a b : Nat) : List Stmt := (bodyT.drop a).take b
noncomputable def S (T : Params → BT) (n tk : Nat) (w : World) (os : OsState) : SharedT := ⟨T w.params, n, {}, #[], ⟨0, 0, 0, 0⟩, tk, os⟩
theorem bodyT_eq : bodyT = stsT 0 10 ++ (stsT 10 1 ++ (stsT 11 51 ++ (stsT 62 1 ++ (stsT 63 19 ++ [])))) := by kernel_rfl
theorem piece (w : World) (os : OsState) (l : List Stmt) (n : Nat) (S S' : SharedT) (p p' : Pos)
    (k : PySem.W.Fast.tw10110043849684766642 PySem.W.Fast.tw14364793385576792824 pw w 11 annT 1 n S ⟨(PySem.W.Fast.tw12563942051412417395 l envT).wrap doneF deadEnd id id, cE, p, [topFrame qB]⟩ = some (.next, S', cE, p')) :
    segRun treeTable pw w 11 annT 1 n S.abs (piecesOf l envT cE p [topFrame qB]) = some (.next, S'.abs, cE, p') := by
  refine segRun_of ?_
  rw [PySem.W.Fast.te10110043849684766642, PySem.W.Fast.te14364793385576792824, show piecesOf l envT cE p [topFrame qB] = ⟨(execs l envT).wrap doneF deadEnd id id, cE, p, [topFrame qB]⟩ from rfl, PySem.W.Fast.te12563942051412417395]
  exact k
theorem p0 (w : World) (os : OsState) : segRun treeTable pw w 11 annT 1 267 (S T_pre 15 187 w os).abs (piecesOf (stsT 0 10) envT cE qB [topFrame qB]) = some (.next, (S T_p9 64 278 w os).abs, cE, ⟨79, 0, 79, 8⟩) :=
  piece w os _ _ _ _ _ _ (by kernel_rfl)
theorem p1 (w : World) (os : OsState) : segRun treeTable pw w 11 annT 1 489 (S T_p9 64 278 w os).abs (piecesOf (stsT 10 1) envT cE ⟨79, 0, 79, 8⟩ [topFrame qB]) = some (.next, (S T_p10 130 374 w os).abs, cE, ⟨80, 0, 126, 16⟩) :=
  byRow2 "special-get-raises" (P := fun w => segRun treeTable pw w 11 annT 1 489 (S T_p9 64 278 w os).abs (piecesOf (stsT 10 1) envT cE ⟨79, 0, 79, 8⟩ [topFrame qB]) = some (.next, (S T_p10 130 374 w os).abs, cE, ⟨80, 0, 126, 16⟩))
    (fun w => piece (w.withFollow "special-get-raises" false) os _ _ _ _ _ _ (by kernel_rfl)) (fun w => piece (w.withFollow "special-get-raises" true) os _ _ _ _ _ _ (by kernel_rfl)) w
theorem pT2 (w : World) (os : OsState) : segRun treeTable pw w 11 annT 1 460 (S T_p10 130 374 w os).abs (piecesOf (stsT 11 51) envT cE ⟨80, 0, 126, 16⟩ [topFrame qB]) = some (.next, (S T_p61 130 476 w os).abs, cE, ⟨177, 0, 177, 9⟩) :=
  piece w os _ _ _ _ _ _ (by kernel_rfl)
theorem p3 (w : World) (os : OsState) : segRun treeTable pw w 11 annT 1 979 (S T_p61 130 476 w os).abs (piecesOf (stsT 62 1) envT cE ⟨177, 0, 177, 9⟩ [topFrame qB]) = some (.next, (S T_p62 133 573 w os).abs, cE, ⟨178, 0, 178, 17⟩) :=
  byRow2 "special-get-raises" (P := fun w => segRun treeTable pw w 11 annT 1 979 (S T_p61 130 476 w os).abs (piecesOf (stsT 62 1) envT cE ⟨177, 0, 177, 9⟩ [topFrame qB]) = some (.next, (S T_p62 133 573 w os).abs, cE, ⟨178, 0, 178, 17⟩))
    (fun w => piece (w.withFollow "special-get-raises" false) os _ _ _ _ _ _ (by kernel_rfl)) (fun w => piece (w.withFollow "special-get-raises" true) os _ _ _ _ _ _ (by kernel_rfl)) w
theorem p4 (w : World) (os : OsState) : segRun treeTable pw w 11 annT 1 548 (S T_p62 133 573 w os).abs (piecesOf (stsT 63 19) envT cE ⟨178, 0, 178, 17⟩ [topFrame qB]) = some (.next, (S T_p81 241 722 w os).abs, cE, ⟨291, 0, 306, 116⟩) :=
  piece w os _ _ _ _ _ _ (by kernel_rfl)
end Mine
namespace Mine
theorem pPre (w : World) (os : OsState) : topGo treeTable pw w 11 annT 12 ⟨boot_heap w.params, #[], boot_drawn, boot_toks, os⟩ (topStub pw) = some ((S T_pre 15 187 w os).abs, ⟨denote treeTable cE, cE, qB, [topFrame qB]⟩) := by
  rw [PySem.W.Fast.te15667345088766844465, PySem.W.Fast.te14364793385576792824, PySem.W.Fast.te11892475500146522536]
  kernel_rfl
theorem pBlock (w : World) (os : OsState) : segRun treeTable pw w 11 annT 1 1 (S T_pre 15 187 w os).abs (blockOf bodyT envT cE qB [topFrame qB]) = some (.next, (S T_pre 15 187 w os).abs, cE, qB) := by
  kernel_rfl
theorem pFin (w : World) (os : OsState) : topRun treeTable pw w 11 annT 2 (S T_p81 241 722 w os).abs ⟨doneF .next, cE, ⟨291, 0, 306, 116⟩, [topFrame qB]⟩ = some ⟨Hfin w.params, #[], ⟨0, 0, 0, 0⟩, 722, os⟩ := by
  rw [PySem.W.Fast.te14082659384304107361, PySem.W.Fast.te14364793385576792824]
  kernel_rfl
theorem pRun (w : World) (os : OsState) : topRun treeTable pw w 11 annT (12 + (1 + (267 + (489 + (460 + (979 + (548 + 2))))))) ⟨boot_heap w.params, #[], boot_drawn, boot_toks, os⟩ (topStub pw) = some ⟨Hfin w.params, #[], ⟨0, 0, 0, 0⟩, 722, os⟩ := by
  refine go_top (pPre w os) ?_
  refine piece_block (b := bodyT) (env := envT) (pBlock w os) ?_
  rw [bodyT_eq]
  exact piece_app (p0 w os) (piece_app (p1 w os) (piece_app (pT2 w os) (piece_app (p3 w os) (piece_app (p4 w os) (piece_nil (pFin w os))))))
end Mine
namespace Mine
noncomputable def looseT : List Str := [t11, t12, t13, t14, t15, t16, t17, t18, t19, t20, t21, t22, t23, t24, t25, t26, t27, t28, t29, t30, t31, t32, t33, t34, t35, t36, t37, t38, t39, t40, t41, t42, t43, t44, t45, t46, t47, t48, t49, t50, t51, t52, t53, t54, t55, t56, t57, t58, t59, t60, t61, t62, t63, t64, t65, t66, t67, t68, t69, t70, t71, t72, t73, t74, t75, t76, t77, t78, t79, t80, t81, t82, t83, t84, t85, t86, t87]
noncomputable def qP : Program := { pw with main := { pw.main with body := [stmtAt 81] } }
abbrev XtT : Shared → Bool := fun _ => true
theorem chainsT : chainsOk qP = true := by kernel_rfl
theorem pOpen (w : World) : (fencedOpening treeTable pw w 6000).map (fun s => (s.heap, s.gens, s.drawn, s.toks)) = some (boot_heap w.params, Array.mk [], boot_drawn, boot_toks) :=
  boot_open (N := 6000) (by kernel_rfl) (by rfl) (fun s => by kernel_rfl) w
theorem pSize (w : World) : ((boot_heap w.params).isNs mainGlobals && (Array.mk ([] : List GenState)).size == 0, (boot_heap w.params).objs.size, (boot_heap w.params).nsMap mainGlobals "__annotations__") = (true, 11, annT) := by
  kernel_rfl
theorem pL1 (w : World) (os : OsState) : (staticsOk (importedModules pw.main.body) (boot_heap w.params) (Hfin w.params) && namesBound pw (Hfin w.params) && gensDone ⟨Hfin w.params, #[], ⟨0, 0, 0, 0⟩, 722, os⟩ && laidKept (boot_heap w.params) (Hfin w.params)) = true := by
  kernel_rfl
theorem pL2 (w : World) (os : OsState) : openSeen qP looseT (importedModules pw.main.body) XtT true ⟨Hfin w.params, #[], ⟨0, 0, 0, 0⟩, 722, os⟩ = openGood qP looseT := by
  rw [PySem.W.Fast.te4187177175401517315, PySem.W.Fast.te5923862056798008813]
  kernel_rfl
end Mine
namespace Mine
abbrev rwL : OpenLaw := PySem.Challenge.rw_sc0104_01
theorem said1 : namesResolve rwL.row.prog = true := (congrFun PySem.W.Fast.te8377067652309620493 _).trans (by kernel_rfl)
theorem said2 : noRoadLSs { strict := !(importedModules rwL.row.prog.main.body).all cThrough.contains, foot := none, bare := (["vars", "dir", "locals"] : List Str).filter (readsOut rwL.row.prog rwL.row.prog.main.body) } rwL.row.prog.main.body = true :=
  (congrFun (congrFun PySem.W.Fast.te8326940854005059898 _) _).trans (by kernel_rfl)
theorem said3 : (namesMeet rwL.row.prog rwL.row.prog.main.body fun _ n => attrL n) = true := (congrFun (congrFun (congrFun PySem.W.Fast.te17119622794617984870 _) _) _).trans (by kernel_rfl)
theorem said4 : looksOpen rwL.row.prog = true := look_both (look_both (look_both (look_both (look_both (by kernel_rfl) (by kernel_rfl)) said1) (by kernel_rfl)) said2) said3
theorem said5 : rwL.row.partSaid = true :=
  look_both (look_both (look_both (look_both (look_both (look_both (look_both (look_both (look_both (look_both (look_both (look_both (look_both said4 rfl) rfl) rfl) rfl) (by kernel_rfl)) rfl) (by kernel_rfl)) (by kernel_rfl)) (by kernel_rfl)) rfl) rfl) rfl) rfl
theorem said6 : rwL.row.wellSaid = true := look_both (look_both said5 (by kernel_rfl)) (by kernel_rfl)
theorem said7 : noRoadLSs { strict := true, foot := some rwL.bound', writes := rwL.writes, may := rwL.may } rwL.footing = true := (congrFun (congrFun PySem.W.Fast.te8326940854005059898 _) _).trans (by kernel_rfl)
theorem said8 : defStands rwL.about rwL.above = true := (congrFun (congrFun PySem.W.Fast.te9558739934217749035 _) _).trans (by kernel_rfl)
theorem said9 : rwL.namesIt = true := (congrFun PySem.W.Fast.te16286561074155671207 _).trans (by kernel_rfl)
theorem said10 : noClassBlock rwL.prog rwL.footing = true := (congrFun (congrFun PySem.W.Fast.te8179353310426384613 _) _).trans (by kernel_rfl)
theorem said11 : (namesMeet rwL.prog rwL.footing (fun sc n => (!(["type", "isinstance", "issubclass", "getattr", "hasattr"] : List Str).contains n || sc.names.lookup n == some .globalImplicit) &&
    (rwL.may != some n || sc.kind == .module || sc.names.lookup n == some .globalImplicit))) = true := (congrFun (congrFun (congrFun PySem.W.Fast.te17119622794617984870 _) _) _).trans (by kernel_rfl)
theorem said12 : namesMeet rwL.prog rwL.above (fun _ n => !rwL.own.contains n) = true := (congrFun (congrFun (congrFun PySem.W.Fast.te17119622794617984870 _) _) _).trans (by kernel_rfl)
theorem said13 : (namesMeet rwL.prog rwL.footing fun sc n => sc.kind == .module || sc.names.lookup n != some .globalExplicit) = true := (congrFun (congrFun (congrFun PySem.W.Fast.te17119622794617984870 _) _) _).trans (by kernel_rfl)
theorem pWell : rwL.wellSaid = true :=
  look_both (look_both (look_both (look_both (look_both (look_both (look_both (look_both (look_both (look_both (look_both (look_both (look_both (look_both (look_both (look_both (look_both (look_both said6
    (by kernel_rfl)) (by kernel_rfl)) said10) (by kernel_rfl)) (by kernel_rfl)) said7) said8) said9) (by kernel_rfl)) (by kernel_rfl)) (by kernel_rfl)) (by kernel_rfl)) said11) (by kernel_rfl)) (by kernel_rfl)) (by kernel_rfl)) said12) said13
end Mine
namespace Mine
theorem pLeft : LeftO pw qP looseT XtT (fun s => s.heap) (fun w => Hfin w.params) 6000 :=
  LeftO.of_pieces (H₀ := boot_heap) (H₁ := Hfin) (gs₀ := Array.mk []) (gs₁ := #[]) (d₀ := boot_drawn) (d₁ := ⟨0, 0, 0, 0⟩) (k₀ := boot_toks) (k₁ := 722) (m₀ := 11) (ann := annT) (M := 12 + (1 + (267 + (489 + (460 + (979 + (548 + 2)))))))
    pOpen pSize pRun (by rfl) (fun w => funext fun os => by rw [pL1, pL2])
abbrev SaysT (w : World) (h : Heap) : Prop := ∀ b o, (Hfin w.params).get? b = some o → h.get? b = some o
noncomputable def dLaw : DefRec := ⟨"law", (fd 81).params, (fd 81).body, (fd 81).scope, ⟨291, 0, 306, 116⟩⟩
theorem pBare : rwL.row.prog.bare := ⟨rfl, rfl, rfl, rfl, rfl, by decide +kernel⟩
theorem hd (walk : WalkO qP looseT (fun _ _ => True) SaysT rwL.row.toRowW dLaw [] fun f vs => PySem.call f vs) : rwL.Holds :=
  holds_law pWell fun said => holds_open (r := rwL.row) (q := qP) (loose := looseT) (Xt := XtT) (XP := fun _ _ => True) (Yf := fun s => s.heap) (Ya := fun w => Hfin w.params) (YP := SaysT) (d := dLaw) (kwd := []) (N := 6000)
    pLeft (fun w s e b o q => by rw [show s.heap = Hfin w.params from e]; exact q) (fun w h h' y k b o q => k b o (y b o q)) (fun _ _ => trivial) (fun _ _ _ _ _ => trivial)
    (by kernel_rfl) (by kernel_rfl) (by kernel_rfl) (fun s e => recFacts_nil rfl) (by rfl) said (by kernel_rfl) pBare (by w_witness2) walk
end Mine
namespace Mine
theorem no_get {α : Type} {x : Option α} {o : α} (a : x = none) (b : x = some o) : False := by rw [a] at b; cases b
inductive D where
  | none
  | bool (b : Bool)
  | int (i : Int)
  | str (x : Str)
  | list (l : List D)
  | tup (l : List D)
noncomputable abbrev MS := Addr → Prop
noncomputable abbrev lob (vs : Array Value) (n : Nat) : Obj := { cls := .type "list", data := .seq vs n }
noncomputable abbrev tob (vs : Array Value) (n : Nat) : Obj := { cls := .type "tuple", data := .seq vs n }
mutual
inductive Rep (M : MS) (h : Heap) : Value → D → Prop
  | none : Rep M h .none .none
  | bool (b : Bool) : Rep M h (.bool b) (.bool b)
  | int (i : Int) (t : Tok) : Rep M h (.int i t) (.int i)
  | str (x : Str) (t : Tok) : Rep M h (.str x t) (.str x)
  | list {a : Addr} {n : Nat} {vs : Array Value} {ds : List D} : h.get? a = some (lob vs n) → ¬ M a → RepL M h vs.toList ds → Rep M h (.ref a) (.list ds)
  | tup {a : Addr} {n : Nat} {vs : Array Value} {ds : List D} : h.get? a = some (tob vs n) → ¬ M a → RepL M h vs.toList ds → Rep M h (.ref a) (.tup ds)
inductive RepL (M : MS) (h : Heap) : List Value → List D → Prop
  | nil : RepL M h [] []
  | cons {v : Value} {vs : List Value} {d : D} {ds : List D} : Rep M h v d → RepL M h vs ds → RepL M h (v :: vs) (d :: ds)
end
noncomputable def Ext (T : List Addr) (h h' : Heap) : Prop := ∀ b o, h.get? b = some o →
  h'.get? b = some o ∨ (b ∈ T ∧ o.cls = .none ∧ ∃ vs more, o.data = .fields vs ∧ h'.get? b = some { o with data := .fields (vs ++ more) })
noncomputable abbrev Sub (h h' : Heap) : Prop := ∀ b o, h.get? b = some o → h'.get? b = some o
theorem Ext.refl (T : List Addr) (h : Heap) : Ext T h h := fun _ _ e => .inl e
theorem Ext.of {T : List Addr} {h h' : Heap} (x : Sub h h') : Ext T h h' := fun b o e => .inl (x b o e)
theorem Ext.get {T : List Addr} {h h' : Heap} (x : Ext T h h') {b : Addr} {o : Obj} (e : h.get? b = some o) (hc : o.cls ≠ .none) : h'.get? b = some o := by
  rcases x b o e with q | ⟨_, q, _⟩
  · exact q
  · exact absurd q hc
theorem Ext.getD {T : List Addr} {h h' : Heap} (x : Ext T h h') {b : Addr} {o : Obj} (e : h.get? b = some o) (hc : ∀ vs, o.data ≠ .fields vs) : h'.get? b = some o := by
  rcases x b o e with q | ⟨_, _, vs, _, q, _⟩
  · exact q
  · exact absurd q (hc vs)
theorem Ext.some {T : List Addr} {h h' : Heap} (x : Ext T h h') {b : Addr} {o : Obj} (e : h.get? b = some o) : ∃ o', h'.get? b = some o' := by
  rcases x b o e with q | ⟨_, _, _, _, _, q⟩
  · exact ⟨_, q⟩
  · exact ⟨_, q⟩
theorem Ext.trans {T : List Addr} {h₁ h₂ h₃ : Heap} (x : Ext T h₁ h₂) (y : Ext T h₂ h₃) : Ext T h₁ h₃ := fun b o e => by
  rcases x b o e with q | ⟨ht, hc, vs, more, hd, q⟩
  · exact y b o q
  · rcases y b _ q with q' | ⟨_, _, vs', more', hd', q'⟩
    · exact .inr ⟨ht, hc, vs, more, hd, q'⟩
    · cases hd'
      exact .inr ⟨ht, hc, vs, more ++ more', hd, by rw [q', Array.append_assoc]⟩
mutual
theorem Rep.mono {M M' : MS} {h h' : Heap} {v : Value} {d : D} (x : Rep M h v d) (k : ∀ b vs n, ¬ M b → (h.get? b = some (lob vs n) → h'.get? b = some (lob vs n)) ∧ (h.get? b = some (tob vs n) → h'.get? b = some (tob vs n))) (m : ∀ b o, h.get? b = some o → M' b → M b) : Rep M' h' v d :=
  match x with
  | .none => .none
  | .bool b => .bool b
  | .int i t => .int i t
  | .str y t => .str y t
  | .list e hm r => .list ((k _ _ _ hm).1 e) (fun q => hm (m _ _ e q)) (r.mono k m)
  | .tup e hm r => .tup ((k _ _ _ hm).2 e) (fun q => hm (m _ _ e q)) (r.mono k m)
theorem RepL.mono {M M' : MS} {h h' : Heap} {v : List Value} {d : List D} (x : RepL M h v d) (k : ∀ b vs n, ¬ M b → (h.get? b = some (lob vs n) → h'.get? b = some (lob vs n)) ∧ (h.get? b = some (tob vs n) → h'.get? b = some (tob vs n))) (m : ∀ b o, h.get? b = some o → M' b → M b) : RepL M' h' v d :=
  match x with
  | .nil => .nil
  | .cons a r => .cons (a.mono k m) (r.mono k m)
end
theorem Rep.ext {T : List Addr} {M : MS} {h h' : Heap} {v : Value} {d : D} (x : Rep M h v d) (k : Ext T h h') : Rep M h' v d :=
  x.mono (fun _ _ _ _ => ⟨fun e => k.get e (by intro q; cases q), fun e => k.get e (by intro q; cases q)⟩) fun _ _ _ q => q
theorem RepL.ext {T : List Addr} {M : MS} {h h' : Heap} {v : List Value} {d : List D} (x : RepL M h v d) (k : Ext T h h') : RepL M h' v d :=
  x.mono (fun _ _ _ _ => ⟨fun e => k.get e (by intro q; cases q), fun e => k.get e (by intro q; cases q)⟩) fun _ _ _ q => q
theorem Rep.anti {M M' : MS} {h : Heap} {v : Value} {d : D} (x : Rep M h v d) (m : ∀ b, M' b → M b) : Rep M' h v d := x.mono (fun _ _ _ _ => ⟨id, id⟩) fun b _ _ q => m b q
theorem RepL.anti {M M' : MS} {h : Heap} {v : List Value} {d : List D} (x : RepL M h v d) (m : ∀ b, M' b → M b) : RepL M' h v d := x.mono (fun _ _ _ _ => ⟨id, id⟩) fun b _ _ q => m b q
theorem Rep.but {M : MS} {h h' : Heap} {L : Addr} {v : Value} {d : D} (x : Rep M h v d) (hL : M L) (k : ∀ b o, b ≠ L → h.get? b = some o → h'.get? b = some o) : Rep M h' v d :=
  x.mono (fun b _ _ hb => ⟨k b _ (fun q => hb (q ▸ hL)), k b _ (fun q => hb (q ▸ hL))⟩) fun _ _ _ q => q
theorem RepL.but {M : MS} {h h' : Heap} {L : Addr} {v : List Value} {d : List D} (x : RepL M h v d) (hL : M L) (k : ∀ b o, b ≠ L → h.get? b = some o → h'.get? b = some o) : RepL M h' v d :=
  x.mono (fun b _ _ hb => ⟨k b _ (fun q => hb (q ▸ hL)), k b _ (fun q => hb (q ▸ hL))⟩) fun _ _ _ q => q
theorem RepL.length {M : MS} {h : Heap} : ∀ {v : List Value} {d : List D}, RepL M h v d → v.length = d.length
  | _, _, .nil => rfl
  | _, _, .cons _ r => congrArg (· + 1) r.length
theorem RepL.append {M : MS} {h : Heap} : ∀ {v : List Value} {d : List D} {v' : List Value} {d' : List D}, RepL M h v d → RepL M h v' d' → RepL M h (v ++ v') (d ++ d')
  | _, _, _, _, .nil, y => y
  | _, _, _, _, .cons a r, y => .cons a (r.append y)
theorem RepL.get {M : MS} {h : Heap} : ∀ {v : List Value} {d : List D}, RepL M h v d → ∀ {i : Nat} {y : D}, d[i]? = some y → ∃ x, v[i]? = some x ∧ Rep M h x y
  | _, _, .nil, _, _, e => by simp at e
  | _, _, .cons a r, 0, _, e => ⟨_, rfl, by simp at e; exact e ▸ a⟩
  | _, _, .cons a r, i + 1, y, e => by simpa using r.get (i := i) (y := y) (by simpa using e)
theorem RepL.getV {M : MS} {h : Heap} : ∀ {v : List Value} {d : List D}, RepL M h v d → ∀ {i : Nat} {x : Value}, v[i]? = some x → ∃ y, d[i]? = some y ∧ Rep M h x y
  | _, _, .nil, _, _, e => by simp at e
  | _, _, .cons a r, 0, _, e => ⟨_, rfl, by simp at e; exact e ▸ a⟩
  | _, _, .cons a r, i + 1, y, e => by simpa using r.getV (i := i) (x := y) (by simpa using e)
theorem RepL.snoc {M : MS} {h : Heap} {v : List Value} {d : List D} {x : Value} {y : D} (r : RepL M h v d) (a : Rep M h x y) : RepL M h (v ++ [x]) (d ++ [y]) := r.append (.cons a .nil)
theorem RepL.take {M : MS} {h : Heap} : ∀ {v : List Value} {d : List D} (_ : RepL M h v d) (n : Nat), RepL M h (v.take n) (d.take n)
  | _, _, .nil, n => by simp; exact .nil
  | _, _, .cons _ _, 0 => .nil
  | _, _, .cons a r, n + 1 => .cons a (r.take n)
theorem RepL.drop {M : MS} {h : Heap} : ∀ {v : List Value} {d : List D} (_ : RepL M h v d) (n : Nat), RepL M h (v.drop n) (d.drop n)
  | _, _, .nil, n => by simp; exact .nil
  | _, _, .cons a r, 0 => .cons a r
  | _, _, .cons _ r, n + 1 => r.drop n
theorem RepL.reverse {M : MS} {h : Heap} : ∀ {v : List Value} {d : List D} (_ : RepL M h v d), RepL M h v.reverse d.reverse
  | _, _, .nil => .nil
  | _, _, .cons a r => by rw [List.reverse_cons, List.reverse_cons]; exact r.reverse.snoc a
theorem RepL.set {M : MS} {h : Heap} {x : Value} {y : D} (a : Rep M h x y) : ∀ {v : List Value} {d : List D} (_ : RepL M h v d) (n : Nat), RepL M h (v.set n x) (d.set n y)
  | _, _, .nil, n => .nil
  | _, _, .cons b r, 0 => .cons a r
  | _, _, .cons b r, n + 1 => .cons b (r.set a n)
theorem Rep.iInt {M : MS} {h : Heap} {v : Value} {i : Int} (r : Rep M h v (.int i)) : ∃ t, v = .int i t := by cases r; exact ⟨_, rfl⟩
theorem Rep.iStr {M : MS} {h : Heap} {v : Value} {x : Str} (r : Rep M h v (.str x)) : ∃ t, v = .str x t := by cases r; exact ⟨_, rfl⟩
theorem Rep.iBool {M : MS} {h : Heap} {v : Value} {b : Bool} (r : Rep M h v (.bool b)) : v = .bool b := by cases r; rfl
theorem Rep.iList {M : MS} {h : Heap} {v : Value} {ds : List D} (r : Rep M h v (.list ds)) : ∃ (a : Addr) (n : Nat) (vs : Array Value), v = .ref a ∧ h.get? a = some (lob vs n) ∧ ¬ M a ∧ RepL M h vs.toList ds := by
  cases r with | list e m r => exact ⟨_, _, _, rfl, e, m, r⟩
theorem Rep.iTup {M : MS} {h : Heap} {v : Value} {ds : List D} (r : Rep M h v (.tup ds)) : ∃ (a : Addr) (n : Nat) (vs : Array Value), v = .ref a ∧ h.get? a = some (tob vs n) ∧ ¬ M a ∧ RepL M h vs.toList ds := by
  cases r with | tup e m r => exact ⟨_, _, _, rfl, e, m, r⟩
theorem RepL.iCons {M : MS} {h : Heap} {vs : List Value} {d : D} {ds : List D} (r : RepL M h vs (d :: ds)) : ∃ x l, vs = x :: l ∧ Rep M h x d ∧ RepL M h l ds := by
  cases r with | cons a r => exact ⟨_, _, rfl, a, r⟩
theorem RepL.nil_inv {M : MS} {h : Heap} {v : List Value} (r : RepL M h v []) : v = [] := by cases r; rfl
structure Room (A : Around) (n : Nat) : Prop where
  handled : A.handled = none
  depth : A.depth + n < recursionLimit
  units : A.units + 8 * n < cLine
theorem Room.less {A : Around} {n m : Nat} (R : Room A n) (h : m ≤ n) : Room A m := ⟨R.handled, by have := R.depth; (first | lia (splits := 0) | omega), by have := R.units; (first | lia (splits := 0) | omega)⟩
theorem Room.in1 {A : Around} {n : Nat} (R : Room A (n + 1)) : Room A.in1 n := ⟨R.handled, by have := R.depth; simp only [Around.in1_depth]; (first | lia (splits := 0) | omega), by have := R.units; simp only [Around.in1_units]; (first | lia (splits := 0) | omega)⟩
theorem Room.deeper {A : Around} {n : Nat} {env : Env} (R : Room A (n + 1)) : Room (A.deeper env) n := ⟨R.handled, by have := R.depth; show A.depth + 1 + n < _; (first | lia (splits := 0) | omega), by have := R.units; simp only [Around.deeper_units]; (first | lia (splits := 0) | omega)⟩
theorem Room.d {A : Around} {n : Nat} (R : Room A n) : A.depth < recursionLimit := by have := R.depth; (first | lia (splits := 0) | omega)
theorem Room.u {A : Around} {n : Nat} (R : Room A n) : A.units < cLine := by have := R.units; (first | lia (splits := 0) | omega)
noncomputable def KK (P : Params) : Frag := [(2, boot_o_2 P), (4, boot_o_4 P), (79, o79 P), (80, o80 P), (93, o93 P), (94, o94 P), (124, o124 P), (125, o125 P)]
structure Nest where
  c : Addr
  P : Addr
  line : Int
  col : Int
  qual : Str
  i : Nat
structure Wd where
  p : Program
  w : World
  mg : Str → Option Value
  mb : Str → Option Value
  nest : List Nest
noncomputable abbrev Wd.tabs (W : Wd) : List Addr := W.nest.map (·.P)
noncomputable abbrev WdN := Wd
noncomputable abbrev Wd.toWd (W : Wd) : Wd := W
noncomputable abbrev Wd.M (W : Wd) : Model := model W.p W.w
structure FnIs (W : Wd) (h : Heap) (i : Nat) (fa : Addr) (cd : Value) : Prop where
  name : W.mg (fd i).name = some (.ref fa)
  at_ : ∃ o pm doc, h.get? fa = some o ∧ o.data = .func (docDef (fd i).name (fd i).params (fd i).body (fd i).scope pm cd doc)
  code : h.CodeRec cd (fd i).name
noncomputable def fnIdx : List Nat := [3, 5, 6, 7, 8, 63, 64, 65, 67, 68, 69, 70, 71, 72, 73, 74, 75, 76, 77, 78, 79, 80, 81]
noncomputable def bNames : List Str := ["len", "max", "min", "sum", "range", "reversed", "divmod", "tuple"]
noncomputable def ETT : List (Str × Int) := [(("!" : Str), (54 : Int)), (("!=" : Str), (28 : Int)), (("%" : Str), (24 : Int)), (("%=" : Str), (40 : Int)), (("&" : Str), (19 : Int)), (("&=" : Str), (41 : Int)), (("(" : Str), (7 : Int)), ((")" : Str), (8 : Int)), (("*" : Str), (16 : Int)), (("**" : Str), (35 : Int)), (("**=" : Str), (46 : Int)), (("*=" : Str), (38 : Int)), (("+" : Str), (14 : Int)), (("+=" : Str), (36 : Int)), (("," : Str), (12 : Int)), (("-" : Str), (15 : Int)), (("-=" : Str), (37 : Int)), (("->" : Str), (51 : Int)), (("." : Str), (23 : Int)), (("..." : Str), (52 : Int)), (("/" : Str), (17 : Int)), (("//" : Str), (47 : Int)), (("//=" : Str), (48 : Int)), (("/=" : Str), (39 : Int)), ((":" : Str), (11 : Int)), ((":=" : Str), (53 : Int)), ((";" : Str), (13 : Int)), (("<" : Str), (20 : Int)), (("<<" : Str), (33 : Int)), (("<<=" : Str), (44 : Int)), (("<=" : Str), (29 : Int)), (("=" : Str), (22 : Int)), (("==" : Str), (27 : Int)), ((">" : Str), (21 : Int)), ((">=" : Str), (30 : Int)), ((">>" : Str), (34 : Int)), ((">>=" : Str), (45 : Int)), (("@" : Str), (49 : Int)), (("@=" : Str), (50 : Int)), (("[" : Str), (9 : Int)), (("]" : Str), (10 : Int)), (("^" : Str), (32 : Int)), (("^=" : Str), (43 : Int)), (("{" : Str), (25 : Int)), (("|" : Str), (18 : Int)), (("|=" : Str), (42 : Int)), (("}" : Str), (26 : Int)), (("~" : Str), (31 : Int))]
structure GS (W : Wd) (h : Heap) : Prop where
  g : h.Ns mainGlobals W.mg
  b : h.Ns builtinsNs W.mb
  nolimit : h.NoLimit
  blt : ∀ x : Str, x ≠ "__name__" → W.mb x = bootBuiltins x
  fn : ∀ i ∈ fnIdx, ∃ fa cd, FnIs W h i fa cd
  nst : ∀ q ∈ W.nest, ∃ fa, FnIs W h q.i fa (.ref q.c)
  bn : ∀ x ∈ bNames, W.mg x = none
  nt : ∃ t, W.mg "NT_OFFSET" = some (.int 256 t)
  em : ∃ t, W.mg "ENDMARKER" = some (.int 0 t)
  dl : ∃ t, W.mg "_DIV_LIMIT" = some (.int 4000 t)
  tk : ∃ d, W.mg "EXACT_TOKEN_TYPES" = some (.ref d) ∧ StrTab W.p W.w h d (kdpD ETT)
  kin : (KK W.w.params).In h
  ws : W.mg "Whitespace" = some (.ref 125)
  bm : W.mg "__builtins__" = some (.ref 4)
theorem ns_ext {T : List Addr} {h h' : Heap} {a : Addr} {m : Str → Option Value} (x : h.Ns a m) (k : Ext T h h') : h'.Ns a m :=
  let ⟨o, es, ep, e, hd, r⟩ := x; ⟨o, es, ep, k.getD e (by intro vs q; (first | exact (no_get hd q).elim | exact (no_get q hd).elim | (rw [hd] at q; cases q))), hd, r⟩
theorem cell_ext {T : List Addr} {h h' : Heap} {a : Addr} {v : Option Value} (x : h.IsCell a v) (k : Ext T h h') : h'.IsCell a v :=
  let ⟨o, e, hd⟩ := x; ⟨o, k.getD e (by intro vs q; (first | exact (no_get hd q).elim | exact (no_get q hd).elim | (rw [hd] at q; cases q))), hd⟩
theorem codeRec_ext {T : List Addr} {h h' : Heap} {cd : Value} {q : Str} (x : h.CodeRec cd q) (k : Ext T h h') : h'.CodeRec cd q := by
  obtain ⟨c, o, vs, t, a, b, d, r⟩ := x
  rcases k _ _ b with e | ⟨_, _, vs', more, d', e⟩
  · exact ⟨c, o, vs, t, a, e, d, r⟩
  · rw [d] at d'
    cases d'
    refine ⟨c, _, _, t, a, e, rfl, ?_⟩
    rw [Array.getElem?_append_left, r]
    cases hv : vs[1]? with
    | none => (first | exact (no_get r hv).elim | exact (no_get hv r).elim | (rw [r] at hv; cases hv))
    | some _ => exact (Array.getElem?_eq_some_iff.mp hv).1
theorem tab_ext {prog : Program} {w : World} {T : List Addr} {h h' : Heap} {d : Addr} {D : List (PyData × PyData)} (x : StrTab prog w h d D) (k : Ext T h h') : StrTab prog w h' d D := by
  obtain ⟨lo, kvs, ⟨o, es, ep, ho, hc, r⟩, hf⟩ := x
  exact ⟨lo, kvs, ⟨o, es, ep, k.get ho (by rw [hc.1]; intro q; cases q), hc, r⟩, hf⟩
theorem mem_lookup {K : Frag} {a : Addr} {o : Obj} (e : K.lookup a = some o) : (a, o) ∈ K := mem_of_lookupK e
theorem kk_ok (P : Params) : ∀ p ∈ KK P, (∀ vs, p.2.data ≠ .fields vs) ∨ p.2.cls ≠ .none := fun p hp => by
  simp only [KK, List.mem_cons, List.not_mem_nil, or_false] at hp
  rcases hp with rfl | hp
  · exact .inl (fun vs q => by cases q)
  · rcases hp with rfl | rfl | rfl | rfl | rfl | rfl | rfl <;> exact .inr (fun q => by cases q)
theorem kin_ext {P : Params} {T : List Addr} {h h' : Heap} (x : (KK P).In h) (k : Ext T h h') : (KK P).In h' := fun a o e =>
  (kk_ok P _ (mem_lookup e)).elim (fun q => k.getD (x a o e) q) (fun q => k.get (x a o e) q)
theorem FnIs.ext {W : Wd} {h h' : Heap} {i : Nat} {fa : Addr} {cd : Value} (x : FnIs W h i fa cd) (k : Ext W.tabs h h') : FnIs W h' i fa cd :=
  ⟨x.name, let ⟨o, pm, doc, e, d⟩ := x.at_; ⟨o, pm, doc, k.getD e (by intro vs q; (first | exact (no_get d q).elim | exact (no_get q d).elim | (rw [d] at q; cases q))), d⟩, codeRec_ext x.code k⟩
theorem GS.ext {W : Wd} {h h' : Heap} (x : GS W h) (k : Ext W.tabs h h') : GS W h' where
  g := ns_ext x.g k
  b := ns_ext x.b k
  nolimit := let ⟨mc, a, r⟩ := x.nolimit; ⟨mc, ns_ext a k, r⟩
  blt := x.blt
  fn := fun i hi => let ⟨fa, cd, y⟩ := x.fn i hi; ⟨fa, cd, y.ext k⟩
  nst := fun q hq => let ⟨fa, y⟩ := x.nst q hq; ⟨fa, y.ext k⟩
  bn := x.bn
  nt := x.nt
  em := x.em
  dl := x.dl
  tk := let ⟨d, e, y⟩ := x.tk; ⟨d, e, tab_ext y k⟩
  kin := kin_ext x.kin k
  ws := x.ws
  bm := x.bm
end Mine
namespace Mine
noncomputable def TB (W : Wd) (M : MS) (h : Heap) : Prop := ∀ q ∈ W.nest, ¬ M q.c ∧ ¬ M q.P ∧ CodeHd h q.c q.P ∧
  (h.get? q.P = some (tabObj #[]) ∨ ∃ c', ¬ M c' ∧ h.get? q.P = some (tabObj #[rawInt q.line, rawInt q.col, .ref c']) ∧ h.CodeRec (.ref c') q.qual)
theorem codeRec_sub {h h' : Heap} {cd : Value} {q : Str} (x : h.CodeRec cd q) (k : Sub h h') : h'.CodeRec cd q := let ⟨c, o, vs, t, a, b, r⟩ := x; ⟨c, o, vs, t, a, k _ _ b, r⟩
theorem codeRec_at {h h' : Heap} {c : Addr} {q : Str} (x : h.CodeRec (.ref c) q) (k : ∀ o, h.get? c = some o → h'.get? c = some o) : h'.CodeRec (.ref c) q := by
  obtain ⟨c', o, vs, t, a, b, r⟩ := x
  cases a
  exact ⟨c, o, vs, t, rfl, k _ b, r⟩
theorem TB.but {W : Wd} {M M' : MS} {h h' : Heap} (x : TB W M h) (k : ∀ b o, ¬ M b → h.get? b = some o → h'.get? b = some o) (m : ∀ b o, h.get? b = some o → M' b → M b) : TB W M' h' := fun q hq => by
  obtain ⟨m1, m2, a, b⟩ := x q hq
  obtain ⟨o, vs, f, tf, fl, tg, ib, n, tt, e, r⟩ := a
  refine ⟨fun z => m1 (m _ _ e z), ?_, ⟨o, vs, f, tf, fl, tg, ib, n, tt, k _ _ m1 e, r⟩, ?_⟩
  · rcases b with b | ⟨c', _, b, _⟩ <;> exact fun z => m2 (m _ _ b z)
  · refine b.imp (k _ _ m2) fun ⟨c', m3, e, r⟩ => ⟨c', ?_, k _ _ m2 e, codeRec_at r fun o => k _ _ m3⟩
    obtain ⟨c'', o, vs, t, a, b, r⟩ := r
    cases a
    exact fun z => m3 (m _ _ b z)
theorem TB.sub {W : Wd} {M : MS} {h h' : Heap} (x : TB W M h) (k : Sub h h') : TB W M h' := x.but (fun b o _ => k b o) fun _ _ _ z => z
theorem TB.anti {W : Wd} {M M' : MS} {h : Heap} (x : TB W M h) (m : ∀ b, M' b → M b) : TB W M' h := x.but (fun _ _ _ e => e) fun b _ _ => m b
structure Cx where
  W : WdN
  env : Env
  vs : List Str
  h₀ : Heap
  M₀ : MS
  wr : List Str
  fn : Bool
inductive V where
  | val (d : D)
  | own (a : Addr) (ds : List D)
  | ro (a : Addr) (ds : List D)
  | ob (v : Value) (L : List Addr) (F : Heap → Prop)
inductive Lk : List Str → List (Option V) → Str → V → Prop
  | here {x : Str} {vs : List Str} {v : V} {σ : List (Option V)} : Lk (x :: vs) (some v :: σ) x v
  | there {x y : Str} {vs : List Str} {v : V} {a : Option V} {σ : List (Option V)} : Lk vs σ x v → Lk (y :: vs) (a :: σ) x v
theorem Lk.i1 {x y1 : Str} {vs : List Str} {v : V} {a1 : Option V} {σ : List (Option V)} : Lk (y1 :: x :: vs) (a1 :: some v :: σ) x v := .there .here
theorem Lk.i2 {x y1 y2 : Str} {vs : List Str} {v : V} {a1 a2 : Option V} {σ : List (Option V)} : Lk (y1 :: y2 :: x :: vs) (a1 :: a2 :: some v :: σ) x v := .there .i1
theorem Lk.i3 {x y1 y2 y3 : Str} {vs : List Str} {v : V} {a1 a2 a3 : Option V} {σ : List (Option V)} : Lk (y1 :: y2 :: y3 :: x :: vs) (a1 :: a2 :: a3 :: some v :: σ) x v := .there .i2
theorem Lk.i4 {x y1 y2 y3 y4 : Str} {vs : List Str} {v : V} {a1 a2 a3 a4 : Option V} {σ : List (Option V)} : Lk (y1 :: y2 :: y3 :: y4 :: x :: vs) (a1 :: a2 :: a3 :: a4 :: some v :: σ) x v := .there .i3
theorem Lk.i5 {x y1 y2 y3 y4 y5 : Str} {vs : List Str} {v : V} {a1 a2 a3 a4 a5 : Option V} {σ : List (Option V)} : Lk (y1 :: y2 :: y3 :: y4 :: y5 :: x :: vs) (a1 :: a2 :: a3 :: a4 :: a5 :: some v :: σ) x v := .there .i4
theorem Lk.i6 {x y1 y2 y3 y4 y5 y6 : Str} {vs : List Str} {v : V} {a1 a2 a3 a4 a5 a6 : Option V} {σ : List (Option V)} : Lk (y1 :: y2 :: y3 :: y4 :: y5 :: y6 :: x :: vs) (a1 :: a2 :: a3 :: a4 :: a5 :: a6 :: some v :: σ) x v := .there .i5
theorem Lk.i7 {x y1 y2 y3 y4 y5 y6 y7 : Str} {vs : List Str} {v : V} {a1 a2 a3 a4 a5 a6 a7 : Option V} {σ : List (Option V)} : Lk (y1 :: y2 :: y3 :: y4 :: y5 :: y6 :: y7 :: x :: vs) (a1 :: a2 :: a3 :: a4 :: a5 :: a6 :: a7 :: some v :: σ) x v := .there .i6
theorem Lk.i8 {x y1 y2 y3 y4 y5 y6 y7 y8 : Str} {vs : List Str} {v : V} {a1 a2 a3 a4 a5 a6 a7 a8 : Option V} {σ : List (Option V)} : Lk (y1 :: y2 :: y3 :: y4 :: y5 :: y6 :: y7 :: y8 :: x :: vs) (a1 :: a2 :: a3 :: a4 :: a5 :: a6 :: a7 :: a8 :: some v :: σ) x v := .there .i7
theorem Lk.i9 {x y1 y2 y3 y4 y5 y6 y7 y8 y9 : Str} {vs : List Str} {v : V} {a1 a2 a3 a4 a5 a6 a7 a8 a9 : Option V} {σ : List (Option V)} : Lk (y1 :: y2 :: y3 :: y4 :: y5 :: y6 :: y7 :: y8 :: y9 :: x :: vs) (a1 :: a2 :: a3 :: a4 :: a5 :: a6 :: a7 :: a8 :: a9 :: some v :: σ) x v := .there .i8
theorem Lk.i10 {x y1 y2 y3 y4 y5 y6 y7 y8 y9 y10 : Str} {vs : List Str} {v : V} {a1 a2 a3 a4 a5 a6 a7 a8 a9 a10 : Option V} {σ : List (Option V)} : Lk (y1 :: y2 :: y3 :: y4 :: y5 :: y6 :: y7 :: y8 :: y9 :: y10 :: x :: vs) (a1 :: a2 :: a3 :: a4 :: a5 :: a6 :: a7 :: a8 :: a9 :: a10 :: some v :: σ) x v := .there .i9
theorem Lk.i11 {x y1 y2 y3 y4 y5 y6 y7 y8 y9 y10 y11 : Str} {vs : List Str} {v : V} {a1 a2 a3 a4 a5 a6 a7 a8 a9 a10 a11 : Option V} {σ : List (Option V)} : Lk (y1 :: y2 :: y3 :: y4 :: y5 :: y6 :: y7 :: y8 :: y9 :: y10 :: y11 :: x :: vs) (a1 :: a2 :: a3 :: a4 :: a5 :: a6 :: a7 :: a8 :: a9 :: a10 :: a11 :: some v :: σ) x v := .there .i10
theorem Lk.i12 {x y1 y2 y3 y4 y5 y6 y7 y8 y9 y10 y11 y12 : Str} {vs : List Str} {v : V} {a1 a2 a3 a4 a5 a6 a7 a8 a9 a10 a11 a12 : Option V} {σ : List (Option V)} : Lk (y1 :: y2 :: y3 :: y4 :: y5 :: y6 :: y7 :: y8 :: y9 :: y10 :: y11 :: y12 :: x :: vs) (a1 :: a2 :: a3 :: a4 :: a5 :: a6 :: a7 :: a8 :: a9 :: a10 :: a11 :: a12 :: some v :: σ) x v := .there .i11
theorem Lk.index {vs : List Str} {σ : List (Option V)} {x : Str} {v : V} (a : Lk vs σ x v) : ∃ i : Nat, vs[i]? = some x ∧ σ[i]? = some (some v) := by
  induction a with
  | here => exact ⟨0, rfl, rfl⟩
  | there _ ih => obtain ⟨i, a, b⟩ := ih; exact ⟨i + 1, by simpa using a, by simpa using b⟩
inductive Up : List Str → List (Option V) → Str → V → List (Option V) → Prop
  | here {x : Str} {vs : List Str} {u : V} {a : Option V} {σ : List (Option V)} : Up (x :: vs) (a :: σ) x u (some u :: σ)
  | there {x y : Str} {vs : List Str} {u : V} {a : Option V} {σ σ' : List (Option V)} : Up vs σ x u σ' → Up (y :: vs) (a :: σ) x u (a :: σ')
theorem Up.i1 {x y1 : Str} {vs : List Str} {u : V} {a a1 : Option V} {σ : List (Option V)} : Up (y1 :: x :: vs) (a1 :: a :: σ) x u (a1 :: some u :: σ) := .there .here
theorem Up.i2 {x y1 y2 : Str} {vs : List Str} {u : V} {a a1 a2 : Option V} {σ : List (Option V)} : Up (y1 :: y2 :: x :: vs) (a1 :: a2 :: a :: σ) x u (a1 :: a2 :: some u :: σ) := .there .i1
theorem Up.i3 {x y1 y2 y3 : Str} {vs : List Str} {u : V} {a a1 a2 a3 : Option V} {σ : List (Option V)} : Up (y1 :: y2 :: y3 :: x :: vs) (a1 :: a2 :: a3 :: a :: σ) x u (a1 :: a2 :: a3 :: some u :: σ) := .there .i2
theorem Up.i4 {x y1 y2 y3 y4 : Str} {vs : List Str} {u : V} {a a1 a2 a3 a4 : Option V} {σ : List (Option V)} : Up (y1 :: y2 :: y3 :: y4 :: x :: vs) (a1 :: a2 :: a3 :: a4 :: a :: σ) x u (a1 :: a2 :: a3 :: a4 :: some u :: σ) := .there .i3
theorem Up.i5 {x y1 y2 y3 y4 y5 : Str} {vs : List Str} {u : V} {a a1 a2 a3 a4 a5 : Option V} {σ : List (Option V)} : Up (y1 :: y2 :: y3 :: y4 :: y5 :: x :: vs) (a1 :: a2 :: a3 :: a4 :: a5 :: a :: σ) x u (a1 :: a2 :: a3 :: a4 :: a5 :: some u :: σ) := .there .i4
theorem Up.i6 {x y1 y2 y3 y4 y5 y6 : Str} {vs : List Str} {u : V} {a a1 a2 a3 a4 a5 a6 : Option V} {σ : List (Option V)} : Up (y1 :: y2 :: y3 :: y4 :: y5 :: y6 :: x :: vs) (a1 :: a2 :: a3 :: a4 :: a5 :: a6 :: a :: σ) x u (a1 :: a2 :: a3 :: a4 :: a5 :: a6 :: some u :: σ) := .there .i5
theorem Up.i7 {x y1 y2 y3 y4 y5 y6 y7 : Str} {vs : List Str} {u : V} {a a1 a2 a3 a4 a5 a6 a7 : Option V} {σ : List (Option V)} : Up (y1 :: y2 :: y3 :: y4 :: y5 :: y6 :: y7 :: x :: vs) (a1 :: a2 :: a3 :: a4 :: a5 :: a6 :: a7 :: a :: σ) x u (a1 :: a2 :: a3 :: a4 :: a5 :: a6 :: a7 :: some u :: σ) := .there .i6
theorem Up.i8 {x y1 y2 y3 y4 y5 y6 y7 y8 : Str} {vs : List Str} {u : V} {a a1 a2 a3 a4 a5 a6 a7 a8 : Option V} {σ : List (Option V)} : Up (y1 :: y2 :: y3 :: y4 :: y5 :: y6 :: y7 :: y8 :: x :: vs) (a1 :: a2 :: a3 :: a4 :: a5 :: a6 :: a7 :: a8 :: a :: σ) x u (a1 :: a2 :: a3 :: a4 :: a5 :: a6 :: a7 :: a8 :: some u :: σ) := .there .i7
theorem Up.i9 {x y1 y2 y3 y4 y5 y6 y7 y8 y9 : Str} {vs : List Str} {u : V} {a a1 a2 a3 a4 a5 a6 a7 a8 a9 : Option V} {σ : List (Option V)} : Up (y1 :: y2 :: y3 :: y4 :: y5 :: y6 :: y7 :: y8 :: y9 :: x :: vs) (a1 :: a2 :: a3 :: a4 :: a5 :: a6 :: a7 :: a8 :: a9 :: a :: σ) x u (a1 :: a2 :: a3 :: a4 :: a5 :: a6 :: a7 :: a8 :: a9 :: some u :: σ) := .there .i8
theorem Up.i10 {x y1 y2 y3 y4 y5 y6 y7 y8 y9 y10 : Str} {vs : List Str} {u : V} {a a1 a2 a3 a4 a5 a6 a7 a8 a9 a10 : Option V} {σ : List (Option V)} : Up (y1 :: y2 :: y3 :: y4 :: y5 :: y6 :: y7 :: y8 :: y9 :: y10 :: x :: vs) (a1 :: a2 :: a3 :: a4 :: a5 :: a6 :: a7 :: a8 :: a9 :: a10 :: a :: σ) x u (a1 :: a2 :: a3 :: a4 :: a5 :: a6 :: a7 :: a8 :: a9 :: a10 :: some u :: σ) := .there .i9
theorem Up.i11 {x y1 y2 y3 y4 y5 y6 y7 y8 y9 y10 y11 : Str} {vs : List Str} {u : V} {a a1 a2 a3 a4 a5 a6 a7 a8 a9 a10 a11 : Option V} {σ : List (Option V)} : Up (y1 :: y2 :: y3 :: y4 :: y5 :: y6 :: y7 :: y8 :: y9 :: y10 :: y11 :: x :: vs) (a1 :: a2 :: a3 :: a4 :: a5 :: a6 :: a7 :: a8 :: a9 :: a10 :: a11 :: a :: σ) x u (a1 :: a2 :: a3 :: a4 :: a5 :: a6 :: a7 :: a8 :: a9 :: a10 :: a11 :: some u :: σ) := .there .i10
theorem Up.i12 {x y1 y2 y3 y4 y5 y6 y7 y8 y9 y10 y11 y12 : Str} {vs : List Str} {u : V} {a a1 a2 a3 a4 a5 a6 a7 a8 a9 a10 a11 a12 : Option V} {σ : List (Option V)} : Up (y1 :: y2 :: y3 :: y4 :: y5 :: y6 :: y7 :: y8 :: y9 :: y10 :: y11 :: y12 :: x :: vs) (a1 :: a2 :: a3 :: a4 :: a5 :: a6 :: a7 :: a8 :: a9 :: a10 :: a11 :: a12 :: a :: σ) x u (a1 :: a2 :: a3 :: a4 :: a5 :: a6 :: a7 :: a8 :: a9 :: a10 :: a11 :: a12 :: some u :: σ) := .there .i11
theorem Up.index {vs : List Str} {σ σ' : List (Option V)} {x : Str} {u : V} (a : Up vs σ x u σ') : ∃ i : Nat, vs[i]? = some x ∧ σ' = σ.set i (some u) := by
  induction a with
  | here => exact ⟨0, rfl, rfl⟩
  | there _ ih => obtain ⟨i, a, b⟩ := ih; exact ⟨i + 1, by simpa using a, by rw [b]; rfl⟩
noncomputable def VarAt (env : Env) (h : Heap) (x : Str) (v : Value) : Prop :=
  (env.kindOf x = some .local ∧ ∃ m, h.Ns env.locals m ∧ m x = some v) ∨
  ((env.kindOf x = some .cell ∨ (env.kindOf x = some .free ∧ (x == ("__classdict__" : Str)) = false)) ∧ ∃ c, env.cells.lookup x = some c ∧ h.IsCell c (some v))
noncomputable abbrev Cx.MM (X : Cx) (mine : MS) : MS := fun a => X.M₀ a ∨ mine a
noncomputable def Kept (h' : Heap) (a : Addr) (o : Obj) : Prop := h'.get? a = some o ∨ (o.cls = .none ∧ ∃ vs more, o.data = .fields vs ∧ h'.get? a = some { o with data := .fields (vs ++ more) })
theorem Kept.get {h' : Heap} {a : Addr} {o : Obj} (k : Kept h' a o) (hc : o.cls ≠ .none) : h'.get? a = some o := k.elim id fun q => absurd q.1 hc
theorem Kept.some {h' : Heap} {a : Addr} {o : Obj} (k : Kept h' a o) : ∃ o', h'.get? a = some o' := k.elim (fun q => ⟨_, q⟩) fun ⟨_, _, _, _, q⟩ => ⟨_, q⟩
theorem Ext.kept {T : List Addr} {h h' : Heap} (x : Ext T h h') {b : Addr} {o : Obj} (e : h.get? b = Option.some o) : Kept h' b o := (x b o e).imp id fun q => q.2
noncomputable def ObRep (M : MS) (h : Heap) (L : List Addr) (F : Heap → Prop) : Prop :=
  F h ∧ (∀ a ∈ L, ¬ M a ∧ ∃ o, h.get? a = some o) ∧ ∀ h h' : Heap, (∀ a ∈ L, ∀ o, h.get? a = some o → Kept h' a o) → F h → F h'
theorem ObRep.mono {M M' : MS} {h h' : Heap} {L : List Addr} {F : Heap → Prop} (r : ObRep M h L F) (k : ∀ a o, a ∈ L → ¬ M a → h.get? a = some o → Kept h' a o) (m : ∀ b o, h.get? b = some o → M' b → M b) : ObRep M' h' L F := by
  obtain ⟨f, l, st⟩ := r
  have kk : ∀ a ∈ L, ∀ o, h.get? a = some o → Kept h' a o := fun a ha o e => k a o ha (l a ha).1 e
  exact ⟨st h h' kk f, fun a ha => let ⟨nm, o, e⟩ := l a ha; ⟨fun z => nm (m a o e z), (kk a ha o e).some⟩, st⟩
noncomputable def VRep (M mine : MS) (h : Heap) (v : Value) : V → Prop
  | .val d => Rep M h v d
  | .own a ds => v = .ref a ∧ mine a ∧ ∃ n vs, h.get? a = some (lob vs n) ∧ RepL M h vs.toList ds
  | .ro a ds => v = .ref a ∧ ∃ n vs, h.get? a = some (lob vs n) ∧ RepL M h vs.toList ds
  | .ob u L F => v = u ∧ ObRep M h L F
structure CxOk (X : Cx) : Prop where
  kind : X.env.scope.kind = .function
  gl : X.env.globals = mainGlobals
  bl : X.env.builtins = builtinsNs
  nodup : X.vs.Nodup
  nodbg : ∀ x ∈ X.vs, (x == ("__debug__" : Str)) = false
  apart : X.wr ≠ [] → X.env.cells.Pairwise fun x y => x.2 ≠ y.2
noncomputable def Live (M : MS) (h : Heap) : Prop := ∀ a, M a → ∃ o, h.get? a = some o
structure St (X : Cx) (mine : MS) (σ : List (Option V)) (h : Heap) : Prop where
  ok : CxOk X
  gs : GS X.W.toWd X.h₀
  ext : Ext X.W.tabs X.h₀ h
  tb : TB X.W (X.MM mine) h
  disj : ∀ a, X.M₀ a → ¬ mine a
  live : Live (X.MM mine) h
  fresh : ∀ a, mine a → X.h₀.get? a = none
  ns : mine X.env.locals ∧ ∃ m, h.Ns X.env.locals m
  cells : ∀ x ∈ X.wr, X.env.kindOf x = some .cell ∧ ∃ c, X.env.cells.lookup x = some c ∧ mine c ∧ ∃ v, h.IsCell c v
  var : ∀ (i : Nat) (v : V), σ[i]? = some (some v) → ∃ x val, X.vs[i]? = some x ∧ VarAt X.env h x val ∧ VRep (X.MM mine) mine h val v
  dist : ∀ (i j : Nat) a ds es, σ[i]? = some (some (V.own a ds)) → σ[j]? = some (some (V.own a es)) → i = j
  noro : X.fn = true → ∀ (i : Nat) a ds, σ[i]? ≠ some (some (V.ro a ds))
  cl : ∀ x c, X.env.cells.lookup x = some c → ∃ v, h.IsCell c v
theorem Live.none {M : MS} {h : Heap} (x : Live M h) {a : Addr} (e : h.get? a = none) : ¬ M a := fun q => by
  obtain ⟨o, e'⟩ := x a q
  (first | exact (no_get e e').elim | exact (no_get e' e).elim | (rw [e] at e'; cases e'))
theorem Live.ext {T : List Addr} {M : MS} {h h' : Heap} (x : Live M h) (k : Ext T h h') : Live M h' := fun a q => let ⟨_, e⟩ := x a q; k.some e
theorem VarAt.ext {T : List Addr} {env : Env} {h h' : Heap} {x : Str} {v : Value} (a : VarAt env h x v) (k : Ext T h h') : VarAt env h' x v :=
  a.imp (fun ⟨a, m, b, c⟩ => ⟨a, m, ns_ext b k, c⟩) fun ⟨a, c, b, d⟩ => ⟨a, c, b, cell_ext d k⟩
theorem VRep.ext {T : List Addr} {M mine : MS} {h h' : Heap} {v : Value} {u : V} (a : VRep M mine h v u) (k : Ext T h h') : VRep M mine h' v u := by
  cases u with
  | val d => exact Rep.ext a k
  | own b ds =>
    obtain ⟨e, m, n, vs, g, r⟩ := a
    exact ⟨e, m, n, vs, k.get g (by intro q; cases q), r.ext k⟩
  | ro b ds =>
    obtain ⟨e, n, vs, g, r⟩ := a
    exact ⟨e, n, vs, k.get g (by intro q; cases q), r.ext k⟩
  | ob u L F => exact ⟨a.1, a.2.mono (fun _ _ _ _ e => k.kept e) fun _ _ _ => id⟩
section
variable {X : Cx} {mine : MS} {σ : List (Option V)} {h h' : Heap}
theorem St.step (S : St X mine σ h) (k : Ext X.W.tabs h h') (tb : TB X.W (X.MM mine) h') : St X mine σ h' where
  ok := S.ok
  gs := S.gs
  ext := S.ext.trans k
  tb := tb
  disj := S.disj
  live := S.live.ext k
  fresh := S.fresh
  ns := ⟨S.ns.1, let ⟨m, a⟩ := S.ns.2; ⟨m, ns_ext a k⟩⟩
  cells := fun x hx => let ⟨a, c, b, d, v, e⟩ := S.cells x hx; ⟨a, c, b, d, v, cell_ext e k⟩
  var := fun i v e => let ⟨x, val, a, b, c⟩ := S.var i v e; ⟨x, val, a, b.ext k, c.ext k⟩
  dist := S.dist
  noro := S.noro
  cl := fun x c e => let ⟨v, q⟩ := S.cl x c e; ⟨v, cell_ext q k⟩
theorem St.sub (S : St X mine σ h) (k : Sub h h') : St X mine σ h' := S.step (.of k) (S.tb.sub k)
theorem St.gsAt (S : St X mine σ h) : GS X.W.toWd h := S.gs.ext S.ext
theorem St.kind (S : St X mine σ h) : X.env.scope.kind = .function := S.ok.kind
end
noncomputable def Ev (X : Cx) (mine : MS) (σ : List (Option V)) (n : Nat) (e : PySem.Expr) (d : D) : Prop :=
  ∀ (A : Around) (E : Value → Shared → Prop) (s : Shared) (Q : Value → Shared → Prop), Room A n → St X mine σ s.heap →
    (∀ v h' tk, Ext X.W.tabs s.heap h' → St X mine σ h' → Rep (X.MM mine) h' v d → Q v { s with heap := h', toks := tk }) →
    wpAny X.W.M A (eval e X.env) Q E s
noncomputable def EvL (X : Cx) (mine : MS) (σ : List (Option V)) (n : Nat) (es : List PySem.Expr) (ds : List D) : Prop :=
  ∀ (A : Around) (E : Value → Shared → Prop) (s : Shared) (Q : List Value → Shared → Prop) (pos : Pos), Room A n → St X mine σ s.heap →
    (∀ vs h' tk, Ext X.W.tabs s.heap h' → St X mine σ h' → RepL (X.MM mine) h' vs ds → Q vs { s with heap := h', toks := tk }) →
    wpAny X.W.M A (spliced (backTo pos (starEach es X.env))) Q E s
noncomputable def Tst (X : Cx) (mine : MS) (σ : List (Option V)) (n : Nat) (e : PySem.Expr) (b : Bool) : Prop :=
  ∀ (A : Around) (E : Value → Shared → Prop) (s : Shared) (Q : Bool → Shared → Prop), Room A n → St X mine σ s.heap →
    (∀ h' tk, Ext X.W.tabs s.heap h' → St X mine σ h' → Q b { s with heap := h', toks := tk }) →
    wpAny X.W.M A (isTrue e X.env (eval e X.env)) Q E s
section
variable {X : Cx} {mine : MS} {σ : List (Option V)} {n : Nat}
theorem ev_int {i : Int} {k : Nat} {p : Pos} : Ev X mine σ n (.Constant (.int i) k p) (.int i) := fun A E s Q R S h =>
  wpAny_Constant_int (h _ _ _ (Ext.refl _ _) S (.int i _))
theorem ev_str {x : Str} {k : Nat} {p : Pos} : Ev X mine σ n (.Constant (.str x) k p) (.str x) := fun A E s Q R S h =>
  Constant_str (h _ _ _ (Ext.refl _ _) S (.str x _))
theorem ev_bool {b : Bool} {k : Nat} {p : Pos} : Ev X mine σ n (.Constant (.bool b) k p) (.bool b) := fun A E s Q R S h =>
  Constant_bool (h _ _ s.toks (Ext.refl _ _) S (.bool b))
theorem load_var {A : Around} {E : Value → Shared → Prop} {s : Shared} {x : Str} {v : Value} {Q : Value → Shared → Prop} (hk : X.env.scope.kind = .function) (a : VarAt X.env s.heap x v) (h : Q v s) :
    wpAny X.W.M A (loadName X.env x) Q E s := by
  rcases a with ⟨hl, m, hn, hm⟩ | ⟨hl, c, hc, hv⟩
  · exact wpAny_loadName_local hk hl hn hm h
  · rcases hl with hl | ⟨hl, hn⟩
    · exact wpAny_loadName_cell hk hl hc hv h
    · exact wpAny_loadName_free hk hl hc hv h hn
theorem ev_name {x : Str} {p : Pos} {d : D} (hl : Lk X.vs σ x (.val d)) : Ev X mine σ n (.Name x p) d := fun A E s Q R S h => by
  obtain ⟨i, hx, hv⟩ := hl.index
  obtain ⟨y, val, hy, ha, hr⟩ := S.var i _ hv
  (first | exact (no_get hx hy).elim | exact (no_get hy hx).elim | (rw [hx] at hy; cases hy))
  exact wpAny_Name (load_var S.kind ha (h _ _ s.toks (Ext.refl _ _) S hr)) (S.ok.nodbg x (List.mem_of_getElem? hx))
theorem evl_nil : EvL X mine σ n [] [] := fun A E s Q p R S h => args_nil (h _ _ s.toks (Ext.refl _ _) S .nil)
theorem evl_cons {e : PySem.Expr} {es : List PySem.Expr} {d : D} {ds : List D} (a : Ev X mine σ n e d) (b : EvL X mine σ n es ds) (he : starEach (e :: es) X.env = (false, eval e X.env) :: starEach es X.env := by rfl) :
    EvL X mine σ n (e :: es) (d :: ds) := fun A E s Q p R S h =>
  args_cons (a A E s _ R S fun v h' tk k S' r => b A E _ _ p R S' fun vs h'' tk' k' S'' r' => h _ _ _ (k.trans k') S'' (.cons (r.ext k') r')) he
theorem alloc_sub (h : Heap) (o : Obj) : Sub h (h.push o) := fun _ _ e => Heap.get?_push_of_some _ e
theorem alloc_none (h : Heap) : h.get? h.objs.size = none := by
  cases q : h.get? h.objs.size with
  | none => rfl
  | some o => exact absurd (Heap.lt_size q) (Nat.lt_irrefl _)
theorem rep_new {M : MS} {h : Heap} {vs : List Value} {ds : List D} (hl : Live M h) (r : RepL M h vs ds) : Rep M (h.push { cls := .type "list", data := .seq vs.toArray }) (.ref h.objs.size) (.list ds) :=
  .list (Heap.get?_push_size _ rfl) (hl.none (alloc_none h)) (by simpa using r.ext (T := []) (.of (alloc_sub h _)))
theorem rep_newA {M : MS} {h : Heap} {vs : Array Value} {ds : List D} (hl : Live M h) (r : RepL M h vs.toList ds) : Rep M (h.push { cls := .type "list", data := .seq vs }) (.ref h.objs.size) (.list ds) :=
  .list (Heap.get?_push_size _ rfl) (hl.none (alloc_none h)) (r.ext (T := []) (.of (alloc_sub h _)))
theorem rep_newT {M : MS} {h : Heap} {vs : List Value} {ds : List D} (hl : Live M h) (r : RepL M h vs ds) : Rep M (h.push { cls := .type "tuple", data := .seq vs.toArray }) (.ref h.objs.size) (.tup ds) :=
  .tup (Heap.get?_push_size _ rfl) (hl.none (alloc_none h)) (by simpa using r.ext (T := []) (.of (alloc_sub h _)))
theorem sz {k : Nat} (h : k ≤ 1000000) : k ≤ sizeLine := Nat.le_trans h (by decide)
theorem ev_list {es : List PySem.Expr} {ds : List D} {p : Pos} (a : EvL X mine σ n es ds) (hz : ds.length ≤ 1000000 := by decide) : Ev X mine σ n (.List es p) (.list ds) := fun A E s Q R S h =>
  List_ (a A E s _ _ R S fun vs h' tk k S' r => wpAny_newList (h _ _ tk (k.trans (.of (alloc_sub _ _))) (S'.sub (alloc_sub _ _)) (rep_new S'.live r)) (by rw [r.length]; exact sz hz))
theorem ev_tuple {es : List PySem.Expr} {ds : List D} {k : Nat} {p : Pos} (a : EvL X mine σ n es ds) (hz : ds.length ≤ 1000000 := by decide) : Ev X mine σ n (.Tuple es k p) (.tup ds) := fun A E s Q R S h =>
  Tuple_ (a A E s _ _ R S fun vs h' tk k S' r => wpAny_newTuple (h _ _ tk (k.trans (.of (alloc_sub _ _))) (S'.sub (alloc_sub _ _)) (rep_newT S'.live r)) (by rw [r.length]; exact sz hz))
noncomputable def OpB (W : WdN) (n : Nat) (op : Operator) (da db d : D) : Prop :=
  ∀ (M : MS) (A : Around) (E : Value → Shared → Prop) (s : Shared) (Q : Value → Shared → Prop) (va vb : Value), Room A n → Live M s.heap → Rep M s.heap va da → Rep M s.heap vb db →
    (∀ v h' tk, Sub s.heap h' → Rep M h' v d → Q v { s with heap := h', toks := tk }) → wpAny W.M A (binaryOp op va vb) Q E s
theorem ev_bin {l r : PySem.Expr} {op : Operator} {p : Pos} {da db d : D} (a : Ev X mine σ n l da) (b : Ev X mine σ n r db) (o : OpB X.W n op da db d) : Ev X mine σ n (.BinOp l op r p) d := fun A E s Q R S h =>
  wpAny_BinOp (a A E s _ R S fun va h₁ t₁ k₁ S₁ r₁ => b A E _ _ R S₁ fun vb h₂ t₂ k₂ S₂ r₂ =>
    o _ A E _ _ va vb R S₂.live (r₁.ext k₂) r₂ fun v h₃ t₃ k₃ r₃ => h v h₃ t₃ ((k₁.trans k₂).trans (.of k₃)) (S₂.sub k₃) r₃)
noncomputable def OpU (W : WdN) (n : Nat) (op : UnaryOp) (da d : D) : Prop :=
  ∀ (M : MS) (A : Around) (E : Value → Shared → Prop) (s : Shared) (Q : Value → Shared → Prop) (va : Value), Room A n → Live M s.heap → Rep M s.heap va da →
    (∀ v h' tk, Sub s.heap h' → Rep M h' v d → Q v { s with heap := h', toks := tk }) → wpAny W.M A (unaryOp op va) Q E s
theorem ev_un {x : PySem.Expr} {op : UnaryOp} {p : Pos} {da d : D} (a : Ev X mine σ n x da) (o : OpU X.W n op da d) : Ev X mine σ n (.UnaryOp op x p) d := fun A E s Q R S h =>
  UnaryOp_ (a A E s _ R S fun va h₁ t₁ k₁ S₁ r₁ => o _ A E _ _ va R S₁.live r₁ fun v h₃ t₃ k₃ r₃ => h v h₃ t₃ (k₁.trans (.of k₃)) (S₁.sub k₃) r₃)
noncomputable def OpC (W : WdN) (n : Nat) (op : CmpOp) (da db : D) (c : Bool) : Prop :=
  ∀ (M : MS) (A : Around) (E : Value → Shared → Prop) (s : Shared) (Q : Value → Shared → Prop) (va vb : Value), Room A n → Live M s.heap → Rep M s.heap va da → Rep M s.heap vb db →
    (∀ h' tk, Sub s.heap h' → Q (.bool c) { s with heap := h', toks := tk }) → wpAny W.M A (compareOp op va vb) Q E s
end
end Mine
namespace Mine
section
variable {W : WdN} {n : Nat}
theorem Sub.refl (h : Heap) : Sub h h := fun _ _ e => e
theorem opb_add {a b : Int} : OpB W n .Add (.int a) (.int b) (.int (a + b)) := fun M A E s Q va vb R L ra rb h => by
  obtain ⟨_, rfl⟩ := ra.iInt; obtain ⟨_, rfl⟩ := rb.iInt; exact add_int (h _ _ _ (Sub.refl _) (.int _ _))
theorem opb_sub {a b : Int} : OpB W n .Sub (.int a) (.int b) (.int (a - b)) := fun M A E s Q va vb R L ra rb h => by
  obtain ⟨_, rfl⟩ := ra.iInt; obtain ⟨_, rfl⟩ := rb.iInt; exact sub_int' (h _ _ _ (Sub.refl _) (.int _ _))
theorem opb_mul {a b : Int} (hm : IntMulOk a b) : OpB W n .Mult (.int a) (.int b) (.int (a * b)) := fun M A E s Q va vb R L ra rb h => by
  obtain ⟨_, rfl⟩ := ra.iInt; obtain ⟨_, rfl⟩ := rb.iInt; exact mul_int (h _ _ _ (Sub.refl _) (.int _ _)) hm
theorem opb_fdiv {a b : Int} (hb : b ≠ 0) (hs : b.natAbs < 1073741824) : OpB W n .FloorDiv (.int a) (.int b) (.int (a.fdiv b)) := fun M A E s Q va vb R L ra rb h => by
  obtain ⟨_, rfl⟩ := ra.iInt; obtain ⟨_, rfl⟩ := rb.iInt; exact floordiv_int hb (h _ _ _ (Sub.refl _) (.int _ _)) (.inl (PyProof.noPylong_small hs))
theorem opb_mod {a b : Int} (hb : b ≠ 0) : OpB W n .Mod (.int a) (.int b) (.int (a.fmod b)) := fun M A E s Q va vb R L ra rb h => by
  obtain ⟨_, rfl⟩ := ra.iInt; obtain ⟨_, rfl⟩ := rb.iInt; exact mod_int' hb (h _ _ _ (Sub.refl _) (.int _ _))
theorem opb_pow {a b : Int} (hn : 0 ≤ b) (hsz : (Builtin.Int.intBits a : Int) * b ≤ 2 ^ 27) : OpB W n .Pow (.int a) (.int b) (.int (a ^ b.toNat)) := fun M A E s Q va vb R L ra rb h => by
  obtain ⟨_, rfl⟩ := ra.iInt; obtain ⟨_, rfl⟩ := rb.iInt; exact pow_int hn hsz (h _ _ _ (Sub.refl _) (.int _ _))
theorem opb_shl {a b : Int} (hn : 0 ≤ b) (hsz : (Builtin.Int.intBits a : Int) + b ≤ 2 ^ 27) : OpB W n .LShift (.int a) (.int b) (.int (a * 2 ^ b.toNat)) := fun M A E s Q va vb R L ra rb h => by
  obtain ⟨_, rfl⟩ := ra.iInt; obtain ⟨_, rfl⟩ := rb.iInt; exact lshift_int hn hsz (h _ _ _ (Sub.refl _) (.int _ _))
theorem opb_shr {a b : Int} (hn : 0 ≤ b) : OpB W n .RShift (.int a) (.int b) (.int (a.fdiv (2 ^ b.toNat))) := fun M A E s Q va vb R L ra rb h => by
  obtain ⟨_, rfl⟩ := ra.iInt; obtain ⟨_, rfl⟩ := rb.iInt; exact rshift_int hn (h _ _ _ (Sub.refl _) (.int _ _))
theorem opb_xor {a b : Int} : OpB W n .BitXor (.int a) (.int b) (.int (Builtin.bitXor a b)) := fun M A E s Q va vb R L ra rb h => by
  obtain ⟨_, rfl⟩ := ra.iInt; obtain ⟨_, rfl⟩ := rb.iInt; exact xor_int (h _ _ _ (Sub.refl _) (.int _ _))
theorem opb_adds {a b : Str} (hz : a.length + b.length ≤ 1000000) : OpB W n .Add (.str a) (.str b) (.str (a ++ b)) := fun M A E s Q va vb R L ra rb h => by
  obtain ⟨_, rfl⟩ := ra.iStr; obtain ⟨_, rfl⟩ := rb.iStr; exact add_str (fun t k => h _ s.heap k (Sub.refl _) (.str _ _)) (sz hz)
theorem opb_muls {a : Str} {b : Int} (ha : a.length = 1) (h0 : b ≤ 1000000) (h1 : -1000000 ≤ b) : OpB W n .Mult (.str a) (.int b) (.str (Txt.mul a b)) := fun M A E s Q va vb R L ra rb h => by
  obtain ⟨_, rfl⟩ := ra.iStr; obtain ⟨_, rfl⟩ := rb.iInt
  refine PySem.SB.mul ⟨?_, fun h2 _ h3 => ?_, fun h2 _ => ?_⟩ fun t k => h _ s.heap k (Sub.refl _) (.str _ _)
  · simp only [Bool.or_eq_false_iff, decide_eq_false_iff_not]; (first | lia (splits := 0) | lia (splits := 4) | omega)
  · rw [ha] at h3
    have : (1 : Int) ≤ (2 ^ 63 - 1) / b := Int.le_ediv_of_mul_le (by (first | lia (splits := 0) | lia (splits := 4) | omega)) (by (first | lia (splits := 0) | lia (splits := 4) | omega))
    (first | lia (splits := 0) | lia (splits := 4) | omega)
  · rw [ha]
    have h24 : (2 : Nat) ^ 24 = 16777216 := by decide
    simp only [Builtin.Str.tooLong, sizeLine, Nat.one_mul, decide_eq_false_iff_not]
    (first | lia (splits := 0) | lia (splits := 4) | omega)
theorem opb_addl {xs ys : List D} (hz : xs.length + ys.length ≤ 1000000) : OpB W n .Add (.list xs) (.list ys) (.list (xs ++ ys)) := fun M A E s Q va vb R L ra rb h => by
  obtain ⟨_, _, _, rfl, e1, m1, r1⟩ := ra.iList
  obtain ⟨_, _, _, rfl, e2, m2, r2⟩ := rb.iList
  have l1 := r1.length
  have l2 := r2.length
  simp only [Array.length_toList] at l1 l2
  refine PySem.P.add_list e1 e2 (h _ _ s.toks (alloc_sub _ _) (rep_newA L ?_)) (sz (by (first | lia (splits := 0) | lia (splits := 4) | omega)))
  rw [Array.toList_append]; exact r1.append r2
theorem foldl_app_toList (k : Nat) (xs : Array Value) : ∀ acc : Array Value, (List.foldl (fun x1 x2 => x1 ++ x2) acc (List.replicate k xs)).toList = acc.toList ++ (List.replicate k xs.toList).flatten := by
  induction k with
  | zero => intro acc; simp
  | succ k ih => intro acc; rw [List.replicate_succ, List.foldl_cons, ih, List.replicate_succ, List.flatten_cons]; simp
theorem RepL.rep {M : MS} {h : Heap} {v : List Value} {d : List D} (r : RepL M h v d) : ∀ k, RepL M h (List.replicate k v).flatten (List.replicate k d).flatten
  | 0 => .nil
  | k + 1 => by rw [List.replicate_succ, List.flatten_cons, List.replicate_succ, List.flatten_cons]; exact r.append (r.rep k)
theorem opb_mull {xs : List D} {b : Int} (hx : xs.length ≤ 1) (h0 : b ≤ 1000000) (h1 : -1000000 ≤ b) : OpB W n .Mult (.list xs) (.int b) (.list (List.replicate b.toNat xs).flatten) := fun M A E s Q va vb R L ra rb h => by
  obtain ⟨t, rfl⟩ := rb.iInt
  obtain ⟨l, k, items, rfl, e1, m1, r1⟩ := ra.iList
  have l1 := r1.length
  simp only [Array.length_toList] at l1
  have hs2 : items.size * b.toNat ≤ 2 ^ 24 := by
    have : items.size * b.toNat ≤ 1 * b.toNat := Nat.mul_le_mul_right _ (by (first | lia (splits := 0) | lia (splits := 4) | omega))
    have h24 : (2 : Nat) ^ 24 = 16777216 := by decide
    (first | lia (splits := 0) | lia (splits := 4) | omega)
  refine wpAny_binaryOp_repeat_ref (T := "list") (U := "int") (by decide) ⟨_, e1, rfl⟩ (fun s' => typeIs_int s' b t) noFill_list_mul F.fills_int_mul F.slot_int_rmul repeat_list F.slot_int_index.lookup
    (call_meets F.slot_int_rmul (typeIs_int s b t) F.entry_int_rmul (F.args_int_rmul_2 _ _) (int___rmul___int_list b t l items k)
      ⟨e1, rfl, ⟨_, e1, rfl⟩, call_meets F.slot_list_mul ⟨_, e1, rfl⟩ F.entry_list_mul (F.args_list_mul_2 _ _)
        (AutoListH.list___mul___list_int_3 l items k b t (by simp [Builtin.List.listFitsIndex]; (first | lia (splits := 0) | lia (splits := 4) | omega)) (by (first | lia (splits := 0) | lia (splits := 4) | omega)) (by simp [Builtin.List.listTooLong, sizeLine]; (first | lia (splits := 0) | lia (splits := 4) | omega)))
        ⟨e1, h _ _ s.toks (alloc_sub _ _) (rep_newA L ?_)⟩⟩)
  rw [foldl_app_toList]
  by_cases hi : items.isEmpty = true
  · have hn : items = #[] := by simpa using hi
    subst hn
    rw [if_pos hi]
    cases xs with
    | nil => simp; exact .nil
    | cons _ _ => simp at l1
  · rw [if_neg hi]
    simpa using r1.rep b.toNat
theorem opu_neg {a : Int} : OpU W n .USub (.int a) (.int (-a)) := fun M A E s Q va R L ra h => by
  obtain ⟨_, rfl⟩ := ra.iInt; exact neg_int (h _ _ _ (Sub.refl _) (.int _ _))
theorem opc_lt {a b : Int} : OpC W n .Lt (.int a) (.int b) (decide (a < b)) := fun M A E s Q va vb R L ra rb h => by obtain ⟨_, rfl⟩ := ra.iInt; obtain ⟨_, rfl⟩ := rb.iInt; exact lt_int (h _ _ (Sub.refl _))
theorem opc_gt {a b : Int} : OpC W n .Gt (.int a) (.int b) (decide (b < a)) := fun M A E s Q va vb R L ra rb h => by obtain ⟨_, rfl⟩ := ra.iInt; obtain ⟨_, rfl⟩ := rb.iInt; exact gt_int (h _ _ (Sub.refl _))
theorem opc_le {a b : Int} : OpC W n .LtE (.int a) (.int b) (decide (a ≤ b)) := fun M A E s Q va vb R L ra rb h => by obtain ⟨_, rfl⟩ := ra.iInt; obtain ⟨_, rfl⟩ := rb.iInt; exact le_int (h _ _ (Sub.refl _))
theorem opc_ge {a b : Int} : OpC W n .GtE (.int a) (.int b) (decide (b ≤ a)) := fun M A E s Q va vb R L ra rb h => by obtain ⟨_, rfl⟩ := ra.iInt; obtain ⟨_, rfl⟩ := rb.iInt; exact ge_int (h _ _ (Sub.refl _))
theorem opc_eq {a b : Int} : OpC W n .Eq (.int a) (.int b) (a == b) := fun M A E s Q va vb R L ra rb h => by obtain ⟨_, rfl⟩ := ra.iInt; obtain ⟨_, rfl⟩ := rb.iInt; exact eq_int (h _ _ (Sub.refl _))
theorem opc_ne {a b : Int} : OpC W n .NotEq (.int a) (.int b) (a != b) := fun M A E s Q va vb R L ra rb h => by obtain ⟨_, rfl⟩ := ra.iInt; obtain ⟨_, rfl⟩ := rb.iInt; exact ne_int (h _ _ (Sub.refl _))
theorem opc_is {a b : Bool} : OpC W n .Is (.bool a) (.bool b) (a == b) := fun M A E s Q va vb R L ra rb h => by obtain rfl := ra.iBool; obtain rfl := rb.iBool; exact is_bool (h _ _ (Sub.refl _))
theorem opc_isnot {a b : Bool} : OpC W n .IsNot (.bool a) (.bool b) (a != b) := fun M A E s Q va vb R L ra rb h => by obtain rfl := ra.iBool; obtain rfl := rb.iBool; exact isnot_bool (h _ _ (Sub.refl _))
theorem opc_eqs {a b : Str} : OpC W n .Eq (.str a) (.str b) (a.cps.toList == b.cps.toList) := fun M A E s Q va vb R L ra rb h => by obtain ⟨_, rfl⟩ := ra.iStr; obtain ⟨_, rfl⟩ := rb.iStr; exact PySem.P.eq_str (h _ _ (Sub.refl _))
mutual
noncomputable def D.py : D → PyData
  | .none => .none
  | .bool b => .bool b
  | .int i => .int i
  | .str x => .str x
  | .list l => .list (pyL l)
  | .tup l => .tuple (pyL l)
noncomputable def pyL : List D → List PyData
  | [] => []
  | d :: r => d.py :: pyL r
end
mutual
theorem Rep.reads {M : MS} {h : Heap} {v : Value} {d : D} (x : Rep M h v d) : ∃ as, Reads h v d.py as := match x with
  | .none => ⟨_, .none⟩
  | .bool b => ⟨_, .bool b⟩
  | .int i t => ⟨_, .int i t⟩
  | .str y t => ⟨_, .str y t⟩
  | .list e _ r => let ⟨_, q⟩ := r.reads; ⟨_, by rw [D.py]; exact .list e rfl rfl q⟩
  | .tup e _ r => let ⟨_, q⟩ := r.reads; ⟨_, by rw [D.py]; exact .tuple e rfl rfl q⟩
theorem RepL.reads {M : MS} {h : Heap} {v : List Value} {d : List D} (x : RepL M h v d) : ∃ as, ReadsAll h v (pyL d) as := match x with
  | .nil => ⟨_, .nil⟩
  | .cons a r => let ⟨_, q⟩ := a.reads; let ⟨_, p⟩ := r.reads; ⟨_, by rw [pyL]; exact .cons q p⟩
end
theorem opc_eql {a b : D} {c : Bool} (ha : SeqAt.shaped a.py = true) (hb : SeqAt.shaped b.py = true) (hc : PyData.eqv a.py b.py = c) : OpC W (n + 8) .Eq a b c := fun M A E s Q va vb R L ra rb h => by
  obtain ⟨_, qa⟩ := ra.reads
  obtain ⟨_, qb⟩ := rb.reads
  exact eq_dataH qa qb ha hb (by have := R.units; (first | lia (splits := 0) | omega)) (by rw [hc]; exact h s.heap s.toks (Sub.refl _))
theorem opc_nel {a b : D} {c : Bool} (ha : SeqAt.shaped a.py = true) (hb : SeqAt.shaped b.py = true) (hc : PyData.eqv a.py b.py = c) : OpC W (n + 8) .NotEq a b (!c) := fun M A E s Q va vb R L ra rb h => by
  obtain ⟨_, qa⟩ := ra.reads
  obtain ⟨_, qb⟩ := rb.reads
  exact ne_dataH qa qb ha hb (by have := R.units; (first | lia (splits := 0) | omega)) (by rw [hc]; exact h s.heap s.toks (Sub.refl _))
end
section
variable {X : Cx} {mine : MS} {σ : List (Option V)} {n : Nat}
theorem ev_cmp {l r : PySem.Expr} {op : CmpOp} {p : Pos} {da db : D} {c : Bool} (a : Ev X mine σ n l da) (b : Ev X mine σ n r db) (o : OpC X.W n op da db c) (hm : behindInMarks op r = false := by with_unfolding_all rfl) :
    Ev X mine σ n (.Compare l [op] [r] p) (.bool c) := fun A E s Q R S h =>
  wpAny_Compare1 (a A E s _ R S fun va h₁ t₁ k₁ S₁ r₁ => b A E _ _ R S₁ fun vb h₂ t₂ k₂ S₂ r₂ =>
    o _ A E _ _ va vb R S₂.live (r₁.ext k₂) r₂ fun h₃ t₃ k₃ => h _ h₃ t₃ ((k₁.trans k₂).trans (.of k₃)) (S₂.sub k₃) (.bool c)) hm
theorem tst_cmp {l r : PySem.Expr} {op : CmpOp} {p : Pos} {da db : D} {c : Bool} (a : Ev X mine σ n l da) (b : Ev X mine σ n r db) (o : OpC X.W n op da db c) (hm : behindInMarks op r = false := by with_unfolding_all rfl) :
    Tst X mine σ n (.Compare l [op] [r] p) c := fun A E s Q R S h =>
  wpAny_isTrue_Compare1 (a A E s _ R S fun va h₁ t₁ k₁ S₁ r₁ => b A E _ _ R S₁ fun vb h₂ t₂ k₂ S₂ r₂ =>
    o _ A E _ _ va vb R S₂.live (r₁.ext k₂) r₂ fun h₃ t₃ k₃ => wpAny_truthy_bool (h h₃ t₃ ((k₁.trans k₂).trans (.of k₃)) (S₂.sub k₃))) hm
noncomputable def D.truth : D → Bool
  | .none => false
  | .bool b => b
  | .int i => i != 0
  | .str x => x.length != 0
  | .list l => !l.isEmpty
  | .tup l => !l.isEmpty
noncomputable def D.tok : D → Prop
  | .int _ => True
  | .bool _ => True
  | .list l => l.length ≤ 1000000
  | _ => False
theorem truthy_rep {M : MS} {A : Around} {E : Value → Shared → Prop} {s : Shared} {v : Value} {d : D} {Q : Bool → Shared → Prop} (r : Rep M s.heap v d) (hd : d.tok)
    (h : ∀ tk, Q d.truth { s with toks := tk }) : wpAny X.W.M A (truthy v) Q E s := by
  cases r with
  | int i t => exact truthy_int (h s.toks)
  | bool b => exact wpAny_truthy_bool (h s.toks)
  | list e m r =>
    rename_i a k vs ds
    have hl := r.length
    simp only [Array.length_toList] at hl
    refine wpAny_truthy_list ⟨_, e, rfl, _, rfl⟩ ?_ ?_
    · have : ds.length ≤ 1000000 := hd
      (first | lia (splits := 0) | omega)
    · have : (!vs.isEmpty) = (D.list ds).truth := by
        rw [D.truth]
        cases ds with
        | nil => have : vs = #[] := by simpa using hl
                 subst this; rfl
        | cons _ _ => cases q : vs.isEmpty with
          | true => have : vs = #[] := by simpa using q
                    subst this; simp at hl
          | false => rfl
      rw [this]; exact h _
  | _ => exact hd.elim
theorem tst_val {e : PySem.Expr} {d : D} (a : Ev X mine σ n e d) (hd : d.tok)
    (he : ∀ whole, isTrue e X.env whole = (do let v ← whole; standAt e.pos; holding [v] (truthy v)) := by intro _; rfl) : Tst X mine σ n e d.truth := fun A E s Q R S h =>
  isTrue_plain (a A E s _ R S fun v h' tk k S' r => truthy_rep (X := X) r hd fun tk' => h h' tk' k S') (he _)
theorem tst_not {x : PySem.Expr} {p : Pos} {b : Bool} (a : Tst X mine σ n x b) : Tst X mine σ n (.UnaryOp .Not x p) (!b) := fun A E s Q R S h =>
  isTrue_not (a A E s _ R S fun h' tk k S' => h h' tk k S')
theorem tst_or_nil {p : Pos} : Tst X mine σ n (.BoolOp .Or [] p) false := fun A E s Q R S h => isTrue_or_nil (h _ s.toks (Ext.refl _ _) S)
theorem tst_and_nil {p : Pos} : Tst X mine σ n (.BoolOp .And [] p) true := fun A E s Q R S h => isTrue_and_nil (h _ s.toks (Ext.refl _ _) S)
theorem tst_or {x : PySem.Expr} {r : List PySem.Expr} {p : Pos} {b c : Bool} (a : Tst X mine σ n x b) (q : b = false → Tst X mine σ n (.BoolOp .Or r p) c) : Tst X mine σ n (.BoolOp .Or (x :: r) p) (b || c) := fun A E s Q R S h =>
  isTrue_or (a A E s _ R S fun h' tk k S' => by
    cases b with
    | true => exact h h' tk k S'
    | false => exact q rfl A E _ _ R S' fun h'' tk' k' S'' => h h'' tk' (k.trans k') S'')
theorem tst_and {x : PySem.Expr} {r : List PySem.Expr} {p : Pos} {b c : Bool} (a : Tst X mine σ n x b) (q : b = true → Tst X mine σ n (.BoolOp .And r p) c) : Tst X mine σ n (.BoolOp .And (x :: r) p) (b && c) := fun A E s Q R S h =>
  isTrue_and (a A E s _ R S fun h' tk k S' => by
    cases b with
    | false => exact h h' tk k S'
    | true => exact q rfl A E _ _ R S' fun h'' tk' k' S'' => h h'' tk' (k.trans k') S'')
theorem ev_if {t b o : PySem.Expr} {p : Pos} {c : Bool} {d : D} (a : Tst X mine σ n t c) (ht : c = true → Ev X mine σ n b d) (hf : c = false → Ev X mine σ n o d) : Ev X mine σ n (.IfExp t b o p) d := fun A E s Q R S h =>
  IfExp_ (a A E s _ R S fun h' tk k S' => by
    cases c with
    | true => exact ht rfl A E _ _ R S' fun v h'' tk' k' S'' r => h v h'' tk' (k.trans k') S'' r
    | false => exact hf rfl A E _ _ R S' fun v h'' tk' k' S'' r => h v h'' tk' (k.trans k') S'' r)
theorem ev_and1 {e : PySem.Expr} {p : Pos} {d : D} (a : Ev X mine σ n e d) : Ev X mine σ n (.BoolOp .And [e] p) d := fun A E s Q R S h => BoolOp_one (a A E s Q R S h)
theorem ev_and {x e : PySem.Expr} {r : List PySem.Expr} {p : Pos} {b : Bool} {c : Bool} (a : Ev X mine σ n x (.bool b)) (q : b = true → Ev X mine σ n (.BoolOp .And (e :: r) p) (.bool c)) : Ev X mine σ n (.BoolOp .And (x :: e :: r) p) (.bool (b && c)) := fun A E s Q R S h =>
  BoolOp_and (a A E s _ R S fun v h' tk k S' rv => by
    obtain rfl := rv.iBool
    refine wpAny_truthy_bool ?_
    cases b with
    | false => exact h _ h' tk k S' (.bool _)
    | true => exact q rfl A E _ _ R S' fun v h'' tk' k' S'' r => h v h'' tk' (k.trans k') S'' r)
end
end Mine
namespace Mine
noncomputable def pickL {α : Type} (l : List α) (lo hi st : Option Int) : List α :=
  (sliceRange (sliceBounds lo hi st l.length).1 (sliceBounds lo hi st l.length).2.1 (sliceBounds lo hi st l.length).2.2).filterMap (l[·]?)
theorem RepL.filterMap {M : MS} {h : Heap} {v : List Value} {d : List D} (r : RepL M h v d) : ∀ is : List Nat, RepL M h (is.filterMap (v[·]?)) (is.filterMap (d[·]?))
  | [] => .nil
  | i :: is => by
    cases e : d[i]? with
    | none =>
      have e' : v[i]? = none := by rw [List.getElem?_eq_none_iff] at e ⊢; rw [r.length]; exact e
      rw [List.filterMap_cons_none e, List.filterMap_cons_none e']; exact r.filterMap is
    | some y =>
      obtain ⟨x, e', a⟩ := r.get e
      rw [List.filterMap_cons_some e, List.filterMap_cons_some e']; exact .cons a (r.filterMap is)
theorem RepL.pick {M : MS} {h : Heap} {v : Array Value} {d : List D} (r : RepL M h v.toList d) (lo hi st : Option Int) : RepL M h (slicePick v lo hi st).toList (pickL d lo hi st) := by
  unfold slicePick pickL
  have e : v.size = d.length := by rw [← r.length, Array.length_toList]
  rw [e]
  simpa using r.filterMap (sliceRange (sliceBounds lo hi st d.length).1 (sliceBounds lo hi st d.length).2.1 (sliceBounds lo hi st d.length).2.2)
section
variable {X : Cx} {mine : MS} {σ : List (Option V)} {n : Nat}
theorem get_item {W : WdN} {M : MS} {A : Around} {E : Value → Shared → Prop} {s : Shared} {Q : Value → Shared → Prop} {vl : Value} {ds : List D} {k : Int} {t : Tok} {d : D} (r : Rep M s.heap vl (.list ds)) (h0 : 0 ≤ k) (hf : k < 2 ^ 63) (hd : ds[k.toNat]? = some d)
    (h : ∀ v, Rep M s.heap v d → Q v s) : wpAny W.M A (getItem vl (.int k t)) Q E s := by
  obtain ⟨_, _, _, rfl, e, m, r⟩ := r.iList
  obtain ⟨x, hx, a⟩ := r.get hd
  exact wpAny_getItem_list ⟨_, e, rfl, _, rfl⟩ h0 hf (by simpa using hx) (h x a)
theorem get_item_neg {W : WdN} {M : MS} {A : Around} {E : Value → Shared → Prop} {s : Shared} {Q : Value → Shared → Prop} {vl : Value} {ds : List D} {k : Int} {t : Tok} {d : D} (r : Rep M s.heap vl (.list ds)) (h0 : k < 0) (h1 : -(ds.length : Int) ≤ k) (hf : -(2 ^ 63) ≤ k) (hd : ds[(k + ds.length).toNat]? = some d)
    (h : ∀ v, Rep M s.heap v d → Q v s) : wpAny W.M A (getItem vl (.int k t)) Q E s := by
  obtain ⟨a, n', vs, rfl, e, m, r⟩ := r.iList
  have l := r.length
  simp only [Array.length_toList] at l
  rw [← l] at hd h1
  obtain ⟨x, hx, a⟩ := r.get hd
  exact wpAny_getItem_list_neg ⟨_, e, rfl, _, rfl⟩ h0 h1 hf (by simpa using hx) (h x a)
theorem rep_list_type {M : MS} {s : Shared} {v : Value} {ds : List D} (r : Rep M s.heap v (.list ds)) : s.TypeIs v "list" := by
  obtain ⟨_, _, _, rfl, e, m, r⟩ := r.iList
  exact ⟨_, e, rfl⟩
theorem ev_item {value slice : PySem.Expr} {p : Pos} {ds : List D} {k : Int} {d : D} (a : Ev X mine σ n value (.list ds)) (b : Ev X mine σ n slice (.int k)) (h0 : 0 ≤ k) (hd : ds[k.toNat]? = some d) (hf : k < 2 ^ 63 := by (first | lia (splits := 0) | omega))
    (hs : ∀ o i, subscripted slice false o i = operate [o, i] (getItem o i) := by intro _ _; rfl) : Ev X mine σ n (.Subscript value slice p) d := fun A E s Q R S h =>
  Subscript_ (a A E s _ R S fun va h₁ t₁ k₁ S₁ r₁ => b A E _ _ R S₁ fun vb h₂ t₂ k₂ S₂ r₂ => by
    obtain ⟨_, rfl⟩ := r₂.iInt
    have r := r₁.ext k₂
    exact tail_any (s := { s with heap := h₂, toks := t₂ }) (rep_list_type r) slot_list_getitem.lookup (get_item (W := X.W) r h0 hf hd fun v q => h v h₂ t₂ (k₁.trans k₂) S₂ q) (hs _ _))
theorem ev_item_neg {value slice : PySem.Expr} {p : Pos} {ds : List D} {k : Int} {d : D} (a : Ev X mine σ n value (.list ds)) (b : Ev X mine σ n slice (.int k)) (h0 : k < 0) (h1 : -(ds.length : Int) ≤ k) (hd : ds[(k + ds.length).toNat]? = some d) (hf : -(2 ^ 63) ≤ k := by (first | lia (splits := 0) | omega))
    (hs : ∀ o i, subscripted slice false o i = operate [o, i] (getItem o i) := by intro _ _; rfl) : Ev X mine σ n (.Subscript value slice p) d := fun A E s Q R S h =>
  Subscript_ (a A E s _ R S fun va h₁ t₁ k₁ S₁ r₁ => b A E _ _ R S₁ fun vb h₂ t₂ k₂ S₂ r₂ => by
    obtain ⟨_, rfl⟩ := r₂.iInt
    have r := r₁.ext k₂
    exact tail_any (s := { s with heap := h₂, toks := t₂ }) (rep_list_type r) slot_list_getitem.lookup (get_item_neg (W := X.W) r h0 h1 hf hd fun v q => h v h₂ t₂ (k₁.trans k₂) S₂ q) (hs _ _))
inductive Prt (X : Cx) (mine : MS) (σ : List (Option V)) (n : Nat) : Option PySem.Expr → Option Int → Prop
  | none : Prt X mine σ n none none
  | some {e : PySem.Expr} {i : Int} : Ev X mine σ n e (.int i) → Prt X mine σ n (some e) (some i)
theorem prt_ev {e : Option PySem.Expr} {o : Option Int} (a : Prt X mine σ n e o) {A : Around} {E : Value → Shared → Prop} {s : Shared} {Q : Value → Shared → Prop} (R : Room A n) (S : St X mine σ s.heap)
    (h : ∀ v h' tk, Ext X.W.tabs s.heap h' → St X mine σ h' → IsPart v o → Q v { s with heap := h', toks := tk }) : wpAny X.W.M A (evalPart e X.env) Q E s := by
  cases a with
  | none => exact wpAny_evalPart_none (h _ s.heap s.toks (Ext.refl _ _) S .none)
  | some a => exact wpAny_evalPart_some (a A E s _ R S fun v h' tk k S' r => by obtain ⟨_, rfl⟩ := r.iInt; exact h _ h' tk k S' (.int _ _))
theorem ev_slice {value : PySem.Expr} {lo hi st : Option PySem.Expr} {p p' : Pos} {ds : List D} {l u c : Option Int} (a : Ev X mine σ n value (.list ds)) (bl : Prt X mine σ n lo l) (bu : Prt X mine σ n hi u) (bs : Prt X mine σ n st c) (h0 : c ≠ some 0)
    (hz : ds.length ≤ 1000000) {ops : Value → Value → List Value}
    (hs : ∀ o i, subscripted (.Slice lo hi st p') false o i = operate (ops o i) (getItem o i) := by intro _ _; rfl) : Ev X mine σ n (.Subscript value (.Slice lo hi st p') p) (.list (pickL ds l u c)) := fun A E s Q R S h =>
  Subscript_ (a A E s _ R S fun va h₁ t₁ k₁ S₁ r₁ => wpAny_Slice (prt_ev bl R S₁ fun vl h₂ t₂ k₂ S₂ pl => prt_ev bu R S₂ fun vu h₃ t₃ k₃ S₃ pu => prt_ev bs R S₃ fun vc h₄ t₄ k₄ S₄ pc => by
    have r := r₁.ext ((k₂.trans k₃).trans k₄)
    have k := ((k₁.trans k₂).trans k₃).trans k₄
    obtain ⟨a', n', vs, rfl, e, m, r⟩ := r.iList
    have e' := alloc_sub h₄ { cls := .type "slice", data := .fields #[vl, vu, vc] } _ _ e
    have S₅ := S₄.sub (alloc_sub h₄ { cls := .type "slice", data := .fields #[vl, vu, vc] })
    refine tail_any (s := { s with heap := h₄.push { cls := .type "slice", data := .fields #[vl, vu, vc] }, toks := t₄ }) (T := "list") ⟨_, e', rfl⟩ slot_list_getitem.lookup ?_ (hs _ _)
    refine wpAny_getItem_list_slice ⟨_, e', rfl, _, rfl⟩ (Heap.IsSliceOf.new ..) pl pu pc h0 (h _ _ t₄ (k.trans (.of fun b o q => alloc_sub _ _ b o (alloc_sub _ _ b o q))) (S₅.sub (alloc_sub _ _)) (rep_newA S₅.live ?_)) ?_
    · exact (r.ext (T := []) (.of (alloc_sub h₄ _))).pick l u c
    · have := r.length
      simp only [Array.length_toList] at this
      exact sz (by (first | lia (splits := 0) | omega))))
theorem ev_slice_str {value : PySem.Expr} {lo hi : PySem.Expr} {p p' : Pos} {x : Str} {i j : Int} (a : Ev X mine σ n value (.str x)) (bl : Ev X mine σ n lo (.int i)) (bu : Ev X mine σ n hi (.int j)) (hz : x.length ≤ 1000000) :
    Ev X mine σ n (.Subscript value (.Slice (some lo) (some hi) none p') p) (.str (Txt.slice x (some i) (some j))) := fun A E s Q R S h =>
  Subscript_ (a A E s _ R S fun va h₁ t₁ k₁ S₁ r₁ => wpAny_Slice (prt_ev (.some bl) R S₁ fun vl h₂ t₂ k₂ S₂ pl => prt_ev (.some bu) R S₂ fun vu h₃ t₃ k₃ S₃ pu => by
    obtain ⟨t, rfl⟩ := r₁.iStr
    cases pl
    cases pu
    rename_i tl tu
    have k := (k₁.trans k₂).trans k₃
    refine wpAny_evalPart_none ?_
    obtain ⟨T, id, q1, q2, q3⟩ := SBH.sliceItem_ss (prog := X.W.p) (w := X.W.w) (A := A) (E := E) (P := fun h' => Sub h₃ h') (s := { s with heap := h₃, toks := t₃ }) (x := x) (t := t) (Q := Q) (i := i) (j := j) (ui := tl) (uj := tu)
      (fun hp ob q b o e => Heap.get?_push_of_some _ (q b o e)) (fun _ _ e => e) (fun h' t' k' q => h _ h' k' (k.trans (.of q)) (S₃.sub q) (.str _ _)) (sz hz)
    exact tail_any (s := { s with heap := h₃.push { cls := .type "slice", data := .fields #[.int i tl, .int j tu, .none] }, toks := t₃ }) q2 q1 q3 rfl))
noncomputable def Fn (W : WdN) (f : Str) (args : List D) (res : D) (n : Nat) : Prop :=
  ∀ (M : MS) (A : Around) (E : Value → Shared → Prop) (s : Shared) (Q : Value → Shared → Prop) (vs : List Value) (fa : Addr), Room A n → W.mg f = some (.ref fa) → GS W.toWd s.heap → TB W M s.heap → Live M s.heap → RepL M s.heap vs args →
    (∀ r h' tk, Ext W.tabs s.heap h' → TB W M h' → Rep M h' r res → Q r { s with heap := h', toks := tk }) → wpAny W.M A (call (.ref fa) vs) Q E s
theorem load_glob {f : Str} {v : Value} {p : Pos} {A : Around} {E : Value → Shared → Prop} {s : Shared} {Q : Value → Shared → Prop} (S : St X mine σ s.heap) (hv : X.W.mg f = some v) (hk : X.env.kindOf f = some .globalImplicit) (hd : (f == ("__debug__" : Str)) = false) (h : Q v s) :
    wpAny X.W.M A (eval (.Name f p) X.env) Q E s :=
  Name_function_global S.kind hk (loadGlobal_global (by rw [S.ok.gl]; exact S.gsAt.g) hv h) hd
theorem load_blt {f : Str} {v : Value} {p : Pos} {A : Around} {E : Value → Shared → Prop} {s : Shared} {Q : Value → Shared → Prop} (S : St X mine σ s.heap) (hg : X.W.mg f = none) (hv : bootBuiltins f = some v) (hk : X.env.kindOf f = some .globalImplicit) (hd : (f == ("__debug__" : Str)) = false) (hn : f ≠ "__name__") (h : Q v s) :
    wpAny X.W.M A (eval (.Name f p) X.env) Q E s :=
  Name_function_global S.kind hk (loadGlobal_builtin (by rw [S.ok.gl]; exact S.gsAt.g) hg (by rw [S.ok.bl]; exact S.gsAt.b) ((S.gsAt.blt f hn).trans hv) h) hd
end
end Mine
namespace Mine
structure Mv (X : Cx) (mine : MS) (h : Heap) (mine' : MS) (h' : Heap) : Prop where
  keep : ∀ b o, h.get? b = some o → ¬ mine b → h'.get? b = some o ∨ (b ∈ X.W.tabs ∧ o.cls = .none ∧ ∃ vs more, o.data = .fields vs ∧ h'.get? b = some { o with data := .fields (vs ++ more) })
  grow : ∀ b, mine' b → mine b ∨ h.get? b = none
theorem Mv.of {X : Cx} {mine : MS} {h h' : Heap} (k : Ext X.W.tabs h h') : Mv X mine h mine h' := ⟨fun b o e _ => k b o e, fun _ => .inl⟩
theorem Mv.trans {X : Cx} {m₁ m₂ m₃ : MS} {h₁ h₂ h₃ : Heap} (a : Mv X m₁ h₁ m₂ h₂) (b : Mv X m₂ h₂ m₃ h₃) (l : ∀ b o, h₁.get? b = some o → ¬ m₁ b → ∃ o', h₂.get? b = some o') : Mv X m₁ h₁ m₃ h₃ where
  keep := fun c o e nm => by
    have nm2 : ¬ m₂ c := fun z => by
      rcases a.grow c z with z | z
      · exact nm z
      · (first | exact (no_get e z).elim | exact (no_get z e).elim | (rw [e] at z; cases z))
    rcases a.keep c o e nm with q | ⟨t, hc, vs, more, hd, q⟩
    · exact b.keep c o q nm2
    · rcases b.keep c _ q nm2 with q' | ⟨_, _, vs', more', hd', q'⟩
      · exact .inr ⟨t, hc, vs, more, hd, q'⟩
      · cases hd'
        exact .inr ⟨t, hc, vs, more ++ more', hd, by rw [q', Array.append_assoc]⟩
  grow := fun c z => by
    rcases b.grow c z with z | z
    · exact a.grow c z
    · refine (Classical.em (m₁ c)).imp id fun nm => ?_
      cases q : h₁.get? c with
      | none => rfl
      | some o =>
        obtain ⟨o', q'⟩ := l c o q nm
        (first | exact (no_get z q').elim | exact (no_get q' z).elim | (rw [z] at q'; cases q'))
theorem Mv.some {X : Cx} {m₁ m₂ : MS} {h₁ h₂ : Heap} (a : Mv X m₁ h₁ m₂ h₂) : ∀ b o, h₁.get? b = some o → ¬ m₁ b → ∃ o', h₂.get? b = some o' := fun b o e nm => by
  rcases a.keep b o e nm with q | ⟨_, _, _, _, _, q⟩ <;> exact ⟨_, q⟩
theorem Mv.tr {X : Cx} {m₁ m₂ m₃ : MS} {h₁ h₂ h₃ : Heap} (a : Mv X m₁ h₁ m₂ h₂) (b : Mv X m₂ h₂ m₃ h₃) : Mv X m₁ h₁ m₃ h₃ := a.trans b a.some
theorem Mv.get {X : Cx} {m₁ m₂ : MS} {h₁ h₂ : Heap} (a : Mv X m₁ h₁ m₂ h₂) {b : Addr} {o : Obj} (e : h₁.get? b = Option.some o) (nm : ¬ m₁ b) (hc : o.cls ≠ .none) : h₂.get? b = Option.some o := by
  rcases a.keep b o e nm with q | ⟨_, q, _⟩
  · exact q
  · exact absurd q hc
theorem Rep.mv {X : Cx} {m₁ m₂ : MS} {h₁ h₂ : Heap} {v : Value} {d : D} (r : Rep (X.MM m₁) h₁ v d) (a : Mv X m₁ h₁ m₂ h₂) : Rep (X.MM m₂) h₂ v d :=
  r.mono (fun b vs n nm => ⟨fun e => a.get e (fun z => nm (.inr z)) (by intro q; cases q), fun e => a.get e (fun z => nm (.inr z)) (by intro q; cases q)⟩)
    fun b o e z => z.imp id fun z => (a.grow b z).resolve_right (by rw [e]; intro q; cases q)
theorem RepL.mv {X : Cx} {m₁ m₂ : MS} {h₁ h₂ : Heap} {v : List Value} {d : List D} (r : RepL (X.MM m₁) h₁ v d) (a : Mv X m₁ h₁ m₂ h₂) : RepL (X.MM m₂) h₂ v d :=
  r.mono (fun b vs n nm => ⟨fun e => a.get e (fun z => nm (.inr z)) (by intro q; cases q), fun e => a.get e (fun z => nm (.inr z)) (by intro q; cases q)⟩)
    fun b o e z => z.imp id fun z => (a.grow b z).resolve_right (by rw [e]; intro q; cases q)
inductive FlowD where
  | next | brk | cont
  | ret (d : D)
inductive FlowRep (M : MS) (h : Heap) : FlowD → Flow → Prop
  | next : FlowRep M h .next .next
  | brk : FlowRep M h .brk .brk
  | cont : FlowRep M h .cont .cont
  | ret {d : D} {v : Value} : Rep M h v d → FlowRep M h (.ret d) (.ret v)
noncomputable abbrev Post := FlowD → MS → List (Option V) → Prop
noncomputable def Run (X : Cx) (n : Nat) (mine : MS) (σ : List (Option V)) (b : List Stmt) (P : Post) : Prop :=
  ∀ (A : Around) (E : Value → Shared → Prop) (s : Shared) (Q : Flow → Shared → Prop), Room A n → St X mine σ s.heap →
    (∀ fl mine' σ' h' tk f, P fl mine' σ' → Mv X mine s.heap mine' h' → St X mine' σ' h' → FlowRep (X.MM mine') h' fl f → Q f { s with heap := h', toks := tk }) →
    wpAny X.W.M A (execs b X.env) Q E s
noncomputable def Run1 (X : Cx) (n : Nat) (mine : MS) (σ : List (Option V)) (b : Stmt) (P : Post) : Prop :=
  ∀ (A : Around) (E : Value → Shared → Prop) (s : Shared) (Q : Flow → Shared → Prop), Room A n → St X mine σ s.heap →
    (∀ fl mine' σ' h' tk f, P fl mine' σ' → Mv X mine s.heap mine' h' → St X mine' σ' h' → FlowRep (X.MM mine') h' fl f → Q f { s with heap := h', toks := tk }) →
    wpAny X.W.M A (exec b X.env) Q E s
noncomputable abbrev Then (X : Cx) (n : Nat) (rest : List Stmt) (P : Post) : Post := fun fl m σ' => match fl with
  | .next => Run X n m σ' rest P
  | fl => P fl m σ'
section
variable {X : Cx} {mine : MS} {σ : List (Option V)} {n : Nat}
theorem run_nil {P : Post} (h : P .next mine σ) : Run X n mine σ [] P := fun A E s Q R S k => wpAny_execs_nil (k _ _ _ s.heap s.toks _ h (.of (Ext.refl _ _)) S .next)
theorem run_cons {st : Stmt} {rest : List Stmt} {P : Post} (a : Run1 X n mine σ st (Then X n rest P)) : Run X n mine σ (st :: rest) P := fun A E s Q R S k =>
  wpAny_execs_cons (a A E s _ R S fun fl m σ' h' tk f p mv S' fr => by
    cases fr with
    | next => exact p A E _ _ R S' fun fl2 m2 σ2 h2 tk2 f2 p2 mv2 S2 fr2 => k fl2 m2 σ2 h2 tk2 f2 p2 (mv.tr mv2) S2 fr2
    | brk => exact k _ m σ' h' tk _ p mv S' .brk
    | cont => exact k _ m σ' h' tk _ p mv S' .cont
    | ret r => exact k _ m σ' h' tk _ p mv S' (.ret r))
theorem Run.weak {b : List Stmt} {P P' : Post} (a : Run X n mine σ b P) (h : ∀ fl m σ', P fl m σ' → P' fl m σ') : Run X n mine σ b P' := fun A E s Q R S k =>
  a A E s Q R S fun fl m σ' h' tk f p mv S' fr => k fl m σ' h' tk f (h _ _ _ p) mv S' fr
theorem ns_uniq {h : Heap} {a : Addr} {m m' : Str → Option Value} (x : h.Ns a m) (y : h.Ns a m') : m = m' := by
  obtain ⟨o, es, ep, e, hd, _, f⟩ := x
  obtain ⟨o', es', ep', e', hd', _, f'⟩ := y
  (first | exact (no_get e e').elim | exact (no_get e' e).elim | (rw [e] at e'; cases e'))
  (first | exact (no_get hd hd').elim | exact (no_get hd' hd).elim | (rw [hd] at hd'; cases hd'))
  funext z
  rw [← f, ← f']
theorem St.turn {σ' : List (Option V)} {h h' : Heap} {L : Addr} (S : St X mine σ h) (hL : mine L) (k : ∀ b, b ≠ L → h'.get? b = h.get? b) (hl : ∃ o, h'.get? L = some o) (hns : ∃ m, h'.Ns X.env.locals m)
    (hcell : ∀ c v, h.IsCell c v → ∃ v', h'.IsCell c v')
    (hvar : ∀ (i : Nat) (v : V), σ'[i]? = some (some v) → ∃ x val, X.vs[i]? = some x ∧ VarAt X.env h' x val ∧ VRep (X.MM mine) mine h' val v)
    (hdist : ∀ (i j : Nat) a ds es, σ'[i]? = some (some (V.own a ds)) → σ'[j]? = some (some (V.own a es)) → i = j) (hro : X.fn = true → ∀ (i : Nat) a ds, σ'[i]? ≠ some (some (V.ro a ds))) : St X mine σ' h' where
  ok := S.ok
  gs := S.gs
  ext := fun b o e => by
    have ne : b ≠ L := fun q => by rw [q, S.fresh L hL] at e; cases e
    rw [k b ne]
    exact S.ext b o e
  tb := S.tb.but (fun b o nm e => by rw [k b (fun q => nm (q ▸ .inr hL))]; exact e) fun _ _ _ z => z
  disj := S.disj
  live := fun a z => by
    by_cases q : a = L
    · exact q ▸ hl
    · rw [k a q]; exact S.live a z
  fresh := S.fresh
  ns := ⟨S.ns.1, hns⟩
  cells := fun x hx => let ⟨a, c, b, d, v, e⟩ := S.cells x hx; ⟨a, c, b, d, hcell c v e⟩
  var := hvar
  dist := hdist
  noro := hro
  cl := fun x c e => let ⟨v, q⟩ := S.cl x c e; hcell c v q
theorem VRep.turn {h h' : Heap} {L : Addr} {val : Value} {u : V} (hL : mine L) (k : ∀ b, b ≠ L → h'.get? b = h.get? b) (hl : ∀ vs n, h.get? L ≠ some (lob vs n)) (r : VRep (X.MM mine) mine h val u) : VRep (X.MM mine) mine h' val u := by
  cases u with
  | val d => exact Rep.but r (.inr hL) fun b o q e => (k b q).trans e
  | own a ds =>
    obtain ⟨e, m, n, vs, g, r⟩ := r
    exact ⟨e, m, n, vs, (k a (fun q => hl _ _ (q ▸ g))).trans g, r.but (.inr hL) fun b o q e => (k b q).trans e⟩
  | ro a ds =>
    obtain ⟨e, n, vs, g, r⟩ := r
    exact ⟨e, n, vs, (k a (fun q => hl _ _ (q ▸ g))).trans g, r.but (.inr hL) fun b o q e => (k b q).trans e⟩
  | ob u L' F => exact ⟨r.1, r.2.mono (fun a o _ nm e => .inl ((k a (fun q => nm (.inr (q ▸ hL)))).trans e)) fun _ _ _ => id⟩
theorem store_var' {A : Around} {E : Value → Shared → Prop} {s : Shared} {Q : Unit → Shared → Prop} {i : Nat} {x : Str} {v : Value} {u : V} (S : St X mine σ s.heap) (hx : X.vs[i]? = some x) (hk : X.env.kindOf x = some .local ∨ x ∈ X.wr)
    (r : VRep (X.MM mine) mine s.heap v u) (hd : ∀ a ds, u = .own a ds → ∀ (j : Nat) es, σ[j]? = some (some (V.own a es)) → j = i) (hr : ∀ a ds, u ≠ .ro a ds)
    (h : ∀ h' tk, Mv X mine s.heap mine h' → St X mine (σ.set i (some u)) h' → (∀ b vs n, s.heap.get? b = some (lob vs n) → h'.get? b = some (lob vs n)) → Q () { s with heap := h', toks := tk }) :
    wpAny X.W.M A (storeName X.env x v) Q E s := by
  have sub : ∀ {L : Addr} {h' : Heap}, mine L → (∀ b, b ≠ L → h'.get? b = s.heap.get? b) → Mv X mine s.heap mine h' := fun {L h'} hL k => ⟨fun b o e nm => .inl ((k b (fun q => nm (q ▸ hL))).trans e), fun _ => .inl⟩
  have dist : ∀ (j k : Nat) a ds es, (σ.set i (some u))[j]? = some (some (V.own a ds)) → (σ.set i (some u))[k]? = some (some (V.own a es)) → j = k := fun j k a ds es e1 e2 => by
    rw [List.getElem?_set] at e1 e2
    by_cases q1 : i = j <;> by_cases q2 : i = k
    · rw [← q1, ← q2]
    · rw [if_pos q1] at e1
      rw [if_neg q2] at e2
      split at e1
      · exact absurd (hd a ds (by simpa using e1) k es e2).symm q2
      · cases e1
    · rw [if_neg q1] at e1
      rw [if_pos q2] at e2
      split at e2
      · exact absurd (hd a es (by simpa using e2) j ds e1).symm q1
      · cases e2
    · rw [if_neg q1] at e1
      rw [if_neg q2] at e2
      exact S.dist j k a ds es e1 e2
  have hro : X.fn = true → ∀ (j : Nat) a ds, (σ.set i (some u))[j]? ≠ some (some (V.ro a ds)) := fun hf j a ds e => by
    rw [List.getElem?_set] at e
    split at e
    · split at e
      · exact hr a ds (by simpa using e)
      · cases e
    · exact S.noro hf j a ds e
  have uniq : ∀ {j : Nat} {y : Str}, i ≠ j → X.vs[j]? = some y → y ≠ x := fun {j y} hne e q => by
    have hi : i < X.vs.length := (List.getElem?_eq_some_iff.mp hx).1
    exact hne ((List.getElem?_inj hi S.ok.nodup).mp (by rw [hx, e, q]))
  rcases hk with hk | hk
  · obtain ⟨hL, m, hn⟩ := S.ns
    refine wpAny_storeName_local hk hn (fun h' hn' hs => ?_) (by rw [S.kind]; rfl)
    have kk : ∀ b, b ≠ X.env.locals → h'.get? b = s.heap.get? b := fun b q => hs.2 b q
    have notl : ∀ vs n, s.heap.get? X.env.locals ≠ some (lob vs n) := fun vs n q => by
      obtain ⟨o, _, _, e, d, _⟩ := hn; (first | exact (no_get e q).elim | exact (no_get q e).elim | (rw [e] at q; cases q)); cases d
    have cell : ∀ c v, s.heap.IsCell c v → h'.IsCell c v := fun c v ⟨o, e, d⟩ => ⟨o, (kk c fun q => by
      obtain ⟨o', _, _, e', d', _⟩ := hn; rw [← q, e] at e'; cases e'; (first | exact (no_get d d').elim | exact (no_get d' d).elim | (rw [d] at d'; cases d'))).trans e, d⟩
    refine h h' _ (sub hL kk) (S.turn hL kk (let ⟨o, _, _, e, _⟩ := hn'; ⟨o, e⟩) ⟨_, hn'⟩ (fun c v q => ⟨v, cell c v q⟩) (fun j w e => ?_) dist hro) (fun b vs n e => (kk b fun q => notl _ _ (q ▸ e)).trans e)
    by_cases q : i = j
    · subst q
      rw [List.getElem?_set] at e
      split at e
      · split at e
        · cases e
          exact ⟨x, v, hx, .inl ⟨hk, _, hn', by simp⟩, r.turn hL kk notl⟩
        · cases e
      · rename_i hh; exact absurd rfl hh
    · rw [List.getElem?_set, if_neg q] at e
      obtain ⟨y, val, hy, a, b⟩ := S.var j w e
      refine ⟨y, val, hy, ?_, b.turn hL kk notl⟩
      rcases a with ⟨hl, m', hn2, hm⟩ | ⟨hl, c, hc, hv⟩
      · cases ns_uniq hn2 hn
        exact .inl ⟨hl, _, hn', by rw [if_neg (uniq q hy)]; exact hm⟩
      · exact .inr ⟨hl, c, hc, cell c _ hv⟩
  · obtain ⟨hkc, c, hc, hL, v₀, hv₀⟩ := S.cells x hk
    refine wpAny_storeName_cell S.kind hkc hc hv₀ fun h' hv' hs => ?_
    have kk : ∀ b, b ≠ c → h'.get? b = s.heap.get? b := fun b q => hs.2 b q
    have notl : ∀ vs n, s.heap.get? c ≠ some (lob vs n) := fun vs n q => by
      obtain ⟨o, e, d⟩ := hv₀; (first | exact (no_get e q).elim | exact (no_get q e).elim | (rw [e] at q; cases q)); cases d
    have nsk : ∀ m, s.heap.Ns X.env.locals m → h'.Ns X.env.locals m := fun m ⟨o, es, ep, e, d, r⟩ => ⟨o, es, ep, (kk _ fun q => by
      obtain ⟨o', e', d'⟩ := hv₀; rw [← q, e] at e'; cases e'; (first | exact (no_get d d').elim | exact (no_get d' d).elim | (rw [d] at d'; cases d'))).trans e, d, r⟩
    refine h h' s.toks (sub hL kk) (S.turn hL kk (let ⟨o, e, _⟩ := hv'; ⟨o, e⟩) (let ⟨m, e⟩ := S.ns.2; ⟨m, nsk m e⟩) (fun c' v hq => ?_) (fun j w e => ?_) dist hro) (fun b vs n e => (kk b fun q => notl _ _ (q ▸ e)).trans e)
    · by_cases z : c' = c
      · exact ⟨_, z ▸ hv'⟩
      · exact ⟨v, let ⟨o, e, d⟩ := hq; ⟨o, (kk _ z).trans e, d⟩⟩
    by_cases q : i = j
    · subst q
      rw [List.getElem?_set] at e
      split at e
      · split at e
        · cases e
          exact ⟨x, v, hx, .inr ⟨.inl hkc, c, hc, hv'⟩, r.turn hL kk notl⟩
        · cases e
      · rename_i hh; exact absurd rfl hh
    · rw [List.getElem?_set, if_neg q] at e
      obtain ⟨y, val, hy, a, b⟩ := S.var j w e
      refine ⟨y, val, hy, ?_, b.turn hL kk notl⟩
      rcases a with ⟨hl, m', hn2, hm⟩ | ⟨hl, c', hc', hv⟩
      · exact .inl ⟨hl, m', nsk _ hn2, hm⟩
      · refine .inr ⟨hl, c', hc', let ⟨o, e, d⟩ := hv; ⟨o, (kk _ fun z => ?_).trans e, d⟩⟩
        subst z
        exact uniq q hy (name_of_addr (S.ok.apart (List.ne_nil_of_mem hk)) (mem_of_lookup hc') (mem_of_lookup hc))
theorem store_var {A : Around} {E : Value → Shared → Prop} {s : Shared} {Q : Unit → Shared → Prop} {i : Nat} {x : Str} {v : Value} {u : V} (S : St X mine σ s.heap) (hx : X.vs[i]? = some x) (hk : X.env.kindOf x = some .local ∨ x ∈ X.wr)
    (r : VRep (X.MM mine) mine s.heap v u) (hd : ∀ a ds, u = .own a ds → ∀ (j : Nat) es, σ[j]? = some (some (V.own a es)) → j = i) (hr : ∀ a ds, u ≠ .ro a ds)
    (h : ∀ h' tk, Mv X mine s.heap mine h' → St X mine (σ.set i (some u)) h' → Q () { s with heap := h', toks := tk }) :
    wpAny X.W.M A (storeName X.env x v) Q E s := store_var' S hx hk r hd hr fun h' tk mv S' _ => h h' tk mv S'
theorem set_val {i : Nat} {d : D} : ∀ a ds, V.val d = .own a ds → ∀ (j : Nat) es, σ[j]? = some (some (V.own a es)) → j = i := fun a ds e => by cases e
theorem r1_assign {σ' : List (Option V)} {x : Str} {p p' : Pos} {e : PySem.Expr} {d : D} {P : Post} (a : Ev X mine σ n e d) (hu : Up X.vs σ x (.val d) σ') (hk : X.env.kindOf x = some .local ∨ x ∈ X.wr) (h : P .next mine σ')
    (hs : swapsWith e (some (.Name x p)) p'.line X.env = pure false := by rfl) : Run1 X n mine σ (.Assign [.Name x p] e p') P := fun A E s Q R S k => by
  obtain ⟨i, hx, rfl⟩ := hu.index
  exact wpAny_Assign_Name (a A E s _ R S fun v h₁ t₁ k₁ S₁ r => store_var S₁ hx hk (u := .val d) r set_val (fun _ _ e => by cases e) fun h₂ t₂ mv S₂ => k _ _ _ h₂ t₂ _ h ((Mv.of k₁).tr mv) S₂ .next) hs
theorem r1_return {p : Pos} {e : PySem.Expr} {d : D} {P : Post} (a : Ev X mine σ n e d) (h : P (.ret d) mine σ) : Run1 X n mine σ (.Return (some e) p) P := fun A E s Q R S k =>
  wpAny_Return_some (a A E s _ R S fun v h₁ t₁ k₁ S₁ r => k _ _ _ h₁ t₁ _ h (.of k₁) S₁ (.ret r))
theorem r1_if {t : PySem.Expr} {b o : List Stmt} {p : Pos} {c : Bool} {P : Post} (a : Tst X mine σ n t c) (ht : c = true → Run X n mine σ b P) (hf : c = false → Run X n mine σ o P) : Run1 X n mine σ (.If t b o p) P := fun A E s Q R S k =>
  wpAny_If (a A E s _ R S fun h₁ t₁ k₁ S₁ => by
    cases c with
    | true => exact ht rfl A E _ _ R S₁ fun fl m σ' h' tk f p mv S' fr => k fl m σ' h' tk f p ((Mv.of k₁).tr mv) S' fr
    | false => exact hf rfl A E _ _ R S₁ fun fl m σ' h' tk f p mv S' fr => k fl m σ' h' tk f p ((Mv.of k₁).tr mv) S' fr)
end
end Mine
namespace Mine
structure FdOk (i np : Nat) (vs wr : List Str) : Prop where
  kind : (fd i).scope.kind = .function
  co : (fd i).scope.isCoroutine = false
  gen : (fd i).scope.isGenerator = false
  nodup : vs.Nodup
  nodbg : ∀ x ∈ vs, (x == ("__debug__" : Str)) = false
  pk : ∀ x ∈ vs.take np, (fd i).scope.names.lookup x = some .local ∨ (fd i).scope.names.lookup x = some .cell
  wrk : ∀ x ∈ wr, (fd i).scope.names.lookup x = some .cell
  bind : ∀ pm cd doc (l : List Value), l.length = np → bindArgs (docDef (fd i).name (fd i).params (fd i).body (fd i).scope pm cd doc) ⟨l, []⟩ = pure ((vs.take np).zip l)
structure Frm (env : Env) (W : Wd) (i : Nat) : Prop where
  sc : env.scope = (fd i).scope
  code : ∀ q ∈ W.nest, q.i = i → env.code = .ref q.c
  loc : env.frame = some env.locals
  qual : env.qual = (fd i).name ++ ".<locals>."
theorem Frm.kind {env : Env} {W : Wd} {i : Nat} (F : Frm env W i) {x : Str} {k : NameKind} (h : (fd i).scope.names.lookup x = some k) : env.kindOf x = some k := by
  unfold Env.kindOf; rw [F.sc]; exact h
theorem bindL_mem {K : Str → Option NameKind} : ∀ {binds : List (Str × Value)} {m : Str → Option Value} {x : Str} {v : Value}, (binds.map (·.1)).Nodup → (x, v) ∈ binds → K x = some .local → bindL K binds m x = some v
  | (y, w) :: r, m, x, v, hn, hm, hk => by
    have hn' := List.nodup_cons.mp (by simpa using hn : (y :: r.map (·.1)).Nodup)
    show bindL K r _ x = some v
    rcases List.mem_cons.mp hm with e | hm
    · obtain ⟨rfl, rfl⟩ := Prod.mk.inj e
      rw [if_pos hk]
      have : ∀ (r : List (Str × Value)) (m : Str → Option Value), m x = some v → x ∉ r.map (·.1) → bindL K r m x = some v := by
        intro r
        induction r with
        | nil => intro m h _; exact h
        | cons p r ih =>
          intro m h hx
          obtain ⟨z, u⟩ := p
          show bindL K r _ x = some v
          simp only [List.map_cons, List.mem_cons, not_or] at hx
          refine ih _ ?_ hx.2
          split
          · simp [hx.1, h]
          · exact h
      exact this r _ (by simp) hn'.1
    · exact bindL_mem (by simpa using hn'.2) hm hk
theorem bindC_mem {K : Str → Option NameKind} : ∀ {binds : List (Str × Value)} {m : Str → Option Value} {x : Str} {v : Value}, (binds.map (·.1)).Nodup → (x, v) ∈ binds → K x ≠ some .local → bindC K binds m x = some v
  | (y, w) :: r, m, x, v, hn, hm, hk => by
    have hn' := List.nodup_cons.mp (by simpa using hn : (y :: r.map (·.1)).Nodup)
    show bindC K r _ x = some v
    rcases List.mem_cons.mp hm with e | hm
    · obtain ⟨rfl, rfl⟩ := Prod.mk.inj e
      rw [if_neg hk]
      have : ∀ (r : List (Str × Value)) (m : Str → Option Value), m x = some v → x ∉ r.map (·.1) → bindC K r m x = some v := by
        intro r
        induction r with
        | nil => intro m h _; exact h
        | cons p r ih =>
          intro m h hx
          obtain ⟨z, u⟩ := p
          show bindC K r _ x = some v
          simp only [List.map_cons, List.mem_cons, not_or] at hx
          refine ih _ ?_ hx.2
          split
          · exact h
          · simp [hx.1, h]
      exact this r _ (by simp) hn'.1
    · exact bindC_mem (by simpa using hn'.2) hm hk
theorem zip_get {α β : Type} : ∀ {l : List α} {r : List β} {i : Nat} {a : α} {b : β}, l[i]? = some a → r[i]? = some b → (a, b) ∈ l.zip r
  | _ :: _, _ :: _, 0, _, _, e1, e2 => by simp at e1 e2; subst e1; subst e2; simp
  | _ :: l, _ :: r, i + 1, _, _, e1, e2 => by simp at e1 e2; simp; exact .inr (zip_get e1 e2)
  | [], _, _, _, _, e1, _ => by simp at e1
  | _ :: _, [], _, _, _, _, e2 => by simp at e2
theorem fn_of_run {W : Wd} {i np n : Nat} {vs wr : List Str} {args : List D} {res : D} {σ : List (Option V)} (ok : FdOk i np vs wr) (hi : i ∈ fnIdx) (hl : args.length = np) (hn : np ≤ vs.length)
    (hσ : σ = args.map (fun d => some (.val d)) ++ List.replicate (vs.length - np) none)
    (body : ∀ (env : Env) (h₀ : Heap) (M₀ mine : MS), Frm env W i → Run ⟨W, env, vs, h₀, M₀, wr, true⟩ n mine σ (fd i).body (fun fl _ _ => fl = .ret res)) : Fn W (fd i).name args res (n + 1) := fun M A E s Q vals fa R hg G T Lv ra k => by
  obtain ⟨fa', cd, hname, ⟨o, pm, doc, ho, hd⟩, hcode⟩ := G.fn i hi
  rw [hg] at hname
  cases hname
  have hvl : vals.length = np := ra.length.trans hl
  have hb := ok.bind pm cd doc vals hvl
  have hcl : ∀ x, (fd i).scope.names.lookup x = some .cell → ∀ n, ((cellsFrom n (fd i).scope.names []).lookup x).isSome = true := fun x hx n => cellsFrom_some _ _ _ (.inl hx)
  have pk : ∀ y ∈ (vs.take np).zip vals, (fd i).scope.names.lookup y.1 = some .local ∨ ((fd i).scope.names.lookup y.1 = some .cell ∧ ((cellsFrom (s.heap.objs.size + 1) (fd i).scope.names []).lookup y.1).isSome = true) := fun y hy =>
    (ok.pk y.1 (List.of_mem_zip hy).1).imp id fun h => ⟨h, hcl _ h _⟩
  refine wpAny_call (call_cells_ret R.d ho hd G.nolimit hcode hb pk (fun h₁ tk F C => ?_) ok.co ok.gen ok.kind)
  generalize hL : s.heap.objs.size = L at F C ⊢
  have hnoneL : s.heap.get? L = none := hL ▸ alloc_none s.heap
  have hcs : ∀ x c, (cellsFrom (L + 1) (fd i).scope.names []).lookup x = some c → L < c := fun x c e => C.above x c (mem_of_lookup e)
  let X : Cx := ⟨W, envOfC (fd i).name (fd i).scope L fa cd, vs, s.heap, M, wr, true⟩
  let mine : MS := fun a => a = L ∨ ∃ x, (cellsFrom (L + 1) (fd i).scope.names []).lookup x = some a
  have hfresh : ∀ a, mine a → s.heap.get? a = none := fun a ha => by
    rcases ha with rfl | ⟨x, hx⟩
    · exact hnoneL
    · cases q : s.heap.get? a with
      | none => rfl
      | some _ => exact absurd (hL ▸ Heap.lt_size q : a < L) (Nat.not_lt.mpr (Nat.le_of_lt (hcs x a hx)))
  have hsub : Sub s.heap h₁ := fun b o e => F.keep b o e
  have hdisj : ∀ a, M a → ¬ mine a := fun a ha hm => by
    obtain ⟨o, e⟩ := Lv a ha
    rw [hfresh a hm] at e; cases e
  have hF : Frm X.env W i := ⟨rfl, fun q hq hqi => by
    subst hqi
    obtain ⟨fa2, h2, ⟨o2, pm2, doc2, ho2, hd2⟩, _⟩ := G.nst q hq
    (first | exact (no_get hg h2).elim | exact (no_get h2 hg).elim | (rw [hg] at h2; cases h2))
    (first | exact (no_get ho ho2).elim | exact (no_get ho2 ho).elim | (rw [ho] at ho2; cases ho2))
    rw [hd] at hd2
    injection hd2 with e
    exact congrArg FuncData.code e, rfl, rfl⟩
  have hmono : ∀ b o, s.heap.get? b = some o → (X.MM mine) b → M b := fun b o e z => z.elim id fun z => by rw [hfresh b z] at e; cases e
  have nodupz : (((vs.take np).zip vals).map (·.1)).Nodup := by
    rw [List.map_fst_zip (by rw [List.length_take, hvl]; (first | lia (splits := 0) | lia (splits := 4) | omega))]
    exact ok.nodup.sublist (List.take_sublist _ _)
  have S : St X mine σ h₁ := {
    ok := ⟨ok.kind, rfl, rfl, ok.nodup, ok.nodbg, fun _ => C.apart⟩
    gs := G
    ext := .of hsub
    tb := T.but (fun b o _ e => hsub b o e) hmono
    disj := hdisj
    live := fun a ha => by
      rcases ha with ha | rfl | ⟨x, hx⟩
      · obtain ⟨o, e⟩ := Lv a ha; exact ⟨o, hsub _ _ e⟩
      · obtain ⟨o, _, _, e, _⟩ := F.ns; exact ⟨o, e⟩
      · obtain ⟨o, e, _⟩ := C.cell x a hx; exact ⟨o, e⟩
    fresh := hfresh
    ns := ⟨.inl rfl, _, F.ns⟩
    cells := fun x hx => by
      obtain ⟨c, hc⟩ := Option.isSome_iff_exists.mp (hcl x (ok.wrk x hx) (L + 1))
      exact ⟨ok.wrk x hx, c, hc, .inr ⟨x, hc⟩, _, C.cell x c hc⟩
    var := fun j v e => by
      rw [hσ] at e
      by_cases hj : j < args.length
      · rw [List.getElem?_append_left (by simpa using hj)] at e
        rw [List.getElem?_map] at e
        obtain ⟨d, hd', rfl⟩ : ∃ d, args[j]? = some d ∧ v = .val d := by
          cases q : args[j]? with
          | none => (first | exact (no_get q e).elim | exact (no_get e q).elim | (rw [q] at e; cases e))
          | some d => rw [q] at e; simp at e; exact ⟨d, rfl, e.symm⟩
        obtain ⟨val, hval, hr⟩ := ra.get hd'
        have hjv : j < vs.length := by (first | lia (splits := 0) | lia (splits := 4) | omega)
        obtain ⟨x, hx⟩ : ∃ x, vs[j]? = some x := ⟨vs[j], by simp [hjv]⟩
        have hxt : (vs.take np)[j]? = some x := by rw [List.getElem?_take_of_lt (by (first | lia (splits := 0) | lia (splits := 4) | omega))]; exact hx
        have hmem : (x, val) ∈ (vs.take np).zip vals := zip_get hxt hval
        refine ⟨x, val, hx, ?_, hr.mono (fun b vs n _ => ⟨hsub _ _, hsub _ _⟩) hmono⟩
        rcases ok.pk x (List.mem_of_getElem? hxt) with hk | hk
        · exact .inl ⟨hk, _, F.ns, bindL_mem nodupz hmem hk⟩
        · obtain ⟨c, hc⟩ := Option.isSome_iff_exists.mp (hcl x hk (L + 1))
          have hb2 : bindC (envOfC (fd i).name (fd i).scope L fa cd).kindOf ((vs.take np).zip vals) (fun _ => none) x = some val := bindC_mem nodupz hmem (by show (fd i).scope.names.lookup x ≠ _; rw [hk]; intro q; cases q)
          exact .inr ⟨.inl hk, c, hc, hb2 ▸ C.cell x c hc⟩
      · rw [List.getElem?_append_right (by simpa using hj), List.getElem?_replicate] at e
        split at e <;> cases e
    dist := fun j k a ds es e => by
      rw [hσ] at e
      by_cases hj : j < args.length
      · rw [List.getElem?_append_left (by simpa using hj), List.getElem?_map] at e
        cases q : args[j]? with
        | none => (first | exact (no_get q e).elim | exact (no_get e q).elim | (rw [q] at e; cases e))
        | some d => rw [q] at e; simp at e
      · rw [List.getElem?_append_right (by simpa using hj), List.getElem?_replicate] at e
        split at e <;> cases e
    noro := fun _ j a ds e => by
      rw [hσ] at e
      by_cases hj : j < args.length
      · rw [List.getElem?_append_left (by simpa using hj), List.getElem?_map] at e
        cases q : args[j]? with
        | none => (first | exact (no_get q e).elim | exact (no_get e q).elim | (rw [q] at e; cases e))
        | some d => rw [q] at e; simp at e
      · rw [List.getElem?_append_right (by simpa using hj), List.getElem?_replicate] at e
        split at e <;> cases e
    cl := fun x c e => ⟨_, C.cell x c e⟩ }
  exact body X.env s.heap M mine hF (A.deeper X.env) _ { s with heap := h₁, toks := tk } _ R.deeper S fun fl m σ' h' tk' f p mv S' fr => by
    subst p
    cases fr with
    | ret r =>
      have hM : ∀ b, M b → (X.MM m) b := fun b => .inl
      exact k _ h' tk' S'.ext (S'.tb.anti hM) (r.anti hM)
end Mine
namespace Mine
section
variable {X : Cx} {mine : MS} {σ : List (Option V)} {n : Nat}
theorem ev_gint {f : Str} {p : Pos} {i : Int} (hv : ∀ h, GS X.W h → ∃ t, X.W.mg f = some (.int i t)) (hk : X.env.kindOf f = some .globalImplicit) (hd : (f == ("__debug__" : Str)) = false := by decide +kernel) : Ev X mine σ n (.Name f p) (.int i) := fun A E s Q R S h => by
  obtain ⟨t, hv⟩ := hv _ S.gs
  exact load_glob S hv hk hd (h _ _ s.toks (Ext.refl _ _) S (.int i t))
theorem ev_call {f : Str} {p p' : Pos} {e : PySem.Expr} {es : List PySem.Expr} {ds : List D} {res : D} {i m : Nat} (hf : Fn X.W (fd i).name ds res m) (a : EvL X mine σ n (e :: es) ds) (hi : i ∈ fnIdx) (hn : (fd i).name = f) (hm : m ≤ n)
    (hk : X.env.kindOf f = some .globalImplicit) (hd : (f == ("__debug__" : Str)) = false := by decide +kernel)
    (he : starEach (e :: es) X.env = (false, eval e X.env) :: starEach es X.env := by rfl)
    (hc : eval (.Call (.Name f p) (e :: es) [] p') X.env = (do callWith p' (← eval (.Name f p) X.env) [] (backTo p' (starEach (e :: es) X.env)) (backToKw p' (keywordEach [] X.env))) := by rfl) :
    Ev X mine σ n (.Call (.Name f p) (e :: es) [] p') res := fun A E s Q R S h => by
  obtain ⟨fa, cd, hx⟩ := S.gsAt.fn i hi
  have hg := hx.name
  rw [hn] at hg
  obtain ⟨o, pm, doc, ho, hdat⟩ := hx.at_
  refine Call_ (load_glob S hg hk hd ?_) hc
  refine callWith_def (o := o) hdat (a A E s _ _ R S fun vs h' tk k S' r => ⟨k.getD ho (by intro vs q; (first | exact (no_get hdat q).elim | exact (no_get q hdat).elim | (rw [hdat] at q; cases q))), ?_⟩) he
  exact hf _ A E { s with heap := h', toks := tk } Q vs fa (R.less hm) hx.name S'.gsAt S'.tb S'.live r fun v h'' tk' k' tb r' => h v h'' tk' (k.trans k') (S'.step k' tb) r'
noncomputable def OpF (W : Wd) (n : Nat) (f : Value) (ds : List D) (d : D) : Prop :=
  ∀ (M : MS) (A : Around) (E : Value → Shared → Prop) (s : Shared) (Q : Value → Shared → Prop) (vs : List Value), Room A n → Live M s.heap → RepL M s.heap vs ds →
    (∀ v h' tk, Sub s.heap h' → Rep M h' v d → Q v { s with heap := h', toks := tk }) → wpAny W.M A (call f vs) Q E s
theorem ev_blt {f : Str} {id : String} {p p' : Pos} {e : PySem.Expr} {es : List PySem.Expr} {ds : List D} {d : D} (a : EvL X mine σ n (e :: es) ds) (o : OpF X.W n (.builtin id) ds d)
    (hb : bootBuiltins f = some (.builtin id)) (hf : f ∈ bNames) (hk : X.env.kindOf f = some .globalImplicit) (hd : (f == ("__debug__" : Str)) = false := by decide +kernel) (hn : f ≠ "__name__" := by decide +kernel)
    (he : starEach (e :: es) X.env = (false, eval e X.env) :: starEach es X.env := by rfl) (hplain : (backTo p' (starEach es X.env)).any (·.1) = false := by rfl)
    (hc : eval (.Call (.Name f p) (e :: es) [] p') X.env = (do callWith p' (← eval (.Name f p) X.env) [] (backTo p' (starEach (e :: es) X.env)) (backToKw p' (keywordEach [] X.env))) := by rfl) :
    Ev X mine σ n (.Call (.Name f p) (e :: es) [] p') d := fun A E s Q R S h =>
  Call_ (load_blt S (S.gs.bn f hf) hb hk hd hn (callWith_builtin1 (a A E s _ _ R S fun vs h' tk k S' r => o _ A E _ _ vs R S'.live r fun v h'' tk' k' r' => h v h'' tk' (k.trans (.of k')) (S'.sub k') r') he hplain)) hc
theorem ev_typ {f : Str} {T : String} {p p' : Pos} {e : PySem.Expr} {es : List PySem.Expr} {ds : List D} {d : D} (a : EvL X mine σ n (e :: es) ds) (o : OpF X.W n (.type T) ds d)
    (hb : bootBuiltins f = some (.type T)) (hf : f ∈ bNames) (hk : X.env.kindOf f = some .globalImplicit) (hd : (f == ("__debug__" : Str)) = false := by decide +kernel) (hn : f ≠ "__name__" := by decide +kernel)
    (he : starEach (e :: es) X.env = (false, eval e X.env) :: starEach es X.env := by rfl) (hplain : (backTo p' (starEach es X.env)).any (·.1) = false := by rfl)
    (hc : eval (.Call (.Name f p) (e :: es) [] p') X.env = (do callWith p' (← eval (.Name f p) X.env) [] (backTo p' (starEach (e :: es) X.env)) (backToKw p' (keywordEach [] X.env))) := by rfl) :
    Ev X mine σ n (.Call (.Name f p) (e :: es) [] p') d := fun A E s Q R S h =>
  Call_ (load_blt S (S.gs.bn f hf) hb hk hd hn (PyProof.Rows.callWith_type1 (a A E s _ _ R S fun vs h' tk k S' r => o _ A E _ _ vs R S'.live r fun v h'' tk' k' r' => h v h'' tk' (k.trans (.of k')) (S'.sub k') r') he hplain)) hc
end
section
variable {W : Wd} {n : Nat}
theorem rep1 {M : MS} {h : Heap} {vs : List Value} {d : D} (r : RepL M h vs [d]) : ∃ v, vs = [v] ∧ Rep M h v d := by
  obtain ⟨x, l, rfl, a, r⟩ := r.iCons
  obtain rfl := r.nil_inv
  exact ⟨_, rfl, a⟩
theorem rep2 {M : MS} {h : Heap} {vs : List Value} {d e : D} (r : RepL M h vs [d, e]) : ∃ v u, vs = [v, u] ∧ Rep M h v d ∧ Rep M h u e := by
  obtain ⟨x, l, rfl, a, r⟩ := r.iCons
  obtain ⟨y, rfl, b⟩ := rep1 r
  exact ⟨_, _, rfl, a, b⟩
theorem opf_len {ds : List D} (hz : ds.length ≤ 1000000) : OpF W n (.builtin "len") [.list ds] (.int ds.length) := fun M A E s Q vs R L r h => by
  obtain ⟨v, rfl, a⟩ := rep1 r
  obtain ⟨a, k, xs, rfl, e, m, r⟩ := a.iList
  have l := r.length
  simp only [Array.length_toList] at l
  refine call_len_list ⟨_, e, rfl, _, rfl⟩ (by (first | lia (splits := 0) | omega)) ?_
  rw [l]
  exact h _ s.heap _ (Sub.refl _) (.int _ _)
theorem opf_lens {x : Str} (hz : x.length ≤ 1000000) : OpF W n (.builtin "len") [.str x] (.int x.length) := fun M A E s Q vs R L r h => by
  obtain ⟨v, rfl, a⟩ := rep1 r
  obtain ⟨_, rfl⟩ := a.iStr
  exact P.len_str (by (first | lia (splits := 0) | omega)) (h _ s.heap _ (Sub.refl _) (.int _ _))
theorem opf_max2 {a b : Int} : OpF W n (.builtin "max") [.int a, .int b] (.int (max a b)) := fun M A E s Q vs R L r h => by
  obtain ⟨v, u, rfl, ra, rb⟩ := rep2 r
  obtain ⟨_, rfl⟩ := ra.iInt; obtain ⟨_, rfl⟩ := rb.iInt
  refine max_two_ints R.handled fun h' tk k => h _ h' tk k ?_
  split
  · rw [show max a b = b by (first | lia (splits := 0) | lia (splits := 4) | omega)]; exact .int _ _
  · rw [show max a b = a by (first | lia (splits := 0) | lia (splits := 4) | omega)]; exact .int _ _
theorem opf_min2 {a b : Int} : OpF W n (.builtin "min") [.int a, .int b] (.int (min a b)) := fun M A E s Q vs R L r h => by
  obtain ⟨v, u, rfl, ra, rb⟩ := rep2 r
  obtain ⟨_, rfl⟩ := ra.iInt; obtain ⟨_, rfl⟩ := rb.iInt
  refine min_two_ints R.handled fun h' tk k => h _ h' tk k ?_
  split
  · rw [show min a b = b by (first | lia (splits := 0) | lia (splits := 4) | omega)]; exact .int _ _
  · rw [show min a b = a by (first | lia (splits := 0) | lia (splits := 4) | omega)]; exact .int _ _
end
end Mine
namespace Mine
noncomputable abbrev Cx.hold (X : Cx) (I : Addr) : Cx := { X with M₀ := fun a => X.M₀ a ∨ a = I }
section
variable {X : Cx} {mine : MS} {σ : List (Option V)} {h h' : Heap} {I : Addr}
theorem mm_hold (z : (X.hold I).MM mine a) : X.MM mine a ∨ a = I := z.elim (fun z => z.elim (fun z => .inl (.inl z)) .inr) fun z => .inl (.inr z)
theorem hold_mm (z : X.MM mine a) : (X.hold I).MM mine a := z.elim (fun z => .inl (.inl z)) .inr
theorem mm_fresh (e : h.get? I = none) : ∀ b o, h.get? b = some o → (X.hold I).MM mine b → X.MM mine b := fun b o q z => (mm_hold z).resolve_right fun r => by subst r; (first | exact (no_get e q).elim | exact (no_get q e).elim | (rw [e] at q; cases q))
theorem VRep.mono {M M' mine : MS} {h h' : Heap} {v : Value} {u : V} (r : VRep M mine h v u) (k : Sub h h') (m : ∀ b o, h.get? b = some o → M' b → M b) : VRep M' mine h' v u := by
  cases u with
  | val d => exact Rep.mono r (fun b _ _ _ => ⟨k b _, k b _⟩) m
  | own a ds => obtain ⟨e, z, n, vs, g, r⟩ := r; exact ⟨e, z, n, vs, k _ _ g, r.mono (fun b _ _ _ => ⟨k b _, k b _⟩) m⟩
  | ro a ds => obtain ⟨e, n, vs, g, r⟩ := r; exact ⟨e, n, vs, k _ _ g, r.mono (fun b _ _ _ => ⟨k b _, k b _⟩) m⟩
  | ob u L F => exact ⟨r.1, r.2.mono (fun a o _ _ e => .inl (k _ _ e)) m⟩
theorem St.hold (S : St X mine σ h) (k : Sub h h') (e : h.get? I = none) (l : ∃ o, h'.get? I = some o) : St (X.hold I) mine σ h' where
  ok := ⟨S.ok.kind, S.ok.gl, S.ok.bl, S.ok.nodup, S.ok.nodbg, S.ok.apart⟩
  gs := S.gs
  ext := S.ext.trans (.of k)
  tb := S.tb.but (fun b o _ => k b o) (mm_fresh e)
  disj := fun a z => z.elim (S.disj a) fun q => by subst q; exact fun z => S.live.none e (.inr z)
  live := fun a z => (mm_hold z).elim (fun z => let ⟨o, q⟩ := S.live a z; ⟨o, k _ _ q⟩) fun q => q ▸ l
  fresh := S.fresh
  ns := ⟨S.ns.1, let ⟨m, a⟩ := S.ns.2; ⟨m, ns_ext (T := []) a (.of k)⟩⟩
  cells := fun x hx => let ⟨a, c, b, d, v, e⟩ := S.cells x hx; ⟨a, c, b, d, v, cell_ext (T := []) e (.of k)⟩
  var := fun i v q => let ⟨x, val, a, b, c⟩ := S.var i v q; ⟨x, val, a, b.ext (T := []) (.of k), c.mono k (mm_fresh e)⟩
  dist := S.dist
  noro := S.noro
  cl := fun x c e => let ⟨v, q⟩ := S.cl x c e; ⟨v, cell_ext (T := []) q (.of k)⟩
theorem St.drop (S : St (X.hold I) mine σ h) : St X mine σ h where
  ok := ⟨S.ok.kind, S.ok.gl, S.ok.bl, S.ok.nodup, S.ok.nodbg, S.ok.apart⟩
  gs := S.gs
  ext := S.ext
  tb := S.tb.anti fun _ => hold_mm
  disj := fun a z => S.disj a (.inl z)
  live := fun a z => S.live a (hold_mm z)
  fresh := S.fresh
  ns := S.ns
  cells := S.cells
  var := fun i v q => let ⟨x, val, a, b, c⟩ := S.var i v q; ⟨x, val, a, b, c.mono (fun _ _ => id) fun _ _ _ => hold_mm⟩
  dist := S.dist
  noro := S.noro
  cl := S.cl
theorem St.m0 (S : St X mine σ h) (hI : X.M₀ I) (h0 : X.h₀.get? I = none) (hc : ∀ x c, X.env.cells.lookup x = some c → c ≠ I) (hf : X.fn = true) (k : ∀ b, b ≠ I → ∀ o, h.get? b = some o → h'.get? b = some o) (l : ∃ o, h'.get? I = some o) : St X mine σ h' := by
  have ne : ∀ {a}, mine a → a ≠ I := fun z q => S.disj I hI (q ▸ z)
  have nsk : ∀ m, h.Ns X.env.locals m → h'.Ns X.env.locals m := fun m ⟨o, es, ep, e, r⟩ => ⟨o, es, ep, k _ (ne S.ns.1) _ e, r⟩
  have ck : ∀ c v, c ≠ I → h.IsCell c v → h'.IsCell c v := fun c v q ⟨o, e, d⟩ => ⟨o, k _ q _ e, d⟩
  have rk : ∀ b vs n, ¬ X.MM mine b → (h.get? b = some (lob vs n) → h'.get? b = some (lob vs n)) ∧ (h.get? b = some (tob vs n) → h'.get? b = some (tob vs n)) := fun b vs n nm => ⟨k b (fun q => nm (q ▸ .inl hI)) _, k b (fun q => nm (q ▸ .inl hI)) _⟩
  exact {
    ok := S.ok
    gs := S.gs
    ext := fun b o e => by
      have nb : b ≠ I := fun q => by subst q; (first | exact (no_get h0 e).elim | exact (no_get e h0).elim | (rw [h0] at e; cases e))
      rcases S.ext b o e with q | ⟨t, c, vs, more, d, q⟩
      · exact .inl (k b nb _ q)
      · exact .inr ⟨t, c, vs, more, d, k b nb _ q⟩
    tb := S.tb.but (fun b o nm e => k b (fun q => nm (q ▸ .inl hI)) o e) fun _ _ _ z => z
    disj := S.disj
    live := fun a z => by
      by_cases q : a = I
      · exact q ▸ l
      · obtain ⟨o, e⟩ := S.live a z; exact ⟨o, k a q o e⟩
    fresh := S.fresh
    ns := ⟨S.ns.1, let ⟨m, e⟩ := S.ns.2; ⟨m, nsk m e⟩⟩
    cells := fun x hx => let ⟨a, c, b, d, v, e⟩ := S.cells x hx; ⟨a, c, b, d, v, ck c v (ne d) e⟩
    var := fun i v e => by
      obtain ⟨x, val, a, b, c⟩ := S.var i v e
      refine ⟨x, val, a, ?_, ?_⟩
      · rcases b with ⟨p, m, q, r⟩ | ⟨p, c', q, r⟩
        · exact .inl ⟨p, m, nsk m q, r⟩
        · exact .inr ⟨p, c', q, ck c' _ (hc _ _ q) r⟩
      · cases v with
        | val d => exact Rep.mono c rk fun _ _ _ => id
        | own a ds => obtain ⟨e, z, n, vs, g, r⟩ := c; exact ⟨e, z, n, vs, k _ (ne z) _ g, r.mono rk fun _ _ _ => id⟩
        | ro a ds => exact absurd e (S.noro hf i a ds)
        | ob u L F => exact ⟨c.1, c.2.mono (fun b o _ nm e => .inl (k b (fun q => nm (q ▸ .inl hI)) _ e)) fun _ _ _ => id⟩
    dist := S.dist
    noro := S.noro
    cl := fun x c e => let ⟨v, q⟩ := S.cl x c e; ⟨v, ck c v (hc _ _ e) q⟩ }
theorem St.other {C : Addr} (S : St X mine σ h) (hob : ∀ (i : Nat) u L F, σ[i]? = some (some (.ob u L F)) → C ∉ L) (hC : ∃ oC esC epC, h.get? C = some oC ∧ oC.data = .dict esC epC) (h0 : X.h₀.get? C = none) (hm : ¬ X.MM mine C) (k : ∀ b, b ≠ C → h'.get? b = h.get? b) : St X mine σ h' := by
  obtain ⟨oC, esC, epC, eC, dC⟩ := hC
  have seq : ∀ b o, h.get? b = some o → (∀ es ep, o.data ≠ .dict es ep) → h'.get? b = some o := fun b o e q => (k b fun z => by subst z; (first | exact (no_get e eC).elim | exact (no_get eC e).elim | (rw [e] at eC; cases eC)); exact q _ _ dC).trans e
  have nsk : ∀ m, h.Ns X.env.locals m → h'.Ns X.env.locals m := fun m ⟨o, es, ep, e, r⟩ => ⟨o, es, ep, (k _ fun q => hm (.inr (q ▸ S.ns.1))).trans e, r⟩
  have ck : ∀ c v, h.IsCell c v → h'.IsCell c v := fun c v ⟨o, e, d⟩ => ⟨o, seq _ _ e (fun _ _ q => by (first | exact (no_get d q).elim | exact (no_get q d).elim | (rw [d] at q; cases q))), d⟩
  have rk : ∀ b vs n, ¬ X.MM mine b → (h.get? b = some (lob vs n) → h'.get? b = some (lob vs n)) ∧ (h.get? b = some (tob vs n) → h'.get? b = some (tob vs n)) := fun b vs n _ => ⟨fun e => seq _ _ e (fun _ _ q => by cases q), fun e => seq _ _ e (fun _ _ q => by cases q)⟩
  exact {
    ok := S.ok
    gs := S.gs
    ext := fun b o e => by
      have nb : b ≠ C := fun q => by subst q; (first | exact (no_get h0 e).elim | exact (no_get e h0).elim | (rw [h0] at e; cases e))
      rw [k b nb]; exact S.ext b o e
    tb := fun q hq => by
      obtain ⟨m1, m2, a, b⟩ := S.tb q hq
      have hd : CodeHd h' q.c q.P := by obtain ⟨o, vs, f, tf, fl, tg, ib, n, tt, e, c, d, r⟩ := a; exact ⟨o, vs, f, tf, fl, tg, ib, n, tt, seq _ _ e (fun _ _ z => by (first | exact (no_get d z).elim | exact (no_get z d).elim | (rw [d] at z; cases z))), c, d, r⟩
      refine ⟨m1, m2, hd, ?_⟩
      rcases b with e | ⟨c', m3, e, r⟩
      · exact .inl (seq _ _ e fun _ _ z => by cases z)
      refine .inr ⟨c', m3, seq _ _ e (fun _ _ z => by cases z), ?_⟩
      obtain ⟨c'', o, vs, t, a, b, d, r⟩ := r
      exact ⟨c'', o, vs, t, a, seq _ _ b (fun _ _ z => by (first | exact (no_get d z).elim | exact (no_get z d).elim | (rw [d] at z; cases z))), d, r⟩
    disj := S.disj
    live := fun a z => let ⟨o, e⟩ := S.live a z; ⟨o, (k a fun q => hm (q ▸ z)).trans e⟩
    fresh := S.fresh
    ns := ⟨S.ns.1, let ⟨m, e⟩ := S.ns.2; ⟨m, nsk m e⟩⟩
    cells := fun x hx => let ⟨a, c, b, d, v, e⟩ := S.cells x hx; ⟨a, c, b, d, v, ck c v e⟩
    var := fun i v e => by
      obtain ⟨x, val, a, b, c⟩ := S.var i v e
      refine ⟨x, val, a, ?_, ?_⟩
      · rcases b with ⟨p, m, q, r⟩ | ⟨p, c', q, r⟩
        · exact .inl ⟨p, m, nsk m q, r⟩
        · exact .inr ⟨p, c', q, ck c' _ r⟩
      · cases v with
        | val d => exact Rep.mono c rk fun _ _ _ => id
        | own a ds => obtain ⟨e, z, n, vs, g, r⟩ := c; exact ⟨e, z, n, vs, seq _ _ g (fun _ _ q => by cases q), r.mono rk fun _ _ _ => id⟩
        | ro a ds => obtain ⟨e, n, vs, g, r⟩ := c; exact ⟨e, n, vs, seq _ _ g (fun _ _ q => by cases q), r.mono rk fun _ _ _ => id⟩
        | ob u L F => exact ⟨c.1, c.2.mono (fun a o ha _ e' => .inl ((k a fun q => hob i u L F e (q ▸ ha)).trans e')) fun _ _ _ => id⟩
    dist := S.dist
    noro := S.noro
    cl := fun x c e => let ⟨v, q⟩ := S.cl x c e; ⟨v, ck c v q⟩ }
theorem St.obNe {C : Addr} (S : St X mine σ h) (e : h.get? C = none) : ∀ (i : Nat) u L F, σ[i]? = some (some (.ob u L F)) → C ∉ L := fun i u L F q hC => by
  obtain ⟨x, val, _, _, _, r⟩ := S.var i _ q
  obtain ⟨_, o, e'⟩ := r.2.1 C hC
  (first | exact (no_get e e').elim | exact (no_get e' e).elim | (rw [e] at e'; cases e'))
theorem St.fresh0 (S : St X mine σ h) (e : h.get? I = none) : X.h₀.get? I = none := by
  cases q : X.h₀.get? I with
  | none => rfl
  | some o => obtain ⟨o', q'⟩ := S.ext.some q; (first | exact (no_get e q').elim | exact (no_get q' e).elim | (rw [e] at q'; cases q'))
theorem St.cellNe (S : St X mine σ h) (e : h.get? I = none) : ∀ x c, X.env.cells.lookup x = some c → c ≠ I := fun x c q z => by
  obtain ⟨v, o, r, _⟩ := S.cl x c q; subst z; (first | exact (no_get e r).elim | exact (no_get r e).elim | (rw [e] at r; cases r))
end
noncomputable def It (X : Cx) (mine : MS) (σ : List (Option V)) (n : Nat) (e : PySem.Expr) (ds : List D) : Prop :=
  ∀ (A : Around) (E : Value → Shared → Prop) (s : Shared) (Q : Value → Shared → Prop), Room A n → St X mine σ s.heap →
    (∀ (I : Addr) (h₁ h₂ : Heap) (tk : Nat) (fp : List Addr) (P : Nat → Value → Prop) (Z : Nat → Heap → Prop), Ext X.W.tabs s.heap h₁ → St X mine σ h₁ → h₁.get? I = none → Sub h₁ h₂ → Z 0 h₂ →
      Walks X.W.p X.W.w A I fp [I] ds.length P Z → (∀ i v, P i v → ∃ d, ds[i]? = some d ∧ Rep (X.MM mine) h₁ v d) → (∀ i h, Z i h → ∃ o, h.get? I = some o ∧ o.cls ≠ .none) →
      (∀ b ∈ fp, b ≠ I → ¬ mine b ∧ ∃ o, h₁.get? b = some o ∧ o.cls ≠ .none) → Q (.ref I) { s with heap := h₂, toks := tk }) →
    wpAny X.W.M A (eval e X.env) (fun x s₁ => wpAny X.W.M A (pyIter x) Q E s₁) E s
section
variable {X : Cx} {mine : MS} {σ : List (Option V)} {n : Nat}
theorem it_list {e : PySem.Expr} {ds : List D} (a : Ev X mine σ n e (.list ds)) : It X mine σ n e ds := fun A E s Q R S h =>
  a A E s _ R S fun v h₁ t₁ k₁ S₁ r => by
    obtain ⟨a', n', vs, rfl, e, m, r⟩ := r.iList
    have hne : h₁.objs.size ≠ a' := fun q => by have := alloc_none h₁; rw [q, e] at this; cases this
    have len : vs.size = ds.length := by rw [← r.length, Array.length_toList]
    refine wpAny_pyIter_list ⟨_, e, rfl, _, rfl⟩ (h h₁.objs.size h₁ _ t₁ [h₁.objs.size, a'] (fun i v => vs[i]? = some v) _ k₁ S₁ (alloc_none h₁) (alloc_sub _ _) ⟨⟨_, Heap.get?_push_size _ rfl, rfl, rfl⟩, ⟨_, alloc_sub _ _ _ _ e, rfl, _, rfl⟩⟩ (len ▸ Walks.list R.handled h₁.objs.size a' hne.symm vs) ?_ ?_ ?_)
    · intro i v q
      obtain ⟨d, q', r'⟩ := r.getV (i := i) (x := v) (by simpa using q)
      exact ⟨d, q', r'⟩
    · rintro i hh ⟨⟨o, q, c, _⟩, _⟩
      exact ⟨o, q, by rw [c]; intro z; cases z⟩
    · intro b hb nb
      have : b = a' := by simpa [nb] using hb
      subst this
      exact ⟨fun z => m (.inr z), _, e, by intro z; cases z⟩
theorem it_reversed {e : PySem.Expr} {f : Str} {p p' : Pos} {ds : List D} (a : EvL X mine σ n [e] [.list ds]) (hb : bootBuiltins f = some (.type "reversed")) (hf : f ∈ bNames) (hk : X.env.kindOf f = some .globalImplicit) (hd : (f == ("__debug__" : Str)) = false := by decide +kernel) (hn : f ≠ "__name__" := by decide +kernel)
    (he : starEach [e] X.env = (false, eval e X.env) :: starEach [] X.env := by rfl) (hplain : (backTo p' (starEach [] X.env)).any (·.1) = false := by rfl)
    (hc : eval (.Call (.Name f p) [e] [] p') X.env = (do callWith p' (← eval (.Name f p) X.env) [] (backTo p' (starEach [e] X.env)) (backToKw p' (keywordEach [] X.env))) := by rfl) : It X mine σ n (.Call (.Name f p) [e] [] p') ds.reverse := fun A E s Q R S h =>
  Call_ (load_blt S (S.gs.bn f hf) hb hk hd hn (PyProof.Rows.callWith_type1 (a A E s _ _ R S fun vs h₁ t₁ k₁ S₁ r => by
    obtain ⟨v, rfl, r0⟩ := rep1 r
    clear r
    obtain ⟨a', n', vs, rfl, e, m, r⟩ := r0.iList
    have hne : h₁.objs.size ≠ a' := fun q => by have := alloc_none h₁; rw [q, e] at this; cases this
    have len : vs.size = ds.length := by rw [← r.length, Array.length_toList]
    refine call_reversed_list ⟨_, e, rfl, _, rfl⟩ ?_
    refine wpAny_pyIter_revIter (i := (vs.size : Int) - 1) ⟨_, Heap.get?_push_size _ rfl, rfl, rfl⟩ (h h₁.objs.size h₁ _ t₁ [h₁.objs.size, a'] (fun i v => vs[vs.size - 1 - i]? = some v ∧ i < vs.size) (fun i h => i ≤ vs.size ∧ h.IsRevIter h₁.objs.size a' ((vs.size : Int) - 1 - (i : Int)) ∧ h.IsList a' vs) k₁ S₁ (alloc_none h₁) (alloc_sub _ _)
      ⟨Nat.zero_le _, ⟨_, Heap.get?_push_size _ rfl, rfl, by show Data.fields _ = _; simp⟩, ⟨_, alloc_sub _ _ _ _ e, rfl, _, rfl⟩⟩ ?_ ?_ ?_ ?_)
    · have w := Walks.listRev (prog := X.W.p) (w := X.W.w) R.handled h₁.objs.size a' hne.symm vs
      rw [List.length_reverse, ← len]
      exact ⟨w.sub, w.frame, fun i s' Q' E' hi st hq => w.item i s' Q' E' hi st fun v h' tk hv => hq v h' tk ⟨hv, hi⟩, w.done, w.self⟩
    · rintro i v ⟨q, hi⟩
      obtain ⟨d, q', r'⟩ := r.getV (i := vs.size - 1 - i) (x := v) (by simpa using q)
      exact ⟨d, by rw [List.getElem?_reverse (by (first | lia (splits := 0) | omega)), ← len]; exact q', r'⟩
    · rintro i hh ⟨_, ⟨o, q, c, _⟩, _⟩
      exact ⟨o, q, by rw [c]; intro z; cases z⟩
    · intro b hb nb
      have : b = a' := by simpa [nb] using hb
      subst this
      exact ⟨fun z => m (.inr z), _, e, by intro z; cases z⟩) he hplain)) hc
noncomputable def rng (a b c : Int) : List D := (List.range (Builtin.Range.rangeSize a b c).toNat).map fun (i : Nat) => .int (a + (i : Int) * c)
theorem it_range_core {A : Around} {E : Value → Shared → Prop} {s : Shared} {Q : Value → Shared → Prop} {h₁ : Heap} {a b c : Int} {t u v : Tok} {tk : Nat} (R : Room A n) (k₁ : Ext X.W.tabs s.heap h₁) (S₁ : St X mine σ h₁) (hs : Builtin.Range.small a b c = true)
    (h : ∀ (I : Addr) (h₁ h₂ : Heap) (tk : Nat) (fp : List Addr) (P : Nat → Value → Prop) (Z : Nat → Heap → Prop), Ext X.W.tabs s.heap h₁ → St X mine σ h₁ → h₁.get? I = none → Sub h₁ h₂ → Z 0 h₂ →
      Walks X.W.p X.W.w A I fp [I] (rng a b c).length P Z → (∀ i v, P i v → ∃ d, (rng a b c)[i]? = some d ∧ Rep (X.MM mine) h₁ v d) → (∀ i h, Z i h → ∃ o, h.get? I = some o ∧ o.cls ≠ .none) →
      (∀ b ∈ fp, b ≠ I → ¬ mine b ∧ ∃ o, h₁.get? b = some o ∧ o.cls ≠ .none) → Q (.ref I) { s with heap := h₂, toks := tk }) :
    wpAny X.W.M A (pyIter (.ref h₁.objs.size)) Q E { s with heap := h₁.push { cls := .type "range", data := .fields #[.int a t, .int b u, .int c v] }, toks := tk } := by
  have nn : 0 ≤ Builtin.Range.rangeSize a b c := by
    unfold Builtin.Range.rangeSize
    split
    · split
      · exact Int.add_nonneg (Int.ediv_nonneg (by (first | lia (splits := 0) | omega)) (by (first | lia (splits := 0) | omega))) (by decide)
      · exact Int.le_refl _
    · split
      · exact Int.add_nonneg (Int.ediv_nonneg (by (first | lia (splits := 0) | omega)) (by (first | lia (splits := 0) | omega))) (by decide)
      · exact Int.le_refl _
  have len : (rng a b c).length = (Builtin.Range.rangeSize a b c).toNat := by simp [rng]
  refine wpAny_pyIter_range (r := h₁.objs.size) (Heap.get?_push_size _ rfl) hs ?_
  generalize hH : h₁.push { cls := .type "range", data := .fields #[.int a t, .int b u, .int c v] } = H
  have sub : Sub h₁ H := hH ▸ alloc_sub h₁ _
  refine h H.objs.size H _ _ [H.objs.size] (fun i v => (∃ t, v = .int (a + i * c) t) ∧ i < (rng a b c).length) (fun i h => IsRangeIter h H.objs.size (a + (i : Nat) * c) (((rng a b c).length : Int) - (i : Nat)) c) (k₁.trans (.of sub)) (S₁.sub sub) (alloc_none H) (alloc_sub _ _) ?_ ?_ ?_ ?_ ?_
  · show Heap.get? _ _ = _
    rw [len, Int.toNat_of_nonneg nn]
    refine (Heap.get?_push_size _ rfl).trans ?_
    simp
  · have w := Walks.range (prog := X.W.p) (w := X.W.w) R.handled H.objs.size a c (rng a b c).length
    exact ⟨w.sub, w.frame, fun i s' Q' E' hi st hq => w.item i s' Q' E' hi st fun v h' tk hv => hq v h' tk ⟨hv, hi⟩, w.done, w.self⟩
  · rintro i v ⟨⟨t, rfl⟩, hi⟩
    rw [len] at hi
    exact ⟨_, by simp [rng, hi], .int _ _⟩
  · intro i hh q
    exact ⟨_, q, by intro z; cases z⟩
  · intro b hb nb
    exact absurd (by simpa using hb) nb
theorem it_range1 {e : PySem.Expr} {f : Str} {p p' : Pos} {b : Int} (a : EvL X mine σ n [e] [.int b]) (hs : Builtin.Range.small 0 b 1 = true) (hb : bootBuiltins f = some (.type "range")) (hf : f ∈ bNames) (hk : X.env.kindOf f = some .globalImplicit) (hd : (f == ("__debug__" : Str)) = false := by decide +kernel) (hn : f ≠ "__name__" := by decide +kernel)
    (he : starEach [e] X.env = (false, eval e X.env) :: starEach [] X.env := by rfl) (hplain : (backTo p' (starEach [] X.env)).any (·.1) = false := by rfl)
    (hc : eval (.Call (.Name f p) [e] [] p') X.env = (do callWith p' (← eval (.Name f p) X.env) [] (backTo p' (starEach [e] X.env)) (backToKw p' (keywordEach [] X.env))) := by rfl) : It X mine σ n (.Call (.Name f p) [e] [] p') (rng 0 b 1) := fun A E s Q R S h =>
  Call_ (load_blt S (S.gs.bn f hf) hb hk hd hn (PyProof.Rows.callWith_type1 (a A E s _ _ R S fun vs h₁ t₁ k₁ S₁ r => by
    obtain ⟨v, rfl, r0⟩ := rep1 r
    obtain ⟨_, rfl⟩ := r0.iInt
    refine call_range_1 ?_
    exact it_range_core (s := s) R k₁ S₁ hs h) he hplain)) hc
theorem it_range2 {e e2 : PySem.Expr} {f : Str} {p p' : Pos} {x b : Int} (a : EvL X mine σ n [e, e2] [.int x, .int b]) (hs : Builtin.Range.small x b 1 = true) (hb : bootBuiltins f = some (.type "range")) (hf : f ∈ bNames) (hk : X.env.kindOf f = some .globalImplicit) (hd : (f == ("__debug__" : Str)) = false := by decide +kernel) (hn : f ≠ "__name__" := by decide +kernel)
    (he : starEach [e, e2] X.env = (false, eval e X.env) :: starEach [e2] X.env := by rfl) (hplain : (backTo p' (starEach [e2] X.env)).any (·.1) = false := by rfl)
    (hc : eval (.Call (.Name f p) [e, e2] [] p') X.env = (do callWith p' (← eval (.Name f p) X.env) [] (backTo p' (starEach [e, e2] X.env)) (backToKw p' (keywordEach [] X.env))) := by rfl) : It X mine σ n (.Call (.Name f p) [e, e2] [] p') (rng x b 1) := fun A E s Q R S h =>
  Call_ (load_blt S (S.gs.bn f hf) hb hk hd hn (PyProof.Rows.callWith_type1 (a A E s _ _ R S fun vs h₁ t₁ k₁ S₁ r => by
    obtain ⟨v, u, rfl, r, r'⟩ := rep2 r
    obtain ⟨_, rfl⟩ := r.iInt
    obtain ⟨_, rfl⟩ := r'.iInt
    exact call_range_2 (it_range_core (s := s) R k₁ S₁ hs h)) he hplain)) hc
theorem rep3 {M : MS} {h : Heap} {vs : List Value} {d e f : D} (r : RepL M h vs [d, e, f]) : ∃ v u w, vs = [v, u, w] ∧ Rep M h v d ∧ Rep M h u e ∧ Rep M h w f := by
  obtain ⟨x, l, rfl, a, r⟩ := r.iCons
  obtain ⟨y, z, rfl, b, c⟩ := rep2 r
  exact ⟨_, _, _, rfl, a, b, c⟩
theorem it_range3 {e e2 e3 : PySem.Expr} {f : Str} {p p' : Pos} {x b c : Int} (a : EvL X mine σ n [e, e2, e3] [.int x, .int b, .int c]) (hs : Builtin.Range.small x b c = true) (hc0 : c = -1) (hb : bootBuiltins f = some (.type "range")) (hf : f ∈ bNames) (hk : X.env.kindOf f = some .globalImplicit) (hd : (f == ("__debug__" : Str)) = false := by decide +kernel) (hn : f ≠ "__name__" := by decide +kernel)
    (he : starEach [e, e2, e3] X.env = (false, eval e X.env) :: starEach [e2, e3] X.env := by rfl) (hplain : (backTo p' (starEach [e2, e3] X.env)).any (·.1) = false := by rfl)
    (hc : eval (.Call (.Name f p) [e, e2, e3] [] p') X.env = (do callWith p' (← eval (.Name f p) X.env) [] (backTo p' (starEach [e, e2, e3] X.env)) (backToKw p' (keywordEach [] X.env))) := by rfl) : It X mine σ n (.Call (.Name f p) [e, e2, e3] [] p') (rng x b c) := fun A E s Q R S h =>
  Call_ (load_blt S (S.gs.bn f hf) hb hk hd hn (PyProof.Rows.callWith_type1 (a A E s _ _ R S fun vs h₁ t₁ k₁ S₁ r => by
    obtain ⟨v, u, z, rfl, r, r', r''⟩ := rep3 r
    obtain ⟨_, rfl⟩ := r.iInt
    obtain ⟨_, rfl⟩ := r'.iInt
    obtain ⟨_, rfl⟩ := r''.iInt
    subst hc0
    exact call_range_3 (by decide) (it_range_core (s := s) R k₁ S₁ hs h)) he hplain)) hc
end
end Mine
namespace Mine
section
variable {X : Cx} {mine : MS} {σ : List (Option V)} {n : Nat}
theorem Mv.hold {m₁ m₂ : MS} {h₁ h₂ : Heap} {I : Addr} (a : Mv (X.hold I) m₁ h₁ m₂ h₂) : Mv X m₁ h₁ m₂ h₂ := ⟨a.keep, a.grow⟩
theorem Mv.at0 {m₁ m₂ : MS} {h₁ h₂ h₃ : Heap} {I : Addr} (a : Mv X m₁ h₁ m₂ h₂) (e : h₁.get? I = none) (k : ∀ b, b ≠ I → ∀ o, h₂.get? b = Option.some o → h₃.get? b = Option.some o) : Mv X m₁ h₁ m₂ h₃ := ⟨fun b o q nm => by
  have nb : b ≠ I := fun z => by subst z; (first | exact (no_get e q).elim | exact (no_get q e).elim | (rw [e] at q; cases q))
  exact (a.keep b o q nm).imp (k b nb _) fun ⟨t, c, vs, more, d, r⟩ => ⟨t, c, vs, more, d, k b nb _ r⟩, a.grow⟩
theorem FlowRep.anti {M M' : MS} {h : Heap} {fl : FlowD} {f : Flow} (r : FlowRep M h fl f) (m : ∀ b, M' b → M b) : FlowRep M' h fl f := by
  cases r with
  | next => exact .next
  | brk => exact .brk
  | cont => exact .cont
  | ret r => exact .ret (r.anti m)
theorem St.m0d {h h' : Heap} {I : Addr} (S : St (X.hold I) mine σ h) (hn : ¬ X.M₀ I) (h0 : X.h₀.get? I = none) (hc : ∀ x c, X.env.cells.lookup x = some c → c ≠ I) (hf : X.fn = true) (k : ∀ b, b ≠ I → ∀ o, h.get? b = some o → h'.get? b = some o) : St X mine σ h' := by
  have ne : ∀ {a}, mine a → a ≠ I := fun z q => S.disj I (.inr rfl) (q ▸ z)
  have nsk : ∀ m, h.Ns X.env.locals m → h'.Ns X.env.locals m := fun m ⟨o, es, ep, e, r⟩ => ⟨o, es, ep, k _ (ne S.ns.1) _ e, r⟩
  have ck : ∀ c v, c ≠ I → h.IsCell c v → h'.IsCell c v := fun c v q ⟨o, e, d⟩ => ⟨o, k _ q _ e, d⟩
  have rk : ∀ b vs n, ¬ (X.hold I).MM mine b → (h.get? b = some (lob vs n) → h'.get? b = some (lob vs n)) ∧ (h.get? b = some (tob vs n) → h'.get? b = some (tob vs n)) := fun b vs n nm => ⟨k b (fun q => nm (q ▸ .inl (.inr rfl))) _, k b (fun q => nm (q ▸ .inl (.inr rfl))) _⟩
  exact {
    ok := S.drop.ok
    gs := S.gs
    ext := fun b o e => by
      have nb : b ≠ I := fun q => by subst q; (first | exact (no_get h0 e).elim | exact (no_get e h0).elim | (rw [h0] at e; cases e))
      rcases S.ext b o e with q | ⟨t, c, vs, more, d, q⟩
      · exact .inl (k b nb _ q)
      · exact .inr ⟨t, c, vs, more, d, k b nb _ q⟩
    tb := S.tb.but (fun b o nm e => k b (fun q => nm (q ▸ .inl (.inr rfl))) o e) fun _ _ _ => hold_mm
    disj := S.drop.disj
    live := fun a z => by
      have q : a ≠ I := fun q => z.elim (fun z => hn (q ▸ z)) fun z => ne z q
      obtain ⟨o, e⟩ := S.drop.live a z; exact ⟨o, k a q o e⟩
    fresh := S.fresh
    ns := ⟨S.ns.1, let ⟨m, e⟩ := S.ns.2; ⟨m, nsk m e⟩⟩
    cells := fun x hx => let ⟨a, c, b, d, v, e⟩ := S.cells x hx; ⟨a, c, b, d, v, ck c v (ne d) e⟩
    var := fun i v e => by
      obtain ⟨x, val, a, b, c⟩ := S.var i v e
      refine ⟨x, val, a, ?_, ?_⟩
      · rcases b with ⟨p, m, q, r⟩ | ⟨p, c', q, r⟩
        · exact .inl ⟨p, m, nsk m q, r⟩
        · exact .inr ⟨p, c', q, ck c' _ (hc _ _ q) r⟩
      · cases v with
        | val d => exact Rep.mono c rk fun _ _ _ => hold_mm
        | own a ds => obtain ⟨e, z, n, vs, g, r⟩ := c; exact ⟨e, z, n, vs, k _ (ne z) _ g, r.mono rk fun _ _ _ => hold_mm⟩
        | ro a ds => exact absurd e (S.noro hf i a ds)
        | ob u L F => exact ⟨c.1, c.2.mono (fun b o _ nm e => .inl (k b (fun q => nm (q ▸ .inl (.inr rfl))) _ e)) fun _ _ _ => hold_mm⟩
    dist := S.dist
    noro := S.noro
    cl := fun x c e => let ⟨v, q⟩ := S.cl x c e; ⟨v, ck c v (hc _ _ e) q⟩ }
theorem r1_for {x : Str} {px p : Pos} {iter : PySem.Expr} {body : List Stmt} {ds : List D} {P : Post} (Inv : Nat → MS → List (Option V) → Prop) (hf : X.fn = true) (hk : X.env.kindOf x = some .local ∨ x ∈ X.wr)
    (it : It X mine σ n iter ds) (h0 : Inv 0 mine σ)
    (step : ∀ I i d m σ', ds[i]? = some d → Inv i m σ' → ∃ σ'', Up X.vs σ' x (.val d) σ'' ∧ Run (X.hold I) n m σ'' body (fun fl m' σ₂ => match fl with
      | .next | .cont => Inv (i + 1) m' σ₂
      | .brk => P .next m' σ₂
      | .ret d => P (.ret d) m' σ₂))
    (fin : ∀ m σ', Inv ds.length m σ' → P .next m σ') (hs : ∀ x, foldedSetIterable iter X.env x = pure x := by intro _; rfl) : Run1 X n mine σ (.For (.Name x px) iter body [] p) P := fun A E s Q R S k => by
  refine wpAny_For (it A E s _ R S fun I h₁ h₂ tk fp PP Z k₁ S₁ e₁ sub hz W hP hI hfp => ?_) hs
  have hI0 : X.h₀.get? I = none := S₁.fresh0 e₁
  have hcell := S₁.cellNe e₁
  have S₂ : St (X.hold I) mine σ h₂ := S₁.hold sub e₁ (let ⟨o, e, _⟩ := hI _ _ hz; ⟨o, e⟩)
  refine codeAny_forLoop (fun j s' => ∃ i m σ' h' tk, s' = { s with heap := h', toks := tk } ∧ j = ds.length + 1 - i ∧ i ≤ ds.length ∧ Inv i m σ' ∧ Z i h' ∧ St (X.hold I) m σ' h' ∧ Mv X mine h₁ m h') ?_ (ds.length + 1)
    ⟨0, mine, σ, h₂, tk, rfl, rfl, Nat.zero_le _, h0, hz, S₂, .of (.of sub)⟩
  rintro j s' ⟨i, m, σ', h', tk', rfl, rfl, hi, inv, z, S', mv⟩
  have stepI : ∀ h'', (∀ b o, b ∉ [I] → h'.get? b = some o → h''.get? b = some o) → (∃ o, h''.get? I = some o) → St (X.hold I) m σ' h'' ∧ Mv X mine h₁ m h'' := fun h'' kk l =>
    ⟨S'.m0 (.inr rfl) hI0 hcell hf (fun b nb o e => kk b o (by simpa using nb) e) l, mv.at0 e₁ fun b nb o e => kk b o (by simpa using nb) e⟩
  by_cases hlt : i < ds.length
  · refine W.item i _ _ _ hlt z fun v h'' tk'' hv z' kk => ?_
    obtain ⟨S₃, mv₃⟩ := stepI h'' kk (let ⟨o, e, _⟩ := hI _ _ z'; ⟨o, e⟩)
    obtain ⟨d, hd, r⟩ := hP i v hv
    obtain ⟨σ'', up, run⟩ := step I i d m σ' hd inv
    obtain ⟨jx, hx, rfl⟩ := up.index
    have r₀ : Rep ((X.hold I).MM mine) h₁ v d := r.mono (fun _ _ _ _ => ⟨id, id⟩) (mm_fresh e₁)
    have r' : Rep ((X.hold I).MM m) h'' v d := Rep.mv (X := X.hold I) r₀ ⟨mv₃.keep, mv₃.grow⟩
    refine wpAny_assign_Name (store_var (X := X.hold I) S₃ hx hk (u := .val d) r' set_val (fun _ _ e => by cases e) fun h₄ t₄ mv₄ S₄ => ?_)
    refine run A _ _ _ R S₄ fun fl m' σ₂ h₅ t₅ f p mv₅ S₅ fr => ?_
    have mvall : Mv X mine h₁ m' h₅ := (mv₃.tr mv₄.hold).tr mv₅.hold
    have zz : Z (i + 1) h₅ := W.frame _ _ _ z' fun b hb o e => by
      have q : ¬ m b ∧ o.cls ≠ .none := by
        by_cases hbI : b = I
        · subst hbI
          obtain ⟨o', e', c'⟩ := hI _ _ z'
          (first | exact (no_get e e').elim | exact (no_get e' e).elim | (rw [e] at e'; cases e'))
          exact ⟨S₃.disj b (.inr rfl), c'⟩
        · obtain ⟨nm, o', e', c'⟩ := hfp b hb hbI
          have q1 := mv₃.get e' nm c'
          (first | exact (no_get e q1).elim | exact (no_get q1 e).elim | (rw [e] at q1; cases q1))
          exact ⟨fun zz => (mv₃.grow b zz).elim nm (fun q => by (first | exact (no_get e' q).elim | exact (no_get q e').elim | (rw [e'] at q; cases q))), c'⟩
      have e₄ := mv₄.get e q.1 q.2
      exact mv₅.get e₄ q.1 q.2
    cases fr with
    | next => exact ⟨ds.length + 1 - (i + 1), by (first | lia (splits := 0) | lia (splits := 4) | omega), i + 1, m', σ₂, h₅, t₅, rfl, rfl, hlt, p, zz, S₅, mvall⟩
    | cont => exact ⟨ds.length + 1 - (i + 1), by (first | lia (splits := 0) | lia (splits := 4) | omega), i + 1, m', σ₂, h₅, t₅, rfl, rfl, hlt, p, zz, S₅, mvall⟩
    | brk => exact k _ m' σ₂ h₅ t₅ _ p ((Mv.of k₁).tr mvall) S₅.drop .next
    | ret r => exact k _ m' σ₂ h₅ t₅ _ p ((Mv.of k₁).tr mvall) S₅.drop (.ret (r.anti fun _ => hold_mm))
  · obtain rfl : i = ds.length := Nat.le_antisymm hi (Nat.not_lt.mp hlt)
    refine W.done _ _ _ z fun h'' tk'' kk => ?_
    have kk' : ∀ b, b ≠ I → ∀ o, h'.get? b = some o → h''.get? b = some o := fun b nb o e => kk b o (by simpa using nb) e
    exact wpAny_execs_nil (k _ m σ' h'' tk'' _ (fin m σ' inv) ((Mv.of k₁).tr (mv.at0 e₁ kk')) (S'.m0d (fun z => S₁.live.none e₁ (.inl z)) hI0 hcell hf kk') .next)
theorem r1_while {t : PySem.Expr} {body : List Stmt} {p : Pos} {P : Post} (Inv : Nat → MS → List (Option V) → Prop) (k₀ : Nat) (h0 : Inv k₀ mine σ)
    (step : ∀ k m σ', Inv k m σ' → ∃ c, Tst X m σ' n t c ∧ (c = false → P .next m σ') ∧ (c = true → Run X n m σ' body (fun fl m' σ₂ => match fl with
      | .next | .cont => ∃ j, j < k ∧ Inv j m' σ₂
      | .brk => P .next m' σ₂
      | .ret d => P (.ret d) m' σ₂))) : Run1 X n mine σ (.While t body [] p) P := fun A E s Q R S k => by
  refine wpAny_While ?_
  refine codeAny_whileLoop (fun j s' => ∃ m σ' h' tk, s' = { s with heap := h', toks := tk } ∧ Inv j m σ' ∧ St X m σ' h' ∧ Mv X mine s.heap m h') ?_ k₀ ⟨mine, σ, s.heap, s.toks, rfl, h0, S, .of (Ext.refl _ _)⟩
  rintro j s' ⟨m, σ', h', tk', rfl, inv, S', mv⟩
  obtain ⟨c, tst, hfalse, htrue⟩ := step j m σ' inv
  refine tst A _ _ _ R S' fun h₁ t₁ k₁ S₁ => ?_
  cases c with
  | false => exact wpAny_execs_nil (k _ m σ' h₁ t₁ _ (hfalse rfl) (mv.tr (.of k₁)) S₁ .next)
  | true =>
    refine htrue rfl A _ _ _ R S₁ fun fl m' σ₂ h₅ t₅ f p mv₅ S₅ fr => ?_
    have mvall : Mv X mine s.heap m' h₅ := (mv.tr (.of k₁)).tr mv₅
    cases fr with
    | next => obtain ⟨j', lt, i⟩ := p; exact ⟨j', lt, m', σ₂, h₅, t₅, rfl, i, S₅, mvall⟩
    | cont => obtain ⟨j', lt, i⟩ := p; exact ⟨j', lt, m', σ₂, h₅, t₅, rfl, i, S₅, mvall⟩
    | brk => exact k _ m' σ₂ h₅ t₅ _ p mvall S₅ .next
    | ret r => exact k _ m' σ₂ h₅ t₅ _ p mvall S₅ (.ret r)
end
end Mine
namespace Mine
noncomputable def capt (env : Env) : List (Str × NameKind) → List (Str × Addr) → List (Str × Addr)
  | [], acc => acc
  | (x, k) :: r, acc => if k == .free then capt env r ((x, (env.cells.lookup x).getD 0) :: acc) else capt env r acc
theorem cellOf_some {env : Env} {x : Str} {c : Addr} (h : env.cells.lookup x = some c) : cellOf env x = pure c := by unfold cellOf; rw [h]
theorem closureFor_capt {scope : Scope} {env : Env} (h : ∀ p ∈ scope.names, p.2 = .free → ∃ c, env.cells.lookup p.1 = some c) : closureFor scope env = pure (capt env scope.names []) := by
  have key : ∀ (l : List (Str × NameKind)) (acc : List (Str × Addr)), (∀ p ∈ l, p.2 = .free → ∃ c, env.cells.lookup p.1 = some c) →
      (forIn l acc fun (p : Str × NameKind) cs => (if p.2 == .free then do let c ← cellOf env p.1; pure (ForInStep.yield ((p.1, c) :: cs)) else pure (ForInStep.yield cs) : Sem (ForInStep (List (Str × Addr))))) = pure (capt env l acc) := by
    intro l
    induction l with
    | nil => intro acc _; rfl
    | cons p r ih =>
      intro acc hl
      obtain ⟨x, k⟩ := p
      rw [List.forIn_cons]
      have hr := fun acc => ih acc fun q hq => hl q (List.mem_cons_of_mem _ hq)
      cases hk : k == NameKind.free with
      | true =>
        obtain ⟨c, hc⟩ := hl (x, k) List.mem_cons_self (eq_of_beq hk)
        simp only [hk, if_true, cellOf_some hc, pure_bind]
        rw [hr, capt, if_pos hk]
        simp [hc]
      | false =>
        simp only [hk, Bool.false_eq_true, if_false, pure_bind]
        rw [hr, capt, if_neg (by simp [hk])]
  unfold closureFor
  have := key scope.names [] h
  simp only [bind_pure]
  exact this
theorem capt_lookup {env : Env} {x : Str} {c : Addr} : ∀ (l : List (Str × NameKind)) (acc : List (Str × Addr)), (capt env l acc).lookup x = some c → acc.lookup x = some c ∨ (∃ p ∈ l, p.2 = .free ∧ p.1 = x ∧ (env.cells.lookup x).getD 0 = c)
  | [], acc, h => .inl h
  | (y, k) :: r, acc, h => by
    rw [capt] at h
    split at h
    · rename_i hk
      rcases capt_lookup r _ h with q | ⟨p, hp, q⟩
      · rw [List.lookup_cons] at q
        cases hxy : x == y with
        | true =>
          rw [hxy] at q
          have e := eq_of_beq hxy
          subst e
          exact .inr ⟨(x, k), List.mem_cons_self, eq_of_beq hk, rfl, by simpa using q⟩
        | false => rw [hxy] at q; exact .inl q
      · exact .inr ⟨p, List.mem_cons_of_mem _ hp, q⟩
    · rcases capt_lookup r _ h with q | ⟨p, hp, q⟩
      · exact .inl q
      · exact .inr ⟨p, List.mem_cons_of_mem _ hp, q⟩
theorem capt_acc {env : Env} {x : Str} {c : Addr} (hc : env.cells.lookup x = some c) : ∀ (l : List (Str × NameKind)) (acc : List (Str × Addr)), acc.lookup x = some c → (capt env l acc).lookup x = some c
  | [], acc, h => h
  | (y, k) :: r, acc, h => by
    rw [capt]
    split
    · refine capt_acc hc r _ ?_
      rw [List.lookup_cons]
      cases hxy : x == y with
      | true => have e := eq_of_beq hxy; subst e; simp [hc]
      | false => exact h
    · exact capt_acc hc r _ h
theorem capt_some {env : Env} {x : Str} {c : Addr} (hc : env.cells.lookup x = some c) : ∀ (l : List (Str × NameKind)) (acc : List (Str × Addr)), (x, NameKind.free) ∈ l → (capt env l acc).lookup x = some c
  | (y, k) :: r, acc, h => by
    rw [capt]
    rcases List.mem_cons.mp h with e | h
    · obtain ⟨rfl, rfl⟩ := Prod.mk.inj e
      rw [if_pos (by rfl)]
      exact capt_acc hc r _ (by simp [List.lookup_cons, hc])
    · split <;> exact capt_some hc r _ h
theorem lookup_relabel {env : Env} {x : Str} : ∀ {names : List (Str × NameKind)} {k : NameKind}, names.lookup x = some k →
    (names.map fun (n, k) => if (k == NameKind.free && env.scope.kind == .function && env.kindOf n == some .cell) then (n, NameKind.cell) else (n, k)).lookup x = some (if (k == NameKind.free && env.scope.kind == .function && env.kindOf x == some .cell) then .cell else k)
  | [], _, h => by simp at h
  | (n, k') :: r, k, h => by
    show List.lookup x ((if (k' == NameKind.free && env.scope.kind == .function && env.kindOf n == some .cell) = true then (n, NameKind.cell) else (n, k')) :: _) = _
    rw [List.lookup_cons] at h
    cases hx : x == n with
    | true =>
      rw [hx] at h
      have e := eq_of_beq hx
      subst e
      simp only [Option.some.injEq] at h
      subst h
      by_cases hc : (k' == NameKind.free && env.scope.kind == .function && env.kindOf x == some .cell) = true
      · rw [if_pos hc, if_pos hc]; simp [List.lookup_cons]
      · rw [if_neg hc, if_neg hc]; simp [List.lookup_cons]
    | false =>
      rw [hx] at h
      have ih := lookup_relabel (env := env) h
      by_cases hc : (k' == NameKind.free && env.scope.kind == .function && env.kindOf n == some .cell) = true
      · rw [if_pos hc]; simp only [List.lookup_cons, hx]; exact ih
      · rw [if_neg hc]; simp only [List.lookup_cons, hx]; exact ih
theorem kind_comp {scope : Scope} {cl : List (Str × Addr)} {C : Addr} {env : Env} {x : Str} {k : NameKind} (h : scope.names.lookup x = some k) (hk : k ≠ .free) : (compEnvC scope cl C env).kindOf x = some k := by
  have := lookup_relabel (env := env) h
  rw [if_neg (by simp [hk])] at this
  exact this
theorem kind_comp_free {scope : Scope} {cl : List (Str × Addr)} {C : Addr} {env : Env} {x : Str} (h : scope.names.lookup x = some .free) (hf : env.scope.kind = .function) (hk : env.kindOf x = some .cell) : (compEnvC scope cl C env).kindOf x = some .cell := by
  have := lookup_relabel (env := env) h
  rw [if_pos (by simp [hf, hk])] at this
  exact this
theorem mem_of_lookupA {α β : Type} [BEq α] [LawfulBEq α] {x : α} {k : β} : ∀ {l : List (α × β)}, l.lookup x = some k → (x, k) ∈ l
  | (y, k') :: r, h => by
    rw [List.lookup_cons] at h
    cases hx : x == y with
    | true => rw [hx] at h; have e := eq_of_beq hx; subst e; simp at h; subst h; exact List.mem_cons_self
    | false => rw [hx] at h; exact List.mem_cons_of_mem _ (mem_of_lookupA h)
noncomputable def capV : V → V
  | .val d => .val d
  | .own a ds => .ro a ds
  | .ro a ds => .ro a ds
  | .ob u L F => .ob u L F
inductive Cap (vs : List Str) (σ : List (Option V)) : List Str → List (Option V) → Prop
  | nil : Cap vs σ [] []
  | val {y : Str} {d : D} {ys : List Str} {caps : List (Option V)} : Lk vs σ y (.val d) → Cap vs σ ys caps → Cap vs σ (y :: ys) (some (.val d) :: caps)
  | own {y : Str} {a : Addr} {ds : List D} {ys : List Str} {caps : List (Option V)} : Lk vs σ y (.own a ds) → Cap vs σ ys caps → Cap vs σ (y :: ys) (some (.ro a ds) :: caps)
theorem Cap.at {vs : List Str} {σ : List (Option V)} {ys : List Str} {caps : List (Option V)} (c : Cap vs σ ys caps) : ∀ {j : Nat} {u : V}, caps[j]? = some (some u) → ∃ y v, ys[j]? = some y ∧ Lk vs σ y v ∧ u = capV v := by
  induction c with
  | nil => intro j u h; simp at h
  | val a r ih =>
    intro j u h
    cases j with
    | zero => simp at h; exact ⟨_, _, rfl, a, h.symm⟩
    | succ j => simpa using ih (j := j) (by simpa using h)
  | own a r ih =>
    intro j u h
    cases j with
    | zero => simp at h; exact ⟨_, _, rfl, a, h.symm⟩
    | succ j => simpa using ih (j := j) (by simpa using h)
noncomputable abbrev Cx.comp (X : Cx) (mine : MS) (scope : Scope) (x : Str) (ys : List Str) (I D C : Addr) : Cx :=
  ⟨X.W, compEnvC scope (capt X.env scope.names []) C X.env, x :: ys, X.h₀, fun a => X.MM mine a ∨ a = I ∨ a = D, [], false⟩
noncomputable def One (C : Addr) : MS := fun a => a = C
inductive IfsT (X : Cx) (mine : MS) (σ : List (Option V)) (n : Nat) : List PySem.Expr → Bool → Prop
  | nil : IfsT X mine σ n [] true
  | one {e : PySem.Expr} {b : Bool} : Tst X mine σ n e b → IfsT X mine σ n [e] b
section
variable {X : Cx} {mine : MS} {σ : List (Option V)} {n : Nat}
theorem ifs_tests {A : Around} {E : Value → Shared → Prop} {s : Shared} {Q : Bool → Shared → Prop} {ifs : List PySem.Expr} {b : Bool} (a : IfsT X mine σ n ifs b) (R : Room A n) (S : St X mine σ s.heap)
    (h : ∀ h' tk, Ext X.W.tabs s.heap h' → St X mine σ h' → Q b { s with heap := h', toks := tk }) :
    wpAny X.W.M A (forIn ifs true fun c r => if r = true then do let ok ← isTrue c X.env (eval c X.env); pure (ForInStep.yield ok) else pure (ForInStep.yield r)) Q E s := by
  cases a with
  | nil => exact wpAny_tests_nil (h _ s.toks (Ext.refl _ _) S)
  | one a => exact wpAny_tests_one (a A E s _ R S h)
theorem capV_rep {M M' mine m' : MS} {h h' : Heap} {T : List Addr} {v : Value} {u : V} (r : VRep M mine h v u) (k : Ext T h h') (m : ∀ b o, h.get? b = some o → M' b → M b) : VRep M' m' h' v (capV u) := by
  have rk : ∀ b vs n, ¬ M b → (h.get? b = some (lob vs n) → h'.get? b = some (lob vs n)) ∧ (h.get? b = some (tob vs n) → h'.get? b = some (tob vs n)) := fun b vs n _ => ⟨fun e => k.get e (by intro q; cases q), fun e => k.get e (by intro q; cases q)⟩
  cases u with
  | val d => exact Rep.mono r rk m
  | own a ds => obtain ⟨e, _, n, vs, g, r⟩ := r; exact ⟨e, n, vs, k.get g (by intro q; cases q), r.mono rk m⟩
  | ro a ds => obtain ⟨e, n, vs, g, r⟩ := r; exact ⟨e, n, vs, k.get g (by intro q; cases q), r.mono rk m⟩
  | ob u L F => exact ⟨r.1, r.2.mono (fun a o _ _ e => k.kept e) m⟩
theorem comp_frame {h₁ h : Heap} {scope : Scope} {x : Str} {ys : List Str} {caps : List (Option V)} {I D C : Addr} {v : Value} {dd : _root_.Mine.D} {m : Str → Option Value} (S : St X mine σ h₁) (k : Ext X.W.tabs h₁ h)
    (hw : ∀ p ∈ scope.names, p.2 = .free → p.1 ∈ X.wr) (hkind : scope.kind = .function) (hx : scope.names.lookup x = some .local) (hys : ∀ y ∈ ys, scope.names.lookup y = some .free) (nd : (x :: ys).Nodup) (ndb : ∀ y ∈ x :: ys, (y == ("__debug__" : Str)) = false)
    (cap : Cap X.vs σ ys caps) (fI : h₁.get? I = none) (fD : h₁.get? D = none) (fC : h₁.get? C = none) (nCI : C ≠ I) (nCD : C ≠ D) (lI : ∃ o, h.get? I = some o) (lD : ∃ o, h.get? D = some o)
    (tb : TB X.W ((X.comp mine scope x ys I D C).MM (One C)) h) (hn : h.Ns C m) (hm : m x = some v) (r : Rep ((X.comp mine scope x ys I D C).MM (One C)) h v dd) :
    St (X.comp mine scope x ys I D C) (One C) (some (.val dd) :: caps) h := by
  have old : ∀ b o, h₁.get? b = some o → (X.comp mine scope x ys I D C).MM (One C) b → X.MM mine b := fun b o e z => by
    rcases z with (z | rfl | rfl) | rfl
    · exact z
    · (first | exact (no_get fI e).elim | exact (no_get e fI).elim | (rw [fI] at e; cases e))
    · (first | exact (no_get fD e).elim | exact (no_get e fD).elim | (rw [fD] at e; cases e))
    · have q : h₁.get? b = none := fC
      (first | exact (no_get q e).elim | exact (no_get e q).elim | (rw [q] at e; cases e))
  have cl : ∀ y c, (capt X.env scope.names []).lookup y = some c → X.env.cells.lookup y = some c := fun y c q => by
    rcases capt_lookup _ _ q with q | ⟨p, hp, hf, rfl, q⟩
    · simp at q
    · obtain ⟨_, c', hc', _⟩ := S.cells _ (hw p hp hf)
      rw [hc'] at q ⊢
      exact congrArg some q
  exact {
    ok := ⟨hkind, S.ok.gl, S.ok.bl, nd, ndb, fun q => absurd rfl q⟩
    gs := S.gs
    ext := S.ext.trans k
    tb := tb
    disj := fun a z q => by
      have q' : a = C := q
      subst q'
      rcases z with z | rfl | rfl
      · exact S.live.none fC z
      · exact nCI rfl
      · exact nCD rfl
    live := fun a z => by
      rcases z with (z | rfl | rfl) | q
      · exact (S.live.ext k) a z
      · exact lI
      · exact lD
      · have q' : a = C := q
        subst q'
        obtain ⟨o, _, _, e, _⟩ := hn; exact ⟨o, e⟩
    fresh := fun a z => by have q' : a = C := z; subst q'; exact S.fresh0 fC
    ns := ⟨rfl, m, hn⟩
    cells := fun y hy => by cases hy
    var := fun j u e => by
      cases j with
      | zero =>
        simp at e
        subst e
        exact ⟨x, v, rfl, .inl ⟨kind_comp hx (by intro q; cases q), m, hn, hm⟩, r⟩
      | succ j =>
        obtain ⟨y, w, hy, lk, rfl⟩ := cap.at (j := j) (by simpa using e)
        obtain ⟨i, hi, hσ⟩ := lk.index
        obtain ⟨y', val, hy', va, vr⟩ := S.var i w hσ
        (first | exact (no_get hi hy').elim | exact (no_get hy' hi).elim | (rw [hi] at hy'; cases hy'))
        have hfree := hys y (List.mem_of_getElem? hy)
        have hwr := hw (y, .free) (mem_of_lookupA hfree) rfl
        obtain ⟨hkc, c, hc, _⟩ := S.cells y hwr
        refine ⟨y, val, by show (x :: ys)[j + 1]? = _; simpa using hy, ?_, capV_rep vr k old⟩
        rcases va with ⟨hl, _⟩ | ⟨hl, c', hc', hv⟩
        · (first | exact (no_get hkc hl).elim | exact (no_get hl hkc).elim | (rw [hkc] at hl; cases hl))
        · exact .inr ⟨.inl (kind_comp_free hfree S.ok.kind hkc), c', capt_some hc' _ _ (mem_of_lookupA hfree), cell_ext hv k⟩
    dist := fun i j a ds es e1 e2 => by
      exfalso
      cases i with
      | zero => simp at e1
      | succ i =>
        obtain ⟨y, w, _, _, q⟩ := cap.at (j := i) (by simpa using e1)
        cases w <;> simp [capV] at q
    noro := fun q => by cases q
    cl := fun y c q => let ⟨v, e⟩ := S.cl y c (cl y c q); ⟨v, cell_ext e k⟩ }
theorem take_filterMap {outs : List (Option _root_.Mine.D)} {i : Nat} {o : Option _root_.Mine.D} (h : outs[i]? = some o) : (outs.take (i + 1)).filterMap id = (outs.take i).filterMap id ++ o.toList := by
  have e : outs.take (i + 1) = outs.take i ++ [o] := by rw [List.take_succ, h]; rfl
  rw [e, List.filterMap_append]
  cases o <;> rfl
structure CompOk (X : Cx) (σ : List (Option V)) (scope : Scope) (x : Str) (ys : List Str) (caps : List (Option V)) : Prop where
  hw : ∀ p ∈ scope.names, p.2 = .free → p.1 ∈ X.wr
  cell : ∀ y ∈ scope.names, y.2 ≠ .cell
  kind : scope.kind = .function
  lx : scope.names.lookup x = some .local
  nm : ∀ y ∈ scope.names, y.2 = .local → scope.names.lookup y.1 = some .local
  lys : ∀ y ∈ ys, scope.names.lookup y = some .free
  nd : (x :: ys).Nodup
  ndb : ∀ y ∈ x :: ys, (y == ("__debug__" : Str)) = false
  cap : Cap X.vs σ ys caps
theorem comp_core {elt iter : PySem.Expr} {x : Str} {px pos : Pos} {ifs : List PySem.Expr} {scope : Scope} {ds : List _root_.Mine.D} {outs : List (Option _root_.Mine.D)} {ys : List Str} {caps : List (Option V)} {RR : Value → Addr → Result → Shared → Prop}
    (it : It X mine σ n iter ds) (hlen : outs.length = ds.length) (hz : ds.length ≤ 1000000) (ok : CompOk X σ scope x ys caps)
    (turn : ∀ (I D C : Addr) (i : Nat) d o, ds[i]? = some d → outs[i]? = some o → IfsT (X.comp mine scope x ys I D C) (One C) (some (.val d) :: caps) n ifs o.isSome ∧ ∀ d', o = some d' → Ev (X.comp mine scope x ys I D C) (One C) (some (.val d) :: caps) n elt d')
    {A : Around} {E : Value → Shared → Prop} {s : Shared} (R : Room A n) (S : St X mine σ s.heap)
    (hRR : ∀ D C h' tk, (∃ m, h'.Ns C m) → X.h₀.get? C = none → ¬ X.MM mine C → s.heap.get? C = none → Ext X.W.tabs s.heap h' → St X mine σ h' → Rep (X.MM mine) h' (.ref D) (.list (outs.filterMap id)) → RR (.ref D) C (.ok .next) { s with heap := h', toks := tk }) :
    wpAny X.W.M A (eval iter X.env) (fun xv s₁ => wpAny X.W.M A (pyIter xv) (fun itv s₂ => wpAny X.W.M A (newList []) (fun acc s₃ => wpAny X.W.M A (newFunctionEnv scope X.env.globals (capt X.env scope.names []) [] X.env.qual none .none (some X.env)) (fun cenv s₄ =>
      codeAny X.W.M A (.compStart (.ListComp elt [⟨.Name x px, iter, ifs, 0⟩] scope pos) 0 itv acc { cenv with scope := relabel scope X.env }) (RR acc cenv.locals) s₄) E s₃) E s₂) E s₁) E s := by
  refine it A E s _ R S fun I h₁ s₂h tk₂ fp PP Z k₁ S₁ fI sub hz0 W hP hI hfp => ?_
  refine wpAny_newObj_type (hd := by show ([] : List Value).toArray.size ≤ sizeLine; exact Nat.zero_le _) (wpAny_newFunctionEnv ok.cell (by intro y hy; simp at hy) (fun h₃ hns₁ hsb₁ => ?_) ok.kind)
  dsimp only at hns₁ hsb₁ ⊢
  generalize hH2 : s₂h.push { cls := .type "list", dict := none, data := .seq ([] : List Value).toArray } = H2 at hns₁ hsb₁ ⊢
  generalize hD : s₂h.objs.size = D at hns₁ hsb₁ ⊢
  generalize hC : H2.objs.size = C at hns₁ hsb₁ ⊢
  have fD2 : s₂h.get? D = none := hD ▸ alloc_none s₂h
  have fC2 : H2.get? C = none := hC ▸ alloc_none H2
  have subD : Sub s₂h H2 := hH2 ▸ alloc_sub s₂h _
  have eD : H2.get? D = some (lob #[] 0) := by rw [← hH2, ← hD]; exact Heap.get?_push_size _ rfl
  have nCD : C ≠ D := fun q => by subst q; (first | exact (no_get eD fC2).elim | exact (no_get fC2 eD).elim | (rw [eD] at fC2; cases fC2))
  obtain ⟨oI, eI, cI⟩ := hI 0 _ hz0
  have nDI : D ≠ I := fun q => by subst q; (first | exact (no_get eI fD2).elim | exact (no_get fD2 eI).elim | (rw [eI] at fD2; cases fD2))
  have nCI : C ≠ I := fun q => by subst q; rw [subD _ _ eI] at fC2; cases fC2
  have fresh1 : ∀ {a}, s₂h.get? a = none → h₁.get? a = none := fun {a} e => by
    cases q : h₁.get? a with
    | none => rfl
    | some o => rw [sub _ _ q] at e; cases e
  have fC2' : s₂h.get? C = none := by
    cases q : s₂h.get? C with
    | none => rfl
    | some o => rw [subD _ _ q] at fC2; cases fC2
  have fD : h₁.get? D = none := fresh1 fD2
  have fC : h₁.get? C = none := fresh1 fC2'
  have k₃ : ∀ b o, b ≠ C → H2.get? b = some o → h₃.get? b = some o := fun b o nb e => hsb₁.extBut b o nb (Heap.get?_push_of_some _ e)
  have sub3 : Sub s₂h h₃ := fun b o e => k₃ b o (fun q => by subst q; (first | exact (no_get fC2' e).elim | exact (no_get e fC2').elim | (rw [fC2'] at e; cases e))) (subD _ _ e)
  let Xc := X.comp mine scope x ys I D C
  let Mc : MS := Xc.MM (One C)
  have old : ∀ b o, h₁.get? b = some o → Mc b → X.MM mine b := fun b o e z => by
    rcases z with (z | rfl | rfl) | rfl
    · exact z
    · (first | exact (no_get fI e).elim | exact (no_get e fI).elim | (rw [fI] at e; cases e))
    · (first | exact (no_get fD e).elim | exact (no_get e fD).elim | (rw [fD] at e; cases e))
    · have q : h₁.get? b = none := fC
      (first | exact (no_get q e).elim | exact (no_get e q).elim | (rw [q] at e; cases e))
  have new : ∀ b, X.MM mine b → Mc b := fun b z => .inl (.inl z)
  have mI : Mc I := .inl (.inr (.inl rfl))
  have mD : Mc D := .inl (.inr (.inr rfl))
  have mC : Mc C := .inr rfl
  have hfpC : C ∉ fp := fun hm => by obtain ⟨_, o, e, _⟩ := hfp C hm nCI; (first | exact (no_get fC e).elim | exact (no_get e fC).elim | (rw [fC] at e; cases e))
  have hfpD : D ∉ fp := fun hm => by obtain ⟨_, o, e, _⟩ := hfp D hm nDI; (first | exact (no_get fD e).elim | exact (no_get e fD).elim | (rw [fD] at e; cases e))
  have z3 : Z 0 h₃ := W.frame _ _ _ hz0 fun b _ o e => sub3 b o e
  have tb3 : TB X.W Mc h₃ := S₁.tb.but (fun b o _ e => sub3 b o (sub b o e)) old
  have done : ∀ h' tk, Ext X.W.tabs h₁ h' → TB X.W Mc h' → (∃ m, h'.Ns C m) → (∃ vs k, h'.get? D = some (lob vs k) ∧ RepL Mc h' vs.toList (outs.filterMap id)) → RR (.ref D) C (.ok .next) { s with heap := h', toks := tk } := fun h' tk k tb hn ⟨vs, kk, e, r⟩ => by
    refine hRR D C h' tk hn (S₁.fresh0 fC) (S₁.live.none fC) ?_ (k₁.trans k) (S₁.step k (tb.anti new)) (.list e (S₁.live.none fD) (r.anti new))
    cases q : s.heap.get? C with
    | none => rfl
    | some o => obtain ⟨o', e'⟩ := k₁.some q; (first | exact (no_get fC e').elim | exact (no_get e' fC).elim | (rw [fC] at e'; cases e'))
  have loop : ∀ s₃ : Shared, s₃ = { s with heap := h₃, toks := tk₂ + ([] : List (Str × Value)).length } → codeAny X.W.M A (.compLoop (.ListComp elt [⟨.Name x px, iter, ifs, 0⟩] scope pos) 0 (.ref I) (.ref D) Xc.env) (RR (.ref D) C) s₃ := by
    rintro s₃ rfl
    refine codeAny_compLoop_tests (fun j s' => ∃ i h' tk, s' = { s with heap := h', toks := tk } ∧ j = ds.length + 1 - i ∧ i ≤ ds.length ∧ Ext X.W.tabs h₁ h' ∧ TB X.W Mc h' ∧ Z i h' ∧ (∃ m, h'.Ns C m) ∧
      ∃ vs k, h'.get? D = some (lob vs k) ∧ vs.size ≤ i ∧ RepL Mc h' vs.toList ((outs.take i).filterMap id)) ?_ (ds.length + 1)
      ⟨0, h₃, _, rfl, rfl, Nat.zero_le _, .of fun b o e => sub3 b o (sub b o e), tb3, z3, ⟨_, hns₁⟩, #[], 0, k₃ D _ (Ne.symm nCD) eD, Nat.le_refl _, by simpa using .nil⟩
    rintro j s' ⟨i, h', tk', rfl, rfl, hi, ke, tb, z, ⟨m, hn⟩, vs, kk, eD', hvs, rl⟩
    have turnI : ∀ h'', (∀ b o, b ∉ [I] → h'.get? b = some o → h''.get? b = some o) → Ext X.W.tabs h₁ h'' ∧ TB X.W Mc h'' ∧ h''.Ns C m ∧ h''.get? D = some (lob vs kk) ∧ RepL Mc h'' vs.toList ((outs.take i).filterMap id) := fun h'' q => by
      have q' : ∀ b o, b ≠ I → h'.get? b = some o → h''.get? b = some o := fun b o nb => q b o (by simpa using nb)
      refine ⟨fun b o e => ?_, tb.but (fun b o nm => q' b o fun z => nm (z ▸ mI)) fun _ _ _ z => z, ?_, q' _ _ nDI eD', rl.but mI q'⟩
      · have nb : b ≠ I := fun z => by subst z; (first | exact (no_get fI e).elim | exact (no_get e fI).elim | (rw [fI] at e; cases e))
        exact (ke b o e).imp (q' b _ nb) fun ⟨t, c, vs, more, d, r⟩ => ⟨t, c, vs, more, d, q' b _ nb r⟩
      · obtain ⟨o, es, ep, e, r⟩ := hn; exact ⟨o, es, ep, q' _ _ nCI e, r⟩
    by_cases hlt : i < ds.length
    · refine W.item i _ _ _ hlt z fun v h'' tk'' hv z' q => ?_
      obtain ⟨ke2, tb2, hn2, eD2, rl2⟩ := turnI h'' q
      obtain ⟨d, hd, rv⟩ := hP i v hv
      obtain ⟨o, ho⟩ : ∃ o, outs[i]? = some o := ⟨outs[i], by simp [hlen, hlt]⟩
      obtain ⟨ht, he⟩ := turn I D C i d o hd ho
      refine wpAny_assign_Name (wpAny_storeName_local (kind_comp ok.lx (by intro q; cases q)) hn2 (fun h₄ hn4 hs4 => ?_) (by show ((relabel scope X.env).kind == _ || ((relabel scope X.env).kind == _ && _)) = false; have hk : (relabel scope X.env).kind = .function := ok.kind; rw [hk]; rfl))
      have q4 : ∀ b o, b ≠ C → h''.get? b = some o → h₄.get? b = some o := fun b o nb e => hs4.extBut b o nb e
      have ke4 : Ext X.W.tabs h₁ h₄ := fun b o e => by
        have nb : b ≠ C := fun z => by subst z; (first | exact (no_get fC e).elim | exact (no_get e fC).elim | (rw [fC] at e; cases e))
        exact (ke2 b o e).imp (q4 b _ nb) fun ⟨t, c, vs, more, d, r⟩ => ⟨t, c, vs, more, d, q4 b _ nb r⟩
      have tb4 : TB X.W Mc h₄ := tb2.but (fun b o nm => q4 b o fun z => nm (z ▸ mC)) fun _ _ _ z => z
      have eD4 : h₄.get? D = some (lob vs kk) := q4 _ _ (Ne.symm nCD) eD2
      have rl4 := rl2.but (h' := h₄) mC q4
      have z4 : Z (i + 1) h₄ := W.frame _ _ _ z' fun b hb o e => q4 b o (fun z => hfpC (z ▸ hb)) e
      obtain ⟨oI', eI', cI'⟩ := hI _ _ z4
      have rv4 : Rep Mc h₄ v d := rv.mono (fun b vs n _ => ⟨fun e => ke4.get e (by intro q; cases q), fun e => ke4.get e (by intro q; cases q)⟩) old
      have Sc : St Xc (One C) (some (.val d) :: caps) h₄ := comp_frame S₁ ke4 ok.hw ok.kind ok.lx ok.lys ok.nd ok.ndb ok.cap fI fD fC nCI nCD ⟨_, eI'⟩ ⟨_, eD4⟩ tb4 hn4 (by simp) rv4
      have zkeep : ∀ h₅, Ext X.W.tabs h₄ h₅ → Z (i + 1) h₅ := fun h₅ kx => W.frame _ _ _ z4 fun b hb o e => kx.get e (by
        by_cases hbI : b = I
        · subst hbI; (first | exact (no_get e eI').elim | exact (no_get eI' e).elim | (rw [e] at eI'; cases eI')); exact cI'
        · obtain ⟨_, o', e', c'⟩ := hfp b hb hbI
          have q1 := ke4.get e' c'
          (first | exact (no_get e q1).elim | exact (no_get q1 e).elim | (rw [e] at q1; cases q1)); exact c')
      refine ifs_tests (X := Xc) ht R Sc fun h₅ t₅ k₅ S₅ => ?_
      have ns5 : ∃ m, h₅.Ns C m := S₅.ns.2
      cases o with
      | none =>
        simp only [Option.isSome_none, Bool.false_eq_true, if_false]
        exact ⟨ds.length + 1 - (i + 1), by (first | lia (splits := 0) | omega), i + 1, h₅, t₅, rfl, rfl, hlt, ke4.trans k₅, S₅.tb, zkeep h₅ k₅, ns5, vs, kk, k₅.get eD4 (by intro q; cases q), by (first | lia (splits := 0) | omega), by rw [take_filterMap ho]; simpa using rl4.ext k₅⟩
      | some d' =>
        simp only [Option.isSome_some, if_true]
        refine he d' rfl A _ _ _ R S₅ fun y h₆ t₆ k₆ S₆ ry => ?_
        have k56 := k₅.trans k₆
        have eD6 : h₆.get? D = some (lob vs kk) := k56.get eD4 (by intro q; cases q)
        refine append_at eD6 (fun h₇ hs7 eD7 => ?_) (sz (by (first | lia (splits := 0) | omega)))
        have q7 : ∀ b o, b ≠ D → h₆.get? b = some o → h₇.get? b = some o := fun b o nb e => hs7.extBut b o nb e
        have ke6 := ke4.trans k56
        refine ⟨ds.length + 1 - (i + 1), by (first | lia (splits := 0) | omega), i + 1, h₇, t₆, rfl, rfl, hlt, fun b o e => ?_, TB.but (M := Mc) S₆.tb (fun b o nm => q7 b o fun z => nm (by rw [z]; exact mD)) (fun _ _ _ z => z), W.frame _ _ _ (zkeep h₆ k56) fun b hb o e => q7 b o (fun z => hfpD (z ▸ hb)) e, ?_, vs.push y, kk + 1, eD7, by simp; (first | lia (splits := 0) | omega), ?_⟩
        · have nb : b ≠ D := fun z => by subst z; (first | exact (no_get fD e).elim | exact (no_get e fD).elim | (rw [fD] at e; cases e))
          exact (ke6 b o e).imp (q7 b _ nb) fun ⟨t, c, vs, more, d, r⟩ => ⟨t, c, vs, more, d, q7 b _ nb r⟩
        · obtain ⟨m', o, es, ep, e, r⟩ := S₆.ns.2
          exact ⟨m', o, es, ep, q7 _ _ nCD e, r⟩
        · rw [take_filterMap ho, Array.toList_push]
          exact ((rl4.ext k56).but mD q7).snoc (Rep.but ry mD q7)
    · obtain rfl : i = ds.length := Nat.le_antisymm hi (Nat.not_lt.mp hlt)
      refine W.done _ _ _ z fun h'' tk'' q => ?_
      obtain ⟨ke2, tb2, hn2, eD2, rl2⟩ := turnI h'' q
      exact done h'' tk'' ke2 tb2 ⟨m, hn2⟩ ⟨vs, kk, eD2, by rw [← hlen, List.take_length] at rl2; exact rl2⟩
  exact codeAny_compStart_list (loop _ rfl) (W.self 0 _ _ _ z3 (loop _ rfl))
theorem CompOk.clos {scope : Scope} {x : Str} {ys : List Str} {caps : List (Option V)} (ok : CompOk X σ scope x ys caps) {h : Heap} (S : St X mine σ h) : closureFor scope X.env = pure (capt X.env scope.names []) :=
  closureFor_capt fun p hp hf => let ⟨_, c, hc, _⟩ := S.cells _ (ok.hw p hp hf); ⟨c, hc⟩
theorem ev_comp {elt iter : PySem.Expr} {x : Str} {px pos : Pos} {ifs : List PySem.Expr} {scope : Scope} {ds : List _root_.Mine.D} {outs : List (Option _root_.Mine.D)} {ys : List Str} {caps : List (Option V)}
    (it : It X mine σ n iter ds) (hlen : outs.length = ds.length) (hz : ds.length ≤ 1000000) (ok : CompOk X σ scope x ys caps)
    (turn : ∀ (I D C : Addr) (i : Nat) d o, ds[i]? = some d → outs[i]? = some o → IfsT (X.comp mine scope x ys I D C) (One C) (some (.val d) :: caps) n ifs o.isSome ∧ ∀ d', o = some d' → Ev (X.comp mine scope x ys I D C) (One C) (some (.val d) :: caps) n elt d')
    (hs : ∀ x, foldedSetIterable iter X.env x = pure x := by intro _; rfl) : Ev X mine σ n (.ListComp elt [⟨.Name x px, iter, ifs, 0⟩] scope pos) (.list (outs.filterMap id)) := fun A E s Q R S h => by
  rw [eval_ListComp]
  refine wpAny_comprehension_free (use := none) rfl hs (ok.clos S) ok.kind ok.nm ?_
  refine comp_core (RR := fun acc C => compPost X.W.M A E none Q acc C) it hlen hz ok turn R S ?_
  rintro D C h' tk ⟨m, hn⟩ h0 hm hs0 k S' r
  refine ⟨m, hn, fun h'' hs'' => ?_⟩
  have kk : ∀ b, b ≠ C → h''.get? b = h'.get? b := fun b nb => hs''.2 b nb
  obtain ⟨o, es, ep, e, d, _⟩ := hn
  have seq : ∀ b o, h'.get? b = some o → (∀ es ep, o.data ≠ .dict es ep) → h''.get? b = some o := fun b o e' q => (kk b fun z => by subst z; (first | exact (no_get e e').elim | exact (no_get e' e).elim | (rw [e] at e'; cases e')); exact q _ _ d).trans e'
  refine h _ h'' tk (fun b o e' => ?_) (S'.other (S.obNe hs0) ⟨o, es, ep, e, d⟩ h0 hm kk) (r.mono (fun b vs n _ => ⟨fun e => seq _ _ e (fun _ _ q => by cases q), fun e => seq _ _ e (fun _ _ q => by cases q)⟩) fun _ _ _ => id)
  have nb : b ≠ C := fun z => by subst z; (first | exact (no_get hs0 e').elim | exact (no_get e' hs0).elim | (rw [hs0] at e'; cases e'))
  rw [kk b nb]
  exact k b o e'
theorem r1_comp {elt iter : PySem.Expr} {x y : Str} {px py pos p' : Pos} {ifs : List PySem.Expr} {scope : Scope} {ds : List _root_.Mine.D} {outs : List (Option _root_.Mine.D)} {ys : List Str} {caps σ' : List (Option V)} {P : Post}
    (it : It X mine σ n iter ds) (hlen : outs.length = ds.length) (hz : ds.length ≤ 1000000) (ok : CompOk X σ scope x ys caps)
    (turn : ∀ (I D C : Addr) (i : Nat) d o, ds[i]? = some d → outs[i]? = some o → IfsT (X.comp mine scope x ys I D C) (One C) (some (.val d) :: caps) n ifs o.isSome ∧ ∀ d', o = some d' → Ev (X.comp mine scope x ys I D C) (One C) (some (.val d) :: caps) n elt d')
    (hu : Up X.vs σ y (.val (.list (outs.filterMap id))) σ') (hk : X.env.kindOf y = some .local) (h : P .next mine σ')
    (hsw : swapsWith (.ListComp elt [⟨.Name x px, iter, ifs, 0⟩] scope pos) (some (.Name y py)) p'.line X.env = pure true)
    (hs : ∀ x, foldedSetIterable iter X.env x = pure x := by intro _; rfl) : Run1 X n mine σ (.Assign [.Name y py] (.ListComp elt [⟨.Name x px, iter, ifs, 0⟩] scope pos) p') P := fun A E s Q R S k => by
  obtain ⟨i, hy, rfl⟩ := hu.index
  rw [exec_Assign_Name_used _ _ _ _ hsw]
  refine wpAny_bind (wpAny_standAt (wpAny_bind ?_))
  show wpAny _ A (do let _ ← comprehension (.ListComp elt [⟨.Name x px, iter, ifs, 0⟩] scope pos) scope X.env _ (newList []) false (eval iter X.env) (some (assign (.Name y py) X.env))) _ _ s
  refine wpAny_bind (wpAny_mono (wpAny_comprehension_free (Q := fun _ s' => Q .next s') (use := some (assign (.Name y py) X.env)) rfl hs (ok.clos S) ok.kind ok.nm ?_)
    (fun _ s' hq => wpAny_pure (wpAny_pure hq)) fun _ _ e => e)
  refine comp_core (RR := fun acc C => compPost X.W.M A E (some (assign (.Name y py) X.env)) (fun _ s' => Q .next s') acc C) it hlen hz ok turn R S ?_
  rintro D C h' tk ⟨m, hn⟩ h0 hm hs0 k' S' r
  refine wpAny_assign_Name (store_var S' hy (.inl hk) (u := .val _) r set_val (fun _ _ e => by cases e) fun h₂ t₂ mv S₂ => ?_)
  have nC : ¬ mine C := fun z => hm (.inr z)
  obtain ⟨o, es, ep, e, d, q⟩ := hn
  have hn2 : h₂.Ns C m := by
    rcases mv.keep C o e nC with e2 | ⟨_, _, vs, _, d2, _⟩
    · exact ⟨o, es, ep, e2, d, q⟩
    · (first | exact (no_get d d2).elim | exact (no_get d2 d).elim | (rw [d] at d2; cases d2))
  refine ⟨m, hn2, fun h'' hs'' => ?_⟩
  have kk : ∀ b, b ≠ C → h''.get? b = h₂.get? b := fun b nb => hs''.2 b nb
  have hob : ∀ (j : Nat) u L F, (σ.set i (some (.val (.list (outs.filterMap id)))))[j]? = some (some (.ob u L F)) → C ∉ L := fun j u L F q => by
    rw [List.getElem?_set] at q
    split at q
    · split at q <;> cases q
    · exact S.obNe hs0 j u L F q
  have S₃ : St X mine _ h'' := S₂.other hob (let ⟨o, es, ep, e, d, _⟩ := hn2; ⟨o, es, ep, e, d⟩) h0 hm kk
  exact k _ _ _ h'' t₂ _ h (((Mv.of k').tr mv).at0 hs0 fun b nb o e => (kk b nb).trans e) S₃ .next
end
end Mine
namespace Mine
theorem inter {env : Env} (h : env.scope.kind = .function) : interactive env = false := by unfold interactive; rw [h]; rfl
noncomputable def Cat (mine : MS) (a : Addr) : MS := fun b => mine b ∨ b = a
noncomputable def Less (mine : MS) (a : Addr) : MS := fun b => mine b ∧ b ≠ a
section
variable {X : Cx} {mine : MS} {σ : List (Option V)} {n : Nat} {h h' : Heap}
theorem VRep.monoM {M M' mine mine' : MS} {h h' : Heap} {v : Value} {u : V} (r : VRep M mine h v u) (k : Sub h h') (m : ∀ b o, h.get? b = some o → M' b → M b) (mm : ∀ b, mine b → mine' b) : VRep M' mine' h' v u := by
  cases u with
  | val d => exact Rep.mono r (fun b _ _ _ => ⟨k b _, k b _⟩) m
  | own a ds => obtain ⟨e, z, n, vs, g, r⟩ := r; exact ⟨e, mm _ z, n, vs, k _ _ g, r.mono (fun b _ _ _ => ⟨k b _, k b _⟩) m⟩
  | ro a ds => obtain ⟨e, n, vs, g, r⟩ := r; exact ⟨e, n, vs, k _ _ g, r.mono (fun b _ _ _ => ⟨k b _, k b _⟩) m⟩
  | ob u L F => exact ⟨r.1, r.2.mono (fun a o _ _ e => .inl (k _ _ e)) m⟩
theorem St.grow {a : Addr} (S : St X mine σ h) (k : Sub h h') (e : h.get? a = none) (l : ∃ o, h'.get? a = some o) : St X (Cat mine a) σ h' := by
  have fr : ∀ b o, h.get? b = some o → X.MM (Cat mine a) b → X.MM mine b := fun b o q z => z.elim .inl fun z => z.elim .inr fun z => by subst z; (first | exact (no_get e q).elim | exact (no_get q e).elim | (rw [e] at q; cases q))
  exact {
    ok := S.ok
    gs := S.gs
    ext := S.ext.trans (.of k)
    tb := S.tb.but (fun b o _ => k b o) fr
    disj := fun b z q => q.elim (S.disj b z) fun q => by subst q; exact S.live.none e (.inl z)
    live := fun b z => by
      rcases z with z | z | rfl
      · obtain ⟨o, q⟩ := S.live b (.inl z); exact ⟨o, k _ _ q⟩
      · obtain ⟨o, q⟩ := S.live b (.inr z); exact ⟨o, k _ _ q⟩
      · exact l
    fresh := fun b z => z.elim (S.fresh b) fun z => by subst z; exact S.fresh0 e
    ns := ⟨.inl S.ns.1, let ⟨m, q⟩ := S.ns.2; ⟨m, ns_ext (T := []) q (.of k)⟩⟩
    cells := fun x hx => let ⟨q, c, b, d, v, e⟩ := S.cells x hx; ⟨q, c, b, .inl d, v, cell_ext (T := []) e (.of k)⟩
    var := fun i v q => let ⟨x, val, p, b, c⟩ := S.var i v q; ⟨x, val, p, b.ext (T := []) (.of k), c.monoM k fr fun _ => .inl⟩
    dist := S.dist
    noro := S.noro
    cl := fun x c q => let ⟨v, r⟩ := S.cl x c q; ⟨v, cell_ext (T := []) r (.of k)⟩ }
theorem Mv.grown {a : Addr} (k : Sub h h') (e : h.get? a = none) : Mv X mine h (Cat mine a) h' := ⟨fun b o q _ => .inl (k b o q), fun b z => z.imp id fun z => by subst z; exact e⟩
theorem St.own {i : Nat} {a : Addr} {ds : List D} (S : St X mine σ h) (hx : σ[i]? = some (some (.own a ds))) : mine a ∧ ∃ n vs, h.get? a = some (lob vs n) ∧ RepL (X.MM mine) h vs.toList ds := by
  obtain ⟨x, val, _, _, _, z, r⟩ := S.var i _ hx; exact ⟨z, r⟩
theorem St.setOwn {i : Nat} {a : Addr} {ds ds' : List D} {vs : Array Value} {nn : Nat} (S : St X mine σ h) (hf : X.fn = true) (hx : σ[i]? = some (some (.own a ds))) (k : ∀ b, b ≠ a → h'.get? b = h.get? b) (e : h'.get? a = some (lob vs nn))
    (r : RepL (X.MM mine) h vs.toList ds') : St X mine (σ.set i (some (.own a ds'))) h' := by
  obtain ⟨hL, n₀, vs₀, e₀, r₀⟩ := S.own hx
  have nol : a ≠ X.env.locals := fun q => by obtain ⟨m, o, es, ep, e', d, _⟩ := S.ns.2; rw [← q, e₀] at e'; cases e'; cases d
  have nsk : ∀ m, h.Ns X.env.locals m → h'.Ns X.env.locals m := fun m ⟨o, es, ep, e, r⟩ => ⟨o, es, ep, (k _ (Ne.symm nol)).trans e, r⟩
  have ck : ∀ c v, h.IsCell c v → h'.IsCell c v := fun c v ⟨o, e', d⟩ => ⟨o, (k c fun q => by subst q; (first | exact (no_get e₀ e').elim | exact (no_get e' e₀).elim | (rw [e₀] at e'; cases e')); cases d).trans e', d⟩
  have but : ∀ b o, b ≠ a → h.get? b = some o → h'.get? b = some o := fun b o nb e => (k b nb).trans e
  have hi : i < σ.length := (List.getElem?_eq_some_iff.mp hx).1
  refine S.turn hL k ⟨_, e⟩ (let ⟨m, q⟩ := S.ns.2; ⟨m, nsk m q⟩) (fun c v q => ⟨v, ck c v q⟩) (fun j w q => ?_) (fun j1 j2 b ds1 ds2 q1 q2 => ?_) (fun hf j b ds1 q => ?_)
  · have vk : ∀ {x val}, VarAt X.env h x val → VarAt X.env h' x val := fun b => b.imp (fun ⟨p, m, q, r⟩ => ⟨p, m, nsk m q, r⟩) fun ⟨p, c', q, r⟩ => ⟨p, c', q, ck c' _ r⟩
    by_cases qq : i = j
    · subst qq
      rw [List.getElem?_set, if_pos rfl, if_pos hi] at q
      cases q
      obtain ⟨x, val, p, b, ev, _⟩ := S.var i _ hx
      exact ⟨x, val, p, vk b, ev, hL, nn, vs, e, r.but (.inr hL) but⟩
    · rw [List.getElem?_set, if_neg qq] at q
      obtain ⟨x, val, p, b, c⟩ := S.var j w q
      refine ⟨x, val, p, vk b, ?_⟩
      cases w with
      | val d => exact Rep.but c (.inr hL) but
      | own b ds2 => obtain ⟨ev, z, n, vs, g, r⟩ := c; exact ⟨ev, z, n, vs, but _ _ (fun z => by subst z; exact qq (S.dist i j b _ _ hx q)) g, r.but (.inr hL) but⟩
      | ro b ds2 => exact absurd q (S.noro hf j b ds2)
      | ob u L F => exact ⟨c.1, c.2.mono (fun b o _ nm e => .inl (but b o (fun q => nm (.inr (q ▸ hL))) e)) fun _ _ _ => id⟩
  · have cv : ∀ {j ds1}, (σ.set i (some (V.own a ds')))[j]? = some (some (V.own b ds1)) → ∃ ds2, σ[j]? = some (some (V.own b ds2)) := fun {j ds1} q => by
      rw [List.getElem?_set] at q
      split at q
      · rename_i hq
        cases q
        exact ⟨_, hq ▸ hx⟩
      · exact ⟨_, q⟩
    obtain ⟨_, z1⟩ := cv q1
    obtain ⟨_, z2⟩ := cv q2
    exact S.dist _ _ _ _ _ z1 z2
  · rw [List.getElem?_set] at q
    split at q
    · cases q
    · exact S.noro hf j b ds1 q
theorem Mv.own {a : Addr} (hL : mine a) (k : ∀ b, b ≠ a → h'.get? b = h.get? b) : Mv X mine h mine h' := ⟨fun b o e nm => .inl ((k b (fun q => nm (q ▸ hL))).trans e), fun _ => .inl⟩
theorem St.freeze {i : Nat} {a : Addr} {ds : List D} (S : St X mine σ h) (hf : X.fn = true) (hx : σ[i]? = some (some (.own a ds))) : St X (Less mine a) (σ.set i (some (.val (.list ds)))) h := by
  obtain ⟨hL, n₀, vs₀, e₀, r₀⟩ := S.own hx
  have an : ∀ b, X.MM (Less mine a) b → X.MM mine b := fun b z => z.imp id And.left
  have hi : i < σ.length := (List.getElem?_eq_some_iff.mp hx).1
  exact {
    ok := S.ok
    gs := S.gs
    ext := S.ext
    tb := S.tb.anti an
    disj := fun b z q => S.disj b z q.1
    live := fun b z => S.live b (an b z)
    fresh := fun b z => S.fresh b z.1
    ns := ⟨⟨S.ns.1, fun q => by obtain ⟨m, o, es, ep, e', d, _⟩ := S.ns.2; rw [q, e₀] at e'; cases e'; cases d⟩, S.ns.2⟩
    cells := fun x hx => let ⟨q, c, b, d, v, o, e, dd⟩ := S.cells x hx; ⟨q, c, b, ⟨d, fun q => by subst q; (first | exact (no_get e₀ e).elim | exact (no_get e e₀).elim | (rw [e₀] at e; cases e)); cases dd⟩, v, o, e, dd⟩
    var := fun j w q => by
      by_cases qq : i = j
      · subst qq
        rw [List.getElem?_set, if_pos rfl, if_pos hi] at q
        cases q
        obtain ⟨x, val, p, b, ev, _⟩ := S.var i _ hx
        refine ⟨x, val, p, b, ?_⟩
        subst ev
        exact .list e₀ (fun z => z.elim (fun z => S.disj a z hL) fun z => z.2 rfl) (r₀.anti an)
      · rw [List.getElem?_set, if_neg qq] at q
        obtain ⟨x, val, p, b, c⟩ := S.var j w q
        refine ⟨x, val, p, b, ?_⟩
        cases w with
        | val d => exact Rep.anti c an
        | own b ds2 => obtain ⟨ev, z, n, vs, g, r⟩ := c; exact ⟨ev, ⟨z, fun z => by subst z; exact qq (S.dist i j b _ _ hx q)⟩, n, vs, g, r.anti an⟩
        | ro b ds2 => exact absurd q (S.noro hf j b ds2)
        | ob u L F => exact ⟨c.1, c.2.mono (fun _ _ _ _ e => .inl e) fun b _ _ => an b⟩
    dist := fun j1 j2 b ds1 ds2 q1 q2 => by
      have cv : ∀ {j ds1}, (σ.set i (some (V.val (.list ds))))[j]? = some (some (V.own b ds1)) → σ[j]? = some (some (V.own b ds1)) := fun {j ds1} q => by
        rw [List.getElem?_set] at q
        split at q
        · cases q
        · exact q
      exact S.dist _ _ _ _ _ (cv q1) (cv q2)
    noro := fun hf j b ds1 q => by
      rw [List.getElem?_set] at q
      split at q
      · cases q
      · exact S.noro hf j b ds1 q
    cl := S.cl }
theorem run_freeze {a : Addr} {x : Str} {ds : List D} {σ' : List (Option V)} {b : List Stmt} {P : Post} (hf : X.fn = true) (lk : Lk X.vs σ x (.own a ds)) (up : Up X.vs σ x (.val (.list ds)) σ') (r : Run X n (Less mine a) σ' b P) : Run X n mine σ b P := fun A E s Q R S k => by
  obtain ⟨i, hi, hs⟩ := lk.index
  obtain ⟨j, hj, rfl⟩ := up.index
  have hij : i = j := (List.getElem?_inj (List.getElem?_eq_some_iff.mp hi).1 S.ok.nodup).mp (hi.trans hj.symm)
  subst hij
  exact r A E s Q R (S.freeze hf hs) fun fl m σ' h' tk f p mv S' fr => k fl m σ' h' tk f p (Mv.tr (m₂ := Less mine a) ⟨fun b o e nm => .inl e, fun b z => .inl z.1⟩ mv) S' fr
theorem Lk.at {x : Str} {v : V} (lk : Lk X.vs σ x v) (S : St X mine σ h) : ∃ (i : Nat) (val : Value), X.vs[i]? = some x ∧ σ[i]? = some (some v) ∧ VarAt X.env h x val ∧ VRep (X.MM mine) mine h val v := by
  obtain ⟨i, hx, hv⟩ := lk.index
  obtain ⟨y, val, hy, ha, hr⟩ := S.var i _ hv
  (first | exact (no_get hx hy).elim | exact (no_get hy hx).elim | (rw [hx] at hy; cases hy))
  exact ⟨i, val, hx, hv, ha, hr⟩
theorem lk_up {x : Str} {v u : V} {σ' : List (Option V)} (lk : Lk X.vs σ x v) (up : Up X.vs σ x u σ') (nd : X.vs.Nodup) : ∃ i : Nat, X.vs[i]? = some x ∧ σ[i]? = some (some v) ∧ σ' = σ.set i (some u) := by
  obtain ⟨i, hi, hs⟩ := lk.index
  obtain ⟨j, hj, rfl⟩ := up.index
  have hij : i = j := (List.getElem?_inj (List.getElem?_eq_some_iff.mp hi).1 nd).mp (hi.trans hj.symm)
  subst hij
  exact ⟨i, hi, hs, rfl⟩
noncomputable def LkL (X : Cx) (σ : List (Option V)) (x : Str) (ds : List D) : Prop := (∃ a, Lk X.vs σ x (.own a ds)) ∨ ∃ a, Lk X.vs σ x (.ro a ds)
theorem LkL.at {x : Str} {ds : List D} (lk : LkL X σ x ds) (S : St X mine σ h) : ∃ a, VarAt X.env h x (.ref a) ∧ (∃ n vs, h.get? a = some (lob vs n) ∧ RepL (X.MM mine) h vs.toList ds) ∧ (x == ("__debug__" : Str)) = false := by
  rcases lk with ⟨a, lk⟩ | ⟨a, lk⟩
  · obtain ⟨i, val, hx, hs, va, rfl, _, r⟩ := lk.at S; exact ⟨a, va, r, S.ok.nodbg x (List.mem_of_getElem? hx)⟩
  · obtain ⟨i, val, hx, hs, va, rfl, r⟩ := lk.at S; exact ⟨a, va, r, S.ok.nodbg x (List.mem_of_getElem? hx)⟩
theorem ev_ownItem {x : Str} {px p : Pos} {slice : PySem.Expr} {ds : List D} {k : Int} {d : D} (lk : LkL X σ x ds) (b : Ev X mine σ n slice (.int k)) (h0 : 0 ≤ k) (hd : ds[k.toNat]? = some d) (hf : k < 2 ^ 63 := by (first | lia (splits := 0) | omega))
    (hs : ∀ o i, subscripted slice false o i = operate [o, i] (getItem o i) := by intro _ _; rfl) : Ev X mine σ n (.Subscript (.Name x px) slice p) d := fun A E s Q R S h => by
  obtain ⟨a, va, ⟨nn, vs, e, r⟩, ndb⟩ := lk.at S
  refine Subscript_ (wpAny_Name (load_var S.kind va (b A E _ _ R S fun vb h₂ t₂ k₂ S₂ r₂ => ?_)) ndb)
  obtain ⟨_, rfl⟩ := r₂.iInt
  obtain ⟨y, hy, ry⟩ := r.get hd
  have e₂ := k₂.get e (by intro q; cases q)
  exact tail_any (s := { s with heap := h₂, toks := t₂ }) (T := "list") ⟨_, e₂, rfl⟩ slot_list_getitem.lookup (wpAny_getItem_list (prog := X.W.p) (w := X.W.w) ⟨_, e₂, rfl, _, rfl⟩ h0 hf (by simpa using hy) (h y h₂ t₂ k₂ S₂ (ry.ext k₂))) (hs _ _)
theorem ev_ownItem_neg {x : Str} {px p : Pos} {slice : PySem.Expr} {ds : List D} {k : Int} {d : D} (lk : LkL X σ x ds) (b : Ev X mine σ n slice (.int k)) (h0 : k < 0) (h1 : -(ds.length : Int) ≤ k) (hd : ds[(k + ds.length).toNat]? = some d) (hf : -(2 ^ 63) ≤ k := by (first | lia (splits := 0) | omega))
    (hs : ∀ o i, subscripted slice false o i = operate [o, i] (getItem o i) := by intro _ _; rfl) : Ev X mine σ n (.Subscript (.Name x px) slice p) d := fun A E s Q R S h => by
  obtain ⟨a, va, ⟨nn, vs, e, r⟩, ndb⟩ := lk.at S
  refine Subscript_ (wpAny_Name (load_var S.kind va (b A E _ _ R S fun vb h₂ t₂ k₂ S₂ r₂ => ?_)) ndb)
  obtain ⟨_, rfl⟩ := r₂.iInt
  have l := r.length
  simp only [Array.length_toList] at l
  rw [← l] at hd h1
  obtain ⟨y, hy, ry⟩ := r.get hd
  have e₂ := k₂.get e (by intro q; cases q)
  exact tail_any (s := { s with heap := h₂, toks := t₂ }) (T := "list") ⟨_, e₂, rfl⟩ slot_list_getitem.lookup (wpAny_getItem_list_neg (prog := X.W.p) (w := X.W.w) ⟨_, e₂, rfl, _, rfl⟩ h0 h1 hf (by simpa using hy) (h y h₂ t₂ k₂ S₂ (ry.ext k₂))) (hs _ _)
theorem ev_ownLen {x f : Str} {p px p' : Pos} {ds : List D} (lk : LkL X σ x ds) (hz : ds.length ≤ 1000000) (hb : bootBuiltins f = some (.builtin "len")) (hf : f ∈ bNames) (hk : X.env.kindOf f = some .globalImplicit) (hd : (f == ("__debug__" : Str)) = false := by decide +kernel) (hn : f ≠ "__name__" := by decide +kernel)
    (hc : eval (.Call (.Name f p) [.Name x px] [] p') X.env = (do callWith p' (← eval (.Name f p) X.env) [] (backTo p' (starEach [.Name x px] X.env)) (backToKw p' (keywordEach [] X.env))) := by rfl) :
    Ev X mine σ n (.Call (.Name f p) [.Name x px] [] p') (.int ds.length) := fun A E s Q R S h => by
  obtain ⟨a, va, ⟨nn, vs, e, r⟩, ndb⟩ := lk.at S
  refine Call_ (load_blt S (S.gs.bn f hf) hb hk hd hn (callWith_builtin1 (args_cons (wpAny_Name (load_var S.kind va (args_nil ?_)) ndb) rfl) rfl)) hc
  have l := r.length
  simp only [Array.length_toList] at l
  refine call_len_list ⟨_, e, rfl, _, rfl⟩ (by (first | lia (splits := 0) | omega)) ?_
  rw [l]
  exact h _ s.heap _ (Ext.refl _ _) S (.int _ _)
theorem r1_append {pl : Sem Bool} {x : Str} {px ap cp sp : Pos} {e : PySem.Expr} {a : Addr} {ds : List D} {d : D} {σ' : List (Option V)} {P : Post} (hf : X.fn = true) (lk : Lk X.vs σ x (.own a ds)) (b : Ev X mine σ n e d) (up : Up X.vs σ x (.own a (ds ++ [d])) σ') (hz : ds.length ≤ 1000000) (h : P .next mine σ')
    (hee : starEach [e] X.env = (false, eval e X.env) :: starEach [] X.env := by rfl)
    (he : eval (.Call (.Attribute (.Name x px) ("append" : Str) ap) [e] [] cp) X.env = (do
      let ov ← eval (.Name x px) X.env
      standAt ap.atName
      let (f, first) ← holding [ov] (getMethod ov ("append" : Str) pl)
      callWith cp f first (backTo cp (starEach [e] X.env)) []) := by rfl) :
    Run1 X n mine σ (.Expr (.Call (.Attribute (.Name x px) ("append" : Str) ap) [e] [] cp) sp) P := fun A E s Q R S k => by
  obtain ⟨i, hx, hs, rfl⟩ := lk_up lk up S.ok.nodup
  obtain ⟨i', val, hx', hs', va, rfl, hL, n₀, vs, e₀, r⟩ := lk.at S
  refine wpAny_Expr_any (MethodCall_ (wpAny_Name (load_var S.kind va ?_) (S.ok.nodbg x (List.mem_of_getElem? hx))) he) (inter S.kind)
  refine getMethod_list_append e₀ rfl rfl ?_
  refine callWith_method1 (args_cons (b A E s _ R S fun v h₁ t₁ k₁ S₁ rv => args_nil ?_) hee) hee rfl
  have e₁ := k₁.get e₀ (by intro q; cases q)
  have l := r.length
  simp only [Array.length_toList] at l
  refine append_at e₁ (fun h₂ hs₂ e₂ => ?_) (sz (by (first | lia (splits := 0) | omega)))
  exact k _ mine _ h₂ t₁ _ h ((Mv.of k₁).tr (.own hL fun b nb => hs₂.2 b nb)) (S₁.setOwn hf hs (fun b nb => hs₂.2 b nb) e₂ (by rw [Array.toList_push]; exact (r.ext k₁).snoc rv)) .next
end
end Mine
namespace Mine
section
variable {X : Cx} {mine : MS} {σ : List (Option V)} {n : Nat} {h h' : Heap}
noncomputable def EvN (X : Cx) (mine : MS) (σ : List (Option V)) (n : Nat) (e : PySem.Expr) (ds : List D) : Prop :=
  ∀ (A : Around) (E : Value → Shared → Prop) (s : Shared) (Q : Value → Shared → Prop), Room A n → St X mine σ s.heap →
    (∀ a h₁ h' tk vs k, Ext X.W.tabs s.heap h₁ → St X mine σ h₁ → h₁.get? a = none → Sub h₁ h' → h'.get? a = some (lob vs k) → RepL (X.MM mine) h₁ vs.toList ds → Q (.ref a) { s with heap := h', toks := tk }) →
    wpAny X.W.M A (eval e X.env) Q E s
theorem evn_list {es : List PySem.Expr} {ds : List D} {p : Pos} (a : EvL X mine σ n es ds) (hz : ds.length ≤ 1000000 := by decide) : EvN X mine σ n (.List es p) ds := fun A E s Q R S h =>
  List_ (a A E s _ _ R S fun vs h' tk k S' r => wpAny_newList (h _ _ _ tk _ _ k S' (alloc_none _) (alloc_sub _ _) (Heap.get?_push_size _ rfl) (by simpa using r)) (by rw [r.length]; exact sz hz))
theorem evn_mul {l r : PySem.Expr} {p : Pos} {xs : List D} {b : Int} (a : Ev X mine σ n l (.list xs)) (c : Ev X mine σ n r (.int b)) (hx : xs.length ≤ 1) (h0 : b ≤ 1000000) (h1 : -1000000 ≤ b) : EvN X mine σ n (.BinOp l .Mult r p) (List.replicate b.toNat xs).flatten := fun A E s Q R S h =>
  wpAny_BinOp (a A E s _ R S fun va h₁ t₁ k₁ S₁ r₁ => c A E _ _ R S₁ fun vb h₂ t₂ k₂ S₂ r₂ => by
    have ra := r₁.ext k₂
    clear r₁
    obtain ⟨t, rfl⟩ := r₂.iInt
    obtain ⟨l, k, items, rfl, e1, m1, r1⟩ := ra.iList
    have l1 := r1.length
    simp only [Array.length_toList] at l1
    have hs2 : items.size * b.toNat ≤ 2 ^ 24 := by
      have : items.size * b.toNat ≤ 1 * b.toNat := Nat.mul_le_mul_right _ (by (first | lia (splits := 0) | omega))
      have h24 : (2 : Nat) ^ 24 = 16777216 := by decide
      (first | lia (splits := 0) | omega)
    refine wpAny_binaryOp_repeat_ref (T := "list") (U := "int") (by decide) ⟨_, e1, rfl⟩ (fun s' => typeIs_int s' b t) noFill_list_mul F.fills_int_mul F.slot_int_rmul repeat_list F.slot_int_index.lookup
      (call_meets F.slot_int_rmul (typeIs_int _ b t) F.entry_int_rmul (F.args_int_rmul_2 _ _) (int___rmul___int_list b t l items k)
        ⟨e1, rfl, ⟨_, e1, rfl⟩, call_meets F.slot_list_mul ⟨_, e1, rfl⟩ F.entry_list_mul (F.args_list_mul_2 _ _)
          (AutoListH.list___mul___list_int_3 l items k b t (by simp [Builtin.List.listFitsIndex]; (first | lia (splits := 0) | omega)) (by (first | lia (splits := 0) | omega)) (by simp [Builtin.List.listTooLong, sizeLine]; (first | lia (splits := 0) | omega)))
          ⟨e1, h _ _ _ t₂ _ _ (k₁.trans k₂) S₂ (alloc_none _) (alloc_sub _ _) (Heap.get?_push_size _ rfl) ?_⟩⟩)
    rw [foldl_app_toList]
    by_cases hi : items.isEmpty = true
    · have hn : items = #[] := by simpa using hi
      subst hn
      rw [if_pos hi]
      cases xs with
      | nil => simp; exact .nil
      | cons _ _ => simp at l1
    · rw [if_neg hi]
      simpa using r1.rep b.toNat)
theorem evn_addOwn {x : Str} {px p : Pos} {r : PySem.Expr} {xs ys : List D} (lk : LkL X σ x xs) (c : Ev X mine σ n r (.list ys)) (hz : xs.length + ys.length ≤ 1000000) : EvN X mine σ n (.BinOp (.Name x px) .Add r p) (xs ++ ys) := fun A E s Q R S h => by
  obtain ⟨a, va, ⟨nn, vs, e, rx⟩, ndb⟩ := lk.at S
  refine wpAny_BinOp (wpAny_Name (load_var S.kind va (c A E _ _ R S fun vb h₂ t₂ k₂ S₂ r₂ => ?_)) ndb)
  have e1 := k₂.get e (by intro q; cases q)
  obtain ⟨_, _, _, rfl, e2, m2, r2⟩ := r₂.iList
  have l1 := rx.length
  have l2 := r2.length
  simp only [Array.length_toList] at l1 l2
  refine PySem.P.add_list e1 e2 (h _ _ _ t₂ _ _ k₂ S₂ (alloc_none _) (alloc_sub _ _) (Heap.get?_push_size _ rfl) ?_) (sz (by (first | lia (splits := 0) | omega)))
  rw [Array.toList_append]; exact (rx.ext k₂).append r2
inductive VRepL (M mine : MS) (h : Heap) : List Value → List V → Prop
  | nil : VRepL M mine h [] []
  | cons {v : Value} {u : V} {vs : List Value} {us : List V} : VRep M mine h v u → VRepL M mine h vs us → VRepL M mine h (v :: vs) (u :: us)
theorem VRepL.nil_inv {M mine : MS} {h : Heap} {vs : List Value} (r : VRepL M mine h vs []) : vs = [] := by cases r; rfl
theorem VRepL.iCons {M mine : MS} {h : Heap} {vs : List Value} {u : V} {us : List V} (r : VRepL M mine h vs (u :: us)) : ∃ x l, vs = x :: l ∧ VRep M mine h x u ∧ VRepL M mine h l us := by
  cases r with | cons a r => exact ⟨_, _, rfl, a, r⟩
noncomputable def Off (us : List V) : Prop := us.Pairwise fun u v => ∀ a ds es, u = .own a ds → v ≠ .own a es
noncomputable def NewIn (mine : MS) (us : List V) : Prop := (∀ a ds, V.own a ds ∈ us → ¬ mine a) ∧ ∀ a ds, V.ro a ds ∉ us
noncomputable def EvUL (X : Cx) (n : Nat) (mine : MS) (σ : List (Option V)) (es : List PySem.Expr) (K : MS → List V → Prop) : Prop :=
  ∀ (A : Around) (E : Value → Shared → Prop) (s : Shared) (Q : List Value → Shared → Prop) (pos : Pos), Room A n → St X mine σ s.heap →
    (∀ vs us m h' tk, K m us → (∀ b, mine b → m b) → Mv X mine s.heap m h' → (∀ b o, s.heap.get? b = some o → o.cls ≠ .none → h'.get? b = some o) → St X m σ h' → VRepL (X.MM m) m h' vs us → Off us → NewIn mine us → Q vs { s with heap := h', toks := tk }) →
    wpAny X.W.M A (spliced (backTo pos (starEach es X.env))) Q E s
theorem eul_nil {K : MS → List V → Prop} (h : K mine []) : EvUL X n mine σ [] K := fun A E s Q p R S k => args_nil (k [] [] mine s.heap s.toks h (fun _ => id) (.of (Ext.refl _ _)) (fun _ _ e _ => e) S .nil .nil ⟨fun _ _ q => (by cases q), fun _ _ q => (by cases q)⟩)
theorem eul_val {e : PySem.Expr} {es : List PySem.Expr} {d : D} {K : MS → List V → Prop} (a : Ev X mine σ n e d) (b : EvUL X n mine σ es (fun m us => K m (.val d :: us))) (he : starEach (e :: es) X.env = (false, eval e X.env) :: starEach es X.env := by rfl) : EvUL X n mine σ (e :: es) K := fun A E s Q p R S k =>
  args_cons (a A E s _ R S fun v h₁ t₁ k₁ S₁ r => b A E _ _ p R S₁ fun vs us m h₂ t₂ hK hm mv kp S₂ rl off nw => k _ _ m h₂ t₂ hK hm ((Mv.of k₁).tr mv) (fun b o e c => kp b o (k₁.get e c) c) S₂ (.cons (Rep.mv r mv) rl)
    (List.Pairwise.cons (fun _ _ _ _ _ q => by cases q) off) ⟨fun a ds q => (List.mem_cons.mp q).elim (fun q => by cases q) (nw.1 a ds), fun a ds q => (List.mem_cons.mp q).elim (fun q => by cases q) (nw.2 a ds)⟩) he
theorem eul_new {e : PySem.Expr} {es : List PySem.Expr} {ds : List D} {K : MS → List V → Prop} (a : EvN X mine σ n e ds) (b : ∀ a, EvUL X n (Cat mine a) σ es (fun m us => K m (.own a ds :: us))) (he : starEach (e :: es) X.env = (false, eval e X.env) :: starEach es X.env := by rfl) : EvUL X n mine σ (e :: es) K := fun A E s Q p R S k =>
  args_cons (a A E s _ R S fun a h₁ h₂ t₁ vs kk k₁ S₁ fa sub ea r => by
    have S₂ := S₁.grow sub fa ⟨_, ea⟩
    have mv₁ : Mv X mine h₁ (Cat mine a) h₂ := .grown sub fa
    refine b a A E _ _ p R S₂ fun vs' us m h₃ t₂ hK hm mv kp S₃ rl off nw => k _ _ m h₃ t₂ hK (fun b z => hm b (.inl z)) (((Mv.of k₁).tr mv₁).tr mv) (fun b o e c => kp b o (sub _ _ (k₁.get e c)) c) S₃ (.cons ⟨rfl, hm a (.inr rfl), kk, vs, kp _ _ ea (by intro q; cases q), (r.mv mv₁).mv mv⟩ rl) ?_ ⟨?_, ?_⟩
    · refine List.Pairwise.cons (fun u hu a' ds' es' q q' => ?_) off
      cases q
      subst q'
      exact nw.1 a _ hu (.inr rfl)
    · intro a' ds' q
      rcases List.mem_cons.mp q with q | q
      · cases q; exact S₁.live.none fa ∘ .inr
      · exact fun z => nw.1 a' ds' q (.inl z)
    · intro a' ds' q
      rcases List.mem_cons.mp q with q | q
      · cases q
      · exact nw.2 a' ds' q) he
inductive Ups (vs : List Str) : List (Option V) → List Str → List V → List (Option V) → Prop
  | nil {σ : List (Option V)} : Ups vs σ [] [] σ
  | cons {σ σ₁ σ₂ : List (Option V)} {x : Str} {u : V} {xs : List Str} {us : List V} : Up vs σ x u σ₁ → Ups vs σ₁ xs us σ₂ → Ups vs σ (x :: xs) (u :: us) σ₂
inductive IsNames : List PySem.Expr → List Str → Prop
  | nil : IsNames [] []
  | cons {x : Str} {p : Pos} {es : List PySem.Expr} {xs : List Str} : IsNames es xs → IsNames (.Name x p :: es) (x :: xs)
theorem IsNames.length {es : List PySem.Expr} {xs : List Str} (a : IsNames es xs) {env : Env} : (assignEach es env).length = xs.length := by
  induction a with
  | nil => rfl
  | cons _ ih => show (_ :: assignEach _ env).length = _; simp [ih]
theorem IsNames.plain {es : List PySem.Expr} {xs : List Str} (a : IsNames es xs) {env : Env} : (assignEach es env).findIdx? (·.1) = none := by
  have : ∀ p ∈ assignEach es env, p.1 = false := by
    induction a with
    | nil => intro p hp; cases hp
    | cons _ ih =>
      intro p hp
      rcases List.mem_cons.mp (show p ∈ _ :: assignEach _ env from hp) with rfl | hp
      · rfl
      · exact ih p hp
  exact List.findIdx?_eq_none_iff.mpr this
inductive Acts (M : Model) (env : Env) : List (Value → Sem Unit) → List Str → Prop
  | nil : Acts M env [] []
  | cons {f : Value → Sem Unit} {x : Str} {fs : List (Value → Sem Unit)} {xs : List Str} : (∀ (A : Around) (E : Value → Shared → Prop) (s : Shared) (Q : Unit → Shared → Prop) (v : Value), wpAny M A (storeName env x v) Q E s → wpAny M A (f v) Q E s) → Acts M env fs xs → Acts M env (f :: fs) (x :: xs)
theorem IsNames.acts {M : Model} {es : List PySem.Expr} {xs : List Str} (a : IsNames es xs) {env : Env} : Acts M env ((assignEach es env).map (·.2)) xs := by
  induction a with
  | nil => exact .nil
  | cons _ ih => exact .cons (fun A E s Q v h => wpAny_assign_Name h) ih
theorem acts_bind {M : Model} {env : Env} : ∀ xs : List Str, Acts M env (xs.map fun x => bindName env x) xs
  | [] => .nil
  | x :: xs => .cons (fun A E s Q v h => bindName_ h) (acts_bind xs)
theorem VRepL.length {M mine : MS} {h : Heap} {vs : List Value} {us : List V} (r : VRepL M mine h vs us) : vs.length = us.length := by
  induction r with
  | nil => rfl
  | cons _ _ ih => simp [ih]
theorem VRepL.keep {M mine : MS} {h h' : Heap} {vs : List Value} {us : List V} (r : VRepL M mine h vs us) (k : ∀ v u, VRep M mine h v u → VRep M mine h' v u) : VRepL M mine h' vs us := by
  induction r with
  | nil => exact .nil
  | cons a _ ih => exact .cons (k _ _ a) ih
theorem stores {fs : List (Value → Sem Unit)} {xs : List Str} (hn : Acts X.W.M X.env fs xs) : ∀ {us : List V} {vs : List Value} {σ σ' : List (Option V)} {A : Around} {E : Value → Shared → Prop} {s : Shared} {Q : Unit → Shared → Prop}, St X mine σ s.heap → Ups X.vs σ xs us σ' → (∀ x ∈ xs, X.env.kindOf x = some .local ∨ x ∈ X.wr) →
    VRepL (X.MM mine) mine s.heap vs us → Off us → (∀ a ds, V.ro a ds ∉ us) → (∀ (j : Nat) a es, σ[j]? = some (some (V.own a es)) → ∀ ds, V.own a ds ∉ us) →
    (∀ h' tk, Mv X mine s.heap mine h' → St X mine σ' h' → Q () { s with heap := h', toks := tk }) → wpAny X.W.M A (assignInOrder fs vs) Q E s := by
  induction hn with
  | nil =>
    intro us vs σ σ' A E s Q S up hk r off ro hown h
    cases up
    obtain rfl := r.nil_inv
    exact wpAny_pure (h s.heap s.toks (.of (Ext.refl _ _)) S)
  | cons hf hn ih =>
    rename_i f x fs xs
    intro us vs σ σ' A E s Q S up hk r off ro hown h
    cases up with
    | cons up ups =>
      rename_i σ₁ u us'
      obtain ⟨v, vs', rfl, ra, rr⟩ := r.iCons
      obtain ⟨i, hx, rfl⟩ := up.index
      have off' := List.pairwise_cons.mp off
      show wpAny X.W.M A (do holding vs' (f v); assignInOrder fs vs') Q E s
      refine wpAny_bind (wpAny_holding (hf _ _ _ _ _ (store_var' S hx (hk x List.mem_cons_self) ra (fun a ds q j es' e => absurd List.mem_cons_self (q ▸ hown j a es' e ds)) (fun a ds q => ro a ds (q ▸ List.mem_cons_self)) fun h₁ t₁ mv S₁ kl => ?_)))
      refine ih S₁ ups (fun x hx => hk x (List.mem_cons_of_mem _ hx)) (rr.keep fun v u r => ?_) off'.2 (fun a ds q => ro a ds (List.mem_cons_of_mem _ q)) (fun j a es' e ds q => ?_) fun h' tk mv' S' => h h' tk (mv.tr mv') S'
      · cases u with
        | val d => exact Rep.mv r mv
        | own a ds => obtain ⟨e, z, n, vs, g, r⟩ := r; exact ⟨e, z, n, vs, kl _ _ _ g, r.mv mv⟩
        | ro a ds => obtain ⟨e, n, vs, g, r⟩ := r; exact ⟨e, n, vs, kl _ _ _ g, r.mv mv⟩
        | ob u L F => exact ⟨r.1, r.2.mono (fun a o _ nm e => (mv.keep a o e (fun z => nm (.inr z))).imp id fun q => q.2) fun _ _ _ => id⟩
      · rw [List.getElem?_set] at e
        split at e
        · split at e
          · have e' : u = V.own a es' := by simpa using e
            exact off'.1 _ q a es' ds e' rfl
          · cases e
        · exact hown j a es' e ds (List.mem_cons_of_mem _ q)
theorem NewIn.off {us : List V} (nw : NewIn mine us) {m : MS} {h : Heap} (S : St X mine σ h) : ∀ (j : Nat) a es, σ[j]? = some (some (V.own a es)) → ∀ ds, V.own a ds ∉ us := fun j a es e ds q => nw.1 a ds q (S.own e).1
theorem unpack_tuple {es : List PySem.Expr} {k : Nat} {tp : Pos} {xs : List Str} {us : List V} {vs : Array Value} {a : Addr} {kk : Nat} {σ' : List (Option V)} {A : Around} {E : Value → Shared → Prop} {s : Shared} {Q : Unit → Shared → Prop} (R : Room A n) (hn : IsNames es xs) (S : St X mine σ s.heap) (up : Ups X.vs σ xs us σ')
    (hk : ∀ x ∈ xs, X.env.kindOf x = some .local ∨ x ∈ X.wr) (hl : xs.length = vs.size) (e : s.heap.get? a = some (tob vs kk)) (r : VRepL (X.MM mine) mine s.heap vs.toList us) (off : Off us) (ro : ∀ a ds, V.ro a ds ∉ us) (hown : ∀ (j : Nat) a es, σ[j]? = some (some (V.own a es)) → ∀ ds, V.own a ds ∉ us)
    (h : ∀ h' tk, Mv X mine s.heap mine h' → St X mine σ' h' → Q () { s with heap := h', toks := tk }) : wpAny X.W.M A (assign (.Tuple es k tp) X.env (.ref a)) Q E s := by
  refine wpAny_assign_Tuple R.handled ⟨_, e, rfl, _, rfl⟩ (by rw [hn.length]; exact hl) hn.plain fun h₁ eb => ?_
  have sub : Sub s.heap h₁ := fun b o q => eb b o (fun z => by subst z; (first | exact (no_get alloc_none q).elim | exact (no_get q alloc_none).elim | (rw [alloc_none] at q; cases q))) q
  exact stores hn.acts (S.sub sub) up hk (r.keep fun v u r => r.monoM sub (fun _ _ _ => id) fun _ => id) off ro hown fun h' tk mv S' => h h' tk ((Mv.of (.of sub)).tr mv) S'
end
end Mine
namespace Mine
theorem swapped_scope {ts : List PySem.Expr} {v : PySem.Expr} {env env' : Env} (h : env.scope = env'.scope) : swappedStores ts v env = swappedStores ts v env' := by
  have h1 : env.blockKind = env'.blockKind := by unfold Env.blockKind; rw [h]
  have h2 : env.kindOf = env'.kindOf := by funext x; unfold Env.kindOf; rw [h]
  unfold swappedStores
  rw [h1, h2]
theorem swaps_scope {v : PySem.Expr} {t : Option PySem.Expr} {l : Nat} {env env' : Env} (h : env.scope = env'.scope) : swapsWith v t l env = swapsWith v t l env' := by
  have h1 : env.blockKind = env'.blockKind := by unfold Env.blockKind; rw [h]
  have h2 : env.kindOf = env'.kindOf := by funext x; unfold Env.kindOf; rw [h]
  unfold swapsWith
  rw [h1, h2, h]
noncomputable def envAt (sc : Scope) : Env := { scope := sc, locals := 0, globals := 0, cells := [], qual := "", func := none, code := .none, frame := none, builtins := 0 }
section
variable {X : Cx} {mine : MS} {σ : List (Option V)} {n : Nat} {h h' : Heap}
theorem r1_new {x : Str} {p p' : Pos} {e : PySem.Expr} {ds : List D} {P : Post} (a : EvN X mine σ n e ds) (hk : X.env.kindOf x = some .local ∨ x ∈ X.wr) (hP : ∀ a, ∃ σ', Up X.vs σ x (.own a ds) σ' ∧ P .next (Cat mine a) σ')
    (hs : swapsWith e (some (.Name x p)) p'.line X.env = pure false := by rfl) : Run1 X n mine σ (.Assign [.Name x p] e p') P := fun A E s Q R S k =>
  wpAny_Assign_Name (a A E s _ R S fun a h₁ h₂ tk vs kk k₁ S₁ fa sub ea r => by
    obtain ⟨σ', up, hp⟩ := hP a
    obtain ⟨i, hx, rfl⟩ := up.index
    have S₂ := S₁.grow sub fa ⟨_, ea⟩
    have mv₁ : Mv X mine h₁ (Cat mine a) h₂ := .grown sub fa
    refine store_var S₂ hx hk (u := .own a ds) ⟨rfl, .inr rfl, kk, vs, ea, r.mv mv₁⟩ (fun a' ds' q j es e => ?_) (fun _ _ e => by cases e) fun h₃ t₃ mv S₃ => k _ _ _ h₃ t₃ _ hp (((Mv.of k₁).tr mv₁).tr mv) S₃ .next
    cases q
    exact absurd (S₁.own e).1 (fun z => S₁.live.none fa (.inr z))) hs
theorem tuple_us {es : List PySem.Expr} {kk : Nat} {p : Pos} {K : MS → List V → Prop} (a : EvUL X n mine σ es K) {A : Around} {E : Value → Shared → Prop} {s : Shared} {Q : Value → Shared → Prop} (R : Room A n) (S : St X mine σ s.heap) (hK : ∀ m us, K m us → us.length ≤ 1000000)
    (h : ∀ t vs us m h' tk, K m us → Mv X mine s.heap m h' → St X m σ h' → h'.get? t = some (tob vs 0) → VRepL (X.MM m) m h' vs.toList us → Off us → NewIn mine us → Q (.ref t) { s with heap := h', toks := tk }) : wpAny X.W.M A (eval (.Tuple es kk p) X.env) Q E s :=
  Tuple_ (a A E s _ _ R S fun vs us m h' tk hk hm mv kp S' rl off nw => by
    have hl : vs.length = us.length := rl.length
    refine wpAny_newTuple (h _ vs.toArray us m _ tk hk (mv.tr (.of (.of (alloc_sub _ _)))) (S'.sub (alloc_sub _ _)) (Heap.get?_push_size _ rfl) (by simpa using rl.keep fun v u r => r.monoM (alloc_sub _ _) (fun _ _ _ => id) fun _ => id) off nw) (by rw [hl]; exact sz (hK m us hk)))
theorem r1_tup {ts es : List PySem.Expr} {k k' : Nat} {tp p p' : Pos} {xs : List Str} {P : Post} (hn : IsNames ts xs) (hk : ∀ x ∈ xs, X.env.kindOf x = some .local ∨ x ∈ X.wr) (hz : xs.length ≤ 1000000)
    (a : EvUL X n mine σ es (fun m us => us.length = xs.length ∧ ∃ σ', Ups X.vs σ xs us σ' ∧ P .next m σ'))
    (hw : swappedStores [.Tuple ts k tp] (.Tuple es k' p') X.env = pure none) : Run1 X n mine σ (.Assign [.Tuple ts k tp] (.Tuple es k' p') p) P := fun A E s Q R S kk => by
  refine Assign_Tuple (tuple_us a R S (fun m us q => by rw [q.1]; exact hz) fun t vs us m h' tk hK mv S' e rl off nw => ?_) rfl hw
  obtain ⟨hl, σ', up, hp⟩ := hK
  have hl' : vs.toList.length = us.length := rl.length
  exact unpack_tuple R hn S' up hk (by rw [← hl, ← hl', Array.length_toList]) e rl off nw.2 (fun j a es q ds z => nw.1 a ds z (S.own q).1) fun h₂ t₂ mv₂ S₂ => kk _ _ _ h₂ t₂ _ hp (mv.tr mv₂) S₂ .next
theorem VRepL.reverse {M mine : MS} {h : Heap} {vs : List Value} {us : List V} (r : VRepL M mine h vs us) : VRepL M mine h vs.reverse us.reverse := by
  have app : ∀ {vs us vs' us'}, VRepL M mine h vs us → VRepL M mine h vs' us' → VRepL M mine h (vs ++ vs') (us ++ us') := fun a b => by
    induction a with
    | nil => exact b
    | cons x _ ih => exact .cons x ih
  induction r with
  | nil => exact .nil
  | cons a _ ih => rw [List.reverse_cons, List.reverse_cons]; exact app ih (.cons a .nil)
theorem Off.reverse {us : List V} (o : Off us) : Off us.reverse := by
  refine List.pairwise_reverse.mpr (o.imp fun {u v} q a ds es e1 e2 => q a es ds e2 e1)
theorem r1_tupS {ts es : List PySem.Expr} {k k' : Nat} {tp p p' : Pos} {xs : List Str} {P : Post} (hk : ∀ x ∈ xs, X.env.kindOf x = some .local ∨ x ∈ X.wr) (hz : xs.length ≤ 1000000)
    (a : EvUL X n mine σ es (fun m us => us.length = xs.length ∧ ∃ σ', Ups X.vs σ xs.reverse us.reverse σ' ∧ P .next m σ'))
    (hw : swappedStores [.Tuple ts k tp] (.Tuple es k' p') X.env = pure (some xs)) : Run1 X n mine σ (.Assign [.Tuple ts k tp] (.Tuple es k' p') p) P := fun A E s Q R S kk => by
  refine Assign_Tuple_swapped (tuple_us a R S (fun m us q => by rw [q.1]; exact hz) fun t vs us m h' tk hK mv S' e rl off nw => ?_) rfl hw
  obtain ⟨hl, σ', up, hp⟩ := hK
  have hl' : vs.toList.length = us.length := rl.length
  have hv : xs.length = vs.size := by rw [← hl, ← hl', Array.length_toList]
  rw [hv]
  refine wpAny_unpackItems_tuple R.handled ⟨_, e, rfl, _, rfl⟩ fun h₁ eb => ?_
  have sub : Sub h' h₁ := fun b o q => eb b o (fun z => by subst z; (first | exact (no_get alloc_none q).elim | exact (no_get q alloc_none).elim | (rw [alloc_none] at q; cases q))) q
  have S₁ := S'.sub sub
  refine stores (acts_bind xs.reverse) S₁ up (fun x hx => hk x (List.mem_reverse.mp hx)) (rl.keep fun v u r => r.monoM sub (fun _ _ _ => id) fun _ => id).reverse off.reverse (fun a ds q => nw.2 a ds (List.mem_reverse.mp q)) (fun j a es q ds z => nw.1 a ds (List.mem_reverse.mp z) (S.own q).1) fun h₂ t₂ mv₂ S₂ => kk _ _ _ h₂ t₂ _ hp ((mv.tr (.of (.of sub))).tr mv₂) S₂ .next
theorem vrepL_val {M : MS} {h : Heap} {vs : List Value} {ds : List D} (r : RepL M h vs ds) : VRepL M mine h vs (ds.map .val) := by
  induction ds generalizing vs with
  | nil => obtain rfl := r.nil_inv; exact .nil
  | cons d ds ih => obtain ⟨_, _, rfl, a, r⟩ := r.iCons; exact .cons a (ih r)
theorem off_val (ds : List D) : Off (ds.map .val) := by
  induction ds with
  | nil => exact .nil
  | cons d ds ih => exact List.Pairwise.cons (fun _ _ _ _ _ q => by cases q) ih
theorem not_own_val {ds : List D} {a : Addr} {es : List D} : V.own a es ∉ ds.map .val := fun q => by obtain ⟨_, _, z⟩ := List.mem_map.mp q; cases z
theorem not_ro_val {ds : List D} {a : Addr} {es : List D} : V.ro a es ∉ ds.map .val := fun q => by obtain ⟨_, _, z⟩ := List.mem_map.mp q; cases z
theorem r1_unpT {ts : List PySem.Expr} {k : Nat} {tp p : Pos} {xs : List Str} {e : PySem.Expr} {ds : List D} {σ' : List (Option V)} {P : Post} (hn : IsNames ts xs) (hk : ∀ x ∈ xs, X.env.kindOf x = some .local ∨ x ∈ X.wr) (a : Ev X mine σ n e (.tup ds)) (hl : ds.length = xs.length)
    (up : Ups X.vs σ xs (ds.map .val) σ') (h : P .next mine σ') (hs : swapsWithSole [.Tuple ts k tp] e p.line X.env = pure false := by rfl) (hw : swappedStores [.Tuple ts k tp] e X.env = pure none := by rfl) : Run1 X n mine σ (.Assign [.Tuple ts k tp] e p) P := fun A E s Q R S kk =>
  Assign_Tuple (a A E s _ R S fun v h₁ t₁ k₁ S₁ r => by
    obtain ⟨a, nn, vs, rfl, e, m, r⟩ := r.iTup
    have l := r.length
    simp only [Array.length_toList] at l
    exact unpack_tuple R hn S₁ up hk (by rw [← hl, l]) e (vrepL_val r) (off_val ds) (fun _ _ => not_ro_val) (fun _ _ _ _ _ => not_own_val) fun h₂ t₂ mv₂ S₂ => kk _ _ _ h₂ t₂ _ h ((Mv.of k₁).tr mv₂) S₂ .next) hs hw
theorem r1_unpL {ts : List PySem.Expr} {k : Nat} {tp p : Pos} {xs : List Str} {e : PySem.Expr} {ds : List D} {σ' : List (Option V)} {P : Post} (hn : IsNames ts xs) (hk : ∀ x ∈ xs, X.env.kindOf x = some .local ∨ x ∈ X.wr) (a : Ev X mine σ n e (.list ds)) (hl : ds.length = xs.length)
    (up : Ups X.vs σ xs (ds.map .val) σ') (h : P .next mine σ') (hs : swapsWithSole [.Tuple ts k tp] e p.line X.env = pure false := by rfl) (hw : swappedStores [.Tuple ts k tp] e X.env = pure none := by rfl) : Run1 X n mine σ (.Assign [.Tuple ts k tp] e p) P := fun A E s Q R S kk =>
  Assign_Tuple (a A E s _ R S fun v h₁ t₁ k₁ S₁ r => by
    obtain ⟨a, nn, vs, rfl, e, m, r⟩ := r.iList
    have l := r.length
    simp only [Array.length_toList] at l
    rw [assign_Tuple]
    refine wpAny_bind (wpAny_standAt ?_)
    unfold unpack
    rw [hn.plain, hn.length, show xs.length = vs.size by (first | lia (splits := 0) | omega)]
    refine wpAny_bind (wpAny_holding (kun_itemsOf R.handled ⟨_, e, rfl, _, rfl⟩ fun h₂ eb => ?_))
    have sub : Sub h₁ h₂ := fun b o q => eb b o (fun z => by subst z; (first | exact (no_get alloc_none q).elim | exact (no_get q alloc_none).elim | (rw [alloc_none] at q; cases q))) q
    exact stores hn.acts (S₁.sub sub) up hk ((vrepL_val r).keep fun v u r => r.monoM sub (fun _ _ _ => id) fun _ => id) (off_val ds) (fun _ _ => not_ro_val) (fun _ _ _ _ _ => not_own_val) fun h₃ t₂ mv₂ S₂ => kk _ _ _ h₃ t₂ _ h (((Mv.of k₁).tr (.of (.of sub))).tr mv₂) S₂ .next) hs hw
theorem r1_three {x y z : Str} {px py pz p : Pos} {e : PySem.Expr} {d : D} {σ' : List (Option V)} {P : Post} (a : Ev X mine σ n e d) (up : Ups X.vs σ [x, y, z] [.val d, .val d, .val d] σ') (hk : ∀ v ∈ [x, y, z], X.env.kindOf v = some .local ∨ v ∈ X.wr) (h : P .next mine σ') : Run1 X n mine σ (.Assign [.Name x px, .Name y py, .Name z pz] e p) P := fun A E s Q R S kk => by
  cases up with
  | cons u1 up => cases up with
  | cons u2 up => cases up with
  | cons u3 up =>
  cases up
  obtain ⟨i1, hx1, rfl⟩ := u1.index
  obtain ⟨i2, hx2, rfl⟩ := u2.index
  obtain ⟨i3, hx3, rfl⟩ := u3.index
  refine wpAny_Assign_three (a A E s _ R S fun v h₁ t₁ k₁ S₁ r => ?_)
  refine wpAny_assign_Name (store_var S₁ hx1 (hk _ (by simp)) (u := .val d) r set_val (fun _ _ e => by cases e) fun h₂ t₂ mv₂ S₂ => ?_)
  refine wpAny_assign_Name (store_var S₂ hx2 (hk _ (by simp)) (u := .val d) (Rep.mv r mv₂) set_val (fun _ _ e => by cases e) fun h₃ t₃ mv₃ S₃ => ?_)
  refine wpAny_assign_Name (store_var S₃ hx3 (hk _ (by simp)) (u := .val d) (Rep.mv (Rep.mv r mv₂) mv₃) set_val (fun _ _ e => by cases e) fun h₄ t₄ mv₄ S₄ => ?_)
  exact kk _ _ _ h₄ t₄ _ h ((((Mv.of k₁).tr mv₂).tr mv₃).tr mv₄) S₄ .next
theorem r1_setItem {x : Str} {px sp p : Pos} {i e : PySem.Expr} {a : Addr} {ds : List D} {k : Int} {d : D} {σ' : List (Option V)} {P : Post} (hf : X.fn = true) (lk : Lk X.vs σ x (.own a ds)) (b : Ev X mine σ n e d) (c : Ev X mine σ n i (.int k)) (h0 : 0 ≤ k) (h1 : k < ds.length) (hb : k < 2 ^ 63)
    (up : Up X.vs σ x (.own a (ds.set k.toNat d)) σ') (h : P .next mine σ') (hs : swapsWith e (some (.Subscript (.Name x px) i sp)) p.line X.env = pure false := by rfl) : Run1 X n mine σ (.Assign [.Subscript (.Name x px) i sp] e p) P := fun A E s Q R S kk => by
  obtain ⟨j, hx, hs', rfl⟩ := lk_up lk up S.ok.nodup
  refine wpAny_Assign_Subscript (b A E s _ R S fun v h₁ t₁ k₁ S₁ rv => ?_) hs
  obtain ⟨i', val, hx', hs'', va, rfl, hL, n₀, vs, e₀, r⟩ := lk.at S₁
  refine wpAny_Name (load_var S₁.kind va (c A E _ _ R S₁ fun vk h₂ t₂ k₂ S₂ rk => ?_)) (S.ok.nodbg x (List.mem_of_getElem? hx))
  obtain ⟨_, rfl⟩ := rk.iInt
  have e₂ := k₂.get e₀ (by intro q; cases q)
  have l := r.length
  simp only [Array.length_toList] at l
  refine ki_setAt e₂ h0 hb (by (first | lia (splits := 0) | omega)) ?_
  have sb := Heap.SameBut.update h₂ a (Obj.mapSeq (·.setIfInBounds k.toNat v))
  have e₃ := PySem.IsL.update e₂ (·.setIfInBounds k.toNat v)
  refine kk _ mine _ _ t₂ _ h (((Mv.of k₁).tr (.of k₂)).tr (.own hL fun b nb => sb.2 b nb)) (S₂.setOwn hf hs' (fun b nb => sb.2 b nb) e₃ ?_) .next
  rw [Array.toList_setIfInBounds]
  exact (r.ext k₂).set (Rep.ext rv (h' := h₂) k₂) k.toNat
end
end Mine
namespace Mine
noncomputable abbrev intD (l : List Int) : List D := l.map .int
noncomputable abbrev strD (l : List Str) : List D := l.map .str
section
variable {W : Wd} {n : Nat}
theorem repl_ints {M : MS} {h : Heap} : ∀ {is : List Int} {vs : List Value}, RepL M h vs (intD is) → ∃ xs : List (Int × Tok), vs = xs.map (fun p => .int p.1 p.2) ∧ xs.map (·.1) = is
  | [], _, r => by obtain rfl := r.nil_inv; exact ⟨[], rfl, rfl⟩
  | i :: is, _, r => by
    obtain ⟨_, _, rfl, a, r⟩ := r.iCons
    obtain ⟨xs, rfl, rfl⟩ := repl_ints r
    obtain ⟨t, rfl⟩ := a.iInt
    exact ⟨(i, t) :: xs, rfl, rfl⟩
theorem repl_strs {M : MS} {h : Heap} : ∀ {is : List Str} {vs : List Value}, RepL M h vs (strD is) → StrsAre vs is
  | [], _, r => by obtain rfl := r.nil_inv; exact .nil
  | i :: is, _, r => by
    obtain ⟨_, _, rfl, a, r'⟩ := r.iCons
    obtain ⟨t, rfl⟩ := a.iStr
    exact .cons _ _ (repl_strs r')
theorem strs_repl {M : MS} {h : Heap} {is : List Str} {vs : List Value} (a : StrsAre vs is) : RepL M h vs (strD is) := by
  induction a with
  | nil => exact .nil
  | cons y t _ ih => exact .cons (.str y t) ih
theorem items_of {vs : Array Value} {xs : List (Int × Tok)} (h : vs.toList = xs.map (fun p => .int p.1 p.2)) : vs = intItems xs.toArray := by
  apply Array.toList_inj.mp
  rw [h]
  simp [intItems]
theorem opf_sum {is : List Int} : OpF W n (.builtin "sum") [.list (intD is)] (.int is.sum) := fun M A E s Q vs R L r h => by
  obtain ⟨v, rfl, a⟩ := rep1 r
  cases a with
  | list e m r =>
    rename_i a k xs
    obtain ⟨ps, hps, rfl⟩ := repl_ints r
    obtain rfl := items_of hps
    refine sum_intListG R.handled ⟨_, e, rfl, _, rfl⟩ fun h' tk t' kk => h _ h' tk (fun b o q => kk b o q) ?_
    have := preSum_eq ps.toArray ps.length
    rw [List.take_of_length_le (by simp)] at this
    rw [show ps.toArray.size = ps.length by simp, this]
    exact .int _ _
theorem argBest_lt (bt : Nat → Nat → Bool) : ∀ k, argBest bt k ≤ k
  | 0 => Nat.le_refl _
  | k + 1 => by
    rw [argBest]
    split
    · exact Nat.le_refl _
    · exact Nat.le_succ_of_le (argBest_lt bt k)
theorem argBest_max (f : Nat → Int) : ∀ k j, j ≤ k → f j ≤ f (argBest (fun i j => decide (f i > f j)) k)
  | 0, j, h => by simp at h; subst h; exact Int.le_refl _
  | k + 1, j, h => by
    rw [argBest]
    have ih := argBest_max f k
    split
    · rename_i q
      have q := of_decide_eq_true q
      rcases Nat.lt_or_ge j (k + 1) with hj | hj
      · have := ih j (by (first | lia (splits := 0) | omega)); (first | lia (splits := 0) | omega)
      · have : j = k + 1 := by (first | lia (splits := 0) | omega)
        subst this; exact Int.le_refl _
    · rename_i q
      have q : ¬ (f (k + 1) > f (argBest (fun i j => decide (f i > f j)) k)) := fun z => q (decide_eq_true z)
      rcases Nat.lt_or_ge j (k + 1) with hj | hj
      · exact ih j (by (first | lia (splits := 0) | omega))
      · have : j = k + 1 := by (first | lia (splits := 0) | omega)
        subst this; (first | lia (splits := 0) | omega)
theorem opf_max {is : List Int} {m : Int} (hm : m ∈ is) (hx : ∀ x ∈ is, x ≤ m) : OpF W n (.builtin "max") [.list (intD is)] (.int m) := fun M A E s Q vs R L r h => by
  obtain ⟨v, rfl, a⟩ := rep1 r
  cases a with
  | list e m' r =>
    rename_i a k xs
    obtain ⟨ps, hps, rfl⟩ := repl_ints r
    obtain rfl := items_of hps
    have hne : 0 < ps.length := by cases ps with | nil => simp at hm | cons _ _ => simp
    refine max_intList R.handled ⟨_, e, rfl, _, rfl⟩ (by simpa using hne) fun v h' tk hv kk => ?_
    obtain ⟨t, rfl⟩ := intItems_at hv
    refine h _ h' tk (fun b o q => kk b o q) ?_
    have hat : ∀ i (hi : i < ps.length), numAt ps.toArray i = (ps[i]).1 := fun i hi => by simp [numAt, hi]
    generalize hb : argBest (fun i j => decide (numAt ps.toArray i > numAt ps.toArray j)) (ps.toArray.size - 1) = b at hv ⊢
    have hbl : b < ps.length := by have := argBest_lt (fun i j => decide (numAt ps.toArray i > numAt ps.toArray j)) (ps.toArray.size - 1); rw [hb] at this; simp at this; (first | lia (splits := 0) | lia (splits := 4) | omega)
    have h1 : numAt ps.toArray b ≤ m := by rw [hat b hbl]; exact hx _ (List.mem_map.mpr ⟨_, List.getElem_mem hbl, rfl⟩)
    obtain ⟨p, hp, rfl⟩ := List.mem_map.mp hm
    obtain ⟨j, hj, rfl⟩ := List.getElem_of_mem hp
    have h2 := argBest_max (numAt ps.toArray) (ps.toArray.size - 1) j (by simp; (first | lia (splits := 0) | lia (splits := 4) | omega))
    rw [hb, hat j hj] at h2
    have : numAt ps.toArray b = (ps[j]).1 := by (first | lia (splits := 0) | lia (splits := 4) | omega)
    rw [this]
    exact .int _ _
theorem opf_tuple {ds : List D} (hz : ds.length ≤ 1000000) : OpF W n (.type "tuple") [.list ds] (.tup ds) := fun M A E s Q vs R L r h => by
  obtain ⟨v, rfl, a⟩ := rep1 r
  clear r
  cases a with
  | list e m' r =>
    rename_i a k xs
    have l := r.length
    simp only [Array.length_toList] at l
    refine call_tuple_list ⟨_, e, rfl, _, rfl⟩ (fun h' kk => ?_) (sz (by (first | lia (splits := 0) | omega)))
    have nn : ¬ M h'.objs.size := fun z => by obtain ⟨o, q⟩ := L _ z; have := kk _ _ q; (first | exact (no_get alloc_none this).elim | exact (no_get this alloc_none).elim | (rw [alloc_none] at this; cases this))
    have sub : Sub s.heap (h'.push { cls := .type "tuple", data := .seq xs }) := fun b o q => alloc_sub _ _ b o (kk b o q)
    exact h _ _ s.toks sub (.tup (Heap.get?_push_size _ rfl) nn (r.ext (T := []) (.of sub)))
theorem opf_divmod {a b : Int} (hb : b ≠ 0) (hs : -(2 ^ 29) < b ∧ b < 2 ^ 29) : OpF W n (.builtin "divmod") [.int a, .int b] (.tup [.int (a.fdiv b), .int (a.fmod b)]) := fun M A E s Q vs R L r h => by
  obtain ⟨v, u, rfl, ra, rb⟩ := rep2 r
  obtain ⟨_, rfl⟩ := ra.iInt; obtain ⟨_, rfl⟩ := rb.iInt
  refine divmod_int hb ?_ (Or.inl (PyProof.noPylong_small (by (first | lia (splits := 0) | omega))))
  exact h _ _ _ (alloc_sub _ _) (.tup (Heap.get?_push_size _ rfl) (L.none (alloc_none _)) (.cons (.int _ _) (.cons (.int _ _) .nil)))
end
section
variable {X : Cx} {mine : MS} {σ : List (Option V)} {n : Nat}
theorem ev_join {pl : Sem Bool} {o e : PySem.Expr} {ap p : Pos} {x : Str} {ys : List Str} (a : Ev X mine σ n o (.str x)) (b : Ev X mine σ n e (.list (strD ys))) (hz : (ys.map (·.length)).sum + ys.length * x.length ≤ 1000000)
    (hee : starEach [e] X.env = (false, eval e X.env) :: starEach [] X.env := by rfl)
    (he : eval (.Call (.Attribute o ("join" : Str) ap) [e] [] p) X.env = (do
      let ov ← eval o X.env
      standAt ap.atName
      let (f, first) ← holding [ov] (getMethod ov ("join" : Str) pl)
      callWith p f first (backTo p (starEach [e] X.env)) []) := by rfl) : Ev X mine σ n (.Call (.Attribute o ("join" : Str) ap) [e] [] p) (.str (Txt.join x ys)) := fun A E s Q R S h =>
  MethodCall_ (a A E s _ R S fun v h₁ t₁ k₁ S₁ r => by
    obtain ⟨_, rfl⟩ := r.iStr
    refine GM.join (callWith_method1 (args_cons (b A E _ _ R S₁ fun w h₂ t₂ k₂ S₂ rw' => args_nil ?_) hee) hee rfl)
    obtain ⟨_, _, _, rfl, e, m, r⟩ := rw'.iList
    exact join_list ⟨_, e, rfl, _, rfl⟩ (repl_strs r) (by (first | lia (splits := 0) | omega)) fun t' k => h _ h₂ k (k₁.trans k₂) S₂ (.str _ _)) he
theorem ev_split {pl : Sem Bool} {o e : PySem.Expr} {ap p : Pos} {x y : Str} {ys : List Str} (a : Ev X mine σ n o (.str x)) (b : Ev X mine σ n e (.str y)) (h1 : (decide (x.length < y.length) || decide (Builtin.Str.strKind x < Builtin.Str.strKind y)) = false) (hy : (y.length == 0) = false)
    (hf : (Builtin.Str.occurrences x y 0 x.length (x.length + 1)).isEmpty = false) (hp : Builtin.Str.partsBetween x (Builtin.Str.occurrences x y 0 x.length (x.length + 1)) y.length = ys) (hz : x.length + 2 ≤ 1000000)
    (hee : starEach [e] X.env = (false, eval e X.env) :: starEach [] X.env := by rfl)
    (he : eval (.Call (.Attribute o ("split" : Str) ap) [e] [] p) X.env = (do
      let ov ← eval o X.env
      standAt ap.atName
      let (f, first) ← holding [ov] (getMethod ov ("split" : Str) pl)
      callWith p f first (backTo p (starEach [e] X.env)) []) := by rfl) : Ev X mine σ n (.Call (.Attribute o ("split" : Str) ap) [e] [] p) (.list (strD ys)) := fun A E s Q R S h =>
  MethodCall_ (a A E s _ R S fun v h₁ t₁ k₁ S₁ r => by
    obtain ⟨t, rfl⟩ := r.iStr
    refine GM.split (callWith_method1 (args_cons (b A E _ _ R S₁ fun w h₂ t₂ k₂ S₂ rw' => args_nil ?_) hee) hee rfl)
    obtain ⟨u, rfl⟩ := rw'.iStr
    have hn : (Builtin.Str.partsBetween x (Builtin.Str.occurrences x y 0 x.length (x.length + 1)) y.length).length ≤ sizeLine := by
      have e1 := StrLaws.occ_length_le x y 0 x.length (x.length + 1)
      rw [length_partsBetween]
      exact sz (by (first | lia (splits := 0) | omega))
    refine call_meets F.slot_str_split (typeIs_str _ _ _) F.entry_str_split (F.args_str_split_2 _ _) (meets_str_split_sep x y t u h1 hy hf (sz (by (first | lia (splits := 0) | omega))) hn) ?_
    rw [strsFrom_eq]
    refine h _ _ _ ((k₁.trans k₂).trans (.of (alloc_sub _ _))) (S₂.sub (alloc_sub _ _)) (.list (Heap.get?_push_size _ rfl) (S₂.live.none (alloc_none _)) ?_)
    have q := strs_repl (M := X.MM mine) (h := h₂.push { cls := .type "list", data := .seq (strValues (numbered t₂ (Builtin.Str.partsBetween x (Builtin.Str.occurrences x y 0 x.length (x.length + 1)) y.length))).toArray }) (strsAre_of_values (numbered t₂ (Builtin.Str.partsBetween x (Builtin.Str.occurrences x y 0 x.length (x.length + 1)) y.length)))
    rw [numbered_texts, hp] at q
    simpa [hp] using q) he
theorem ev_bitlen {pl : Sem Bool} {o : PySem.Expr} {ap p : Pos} {i : Int} (a : Ev X mine σ n o (.int i))
    (he : eval (.Call (.Attribute o ("bit_length" : Str) ap) [] [] p) X.env = (do
      let ov ← eval o X.env
      standAt ap.atName
      let (f, first) ← holding [ov] (getMethod ov ("bit_length" : Str) pl)
      callWith p f first (backTo p (starEach [] X.env)) []) := by rfl) : Ev X mine σ n (.Call (.Attribute o ("bit_length" : Str) ap) [] [] p) (.int (Builtin.Int.intBits i)) := fun A E s Q R S h =>
  MethodCall_ (a A E s _ R S fun v h₁ t₁ k₁ S₁ r => by
    obtain ⟨_, rfl⟩ := r.iInt
    exact getMethod_int_bit_length (callWith_method0 (call_int_bit_length (h _ h₁ _ k₁ S₁ (.int _ _))))) he
noncomputable abbrev ett : Str := "EXACT_TOKEN_TYPES"
theorem tst_inEtt {o : PySem.Expr} {p q : Pos} {x : Str} (a : Ev X mine σ n o (.str x)) (hk : X.env.kindOf ett = some .globalImplicit) (hm : behindInMarks .In (.Name ett q) = false := by with_unfolding_all rfl) : Tst X mine σ n (.Compare o [.In] [.Name ett q] p) (kdpHas ETT x) := fun A E s Q R S h =>
  wpAny_isTrue_Compare1 (a A E s _ R S fun v h₁ t₁ k₁ S₁ r₁ => by
    obtain ⟨d, hg, T⟩ := S₁.gsAt.tk
    obtain ⟨_, rfl⟩ := r₁.iStr
    exact load_glob S₁ hg hk (by decide +kernel) (kdp_in T (wpAny_truthy_bool (h h₁ _ k₁ S₁)))) hm
theorem ev_itemEtt {slice : PySem.Expr} {p q : Pos} {x : Str} (a : Ev X mine σ n slice (.str x)) (hk : X.env.kindOf ett = some .globalImplicit) (hx : kdpHas ETT x = true)
    (hs : ∀ o i, subscripted slice false o i = operate [o, i] (getItem o i) := by intro _ _; rfl) : Ev X mine σ n (.Subscript (.Name ett q) slice p) (.int (kdpLook ETT x 0)) := fun A E s Q R S h => by
  obtain ⟨d, hg, T⟩ := S.gsAt.tk
  refine Subscript_ (load_glob S hg hk (by decide +kernel) (a A E _ _ R S fun v h₁ t₁ k₁ S₁ r => ?_))
  obtain ⟨_, rfl⟩ := r.iStr
  exact kdp_item (tab_ext T k₁) hx (fun t => h _ h₁ _ k₁ S₁ (.int _ _)) (hs _ _)
theorem ev_lenEtt {f : Str} {p q p' : Pos} (hk : X.env.kindOf ett = some .globalImplicit) (hb : bootBuiltins f = some (.builtin "len")) (hf : f ∈ bNames) (hk' : X.env.kindOf f = some .globalImplicit) (hd : (f == ("__debug__" : Str)) = false := by decide +kernel) (hn : f ≠ "__name__" := by decide +kernel)
    (hc : eval (.Call (.Name f p) [.Name ett q] [] p') X.env = (do callWith p' (← eval (.Name f p) X.env) [] (backTo p' (starEach [.Name ett q] X.env)) (backToKw p' (keywordEach [] X.env))) := by rfl) : Ev X mine σ n (.Call (.Name f p) [.Name ett q] [] p') (.int 48) := fun A E s Q R S h => by
  obtain ⟨d, hg, T⟩ := S.gsAt.tk
  refine Call_ (load_blt S (S.gs.bn f hf) hb hk' hd hn (callWith_builtin1 (args_cons (load_glob S hg hk (by decide +kernel) (args_nil ?_)) rfl) rfl)) hc
  exact kdp_len T (by decide) (h _ s.heap _ (Ext.refl _ _) S (.int _ _))
end
end Mine
namespace Mine
theorem bb_len : bootBuiltins "len" = some (.builtin "len") := by kernel_rfl
theorem bb_max : bootBuiltins "max" = some (.builtin "max") := by kernel_rfl
theorem bb_min : bootBuiltins "min" = some (.builtin "min") := by kernel_rfl
theorem bb_sum : bootBuiltins "sum" = some (.builtin "sum") := by kernel_rfl
theorem bb_divmod : bootBuiltins "divmod" = some (.builtin "divmod") := by kernel_rfl
theorem bb_range : bootBuiltins "range" = some (.type "range") := by kernel_rfl
theorem bb_reversed : bootBuiltins "reversed" = some (.type "reversed") := by kernel_rfl
theorem bb_tuple : bootBuiltins "tuple" = some (.type "tuple") := by kernel_rfl
section
variable {X : Cx} {mine : MS} {σ : List (Option V)} {n : Nat}
theorem ex_up {vs : List Str} {σ s : List (Option V)} {x : Str} {u : V} {P : List (Option V) → Prop} (a : Up vs σ x u s) (b : P s) : ∃ s, Up vs σ x u s ∧ P s := ⟨s, a, b⟩
theorem ex_ups {vs : List Str} {σ s : List (Option V)} {x : List Str} {u : List V} {P : List (Option V) → Prop} (a : Ups vs σ x u s) (b : P s) : ∃ s, Ups vs σ x u s ∧ P s := ⟨s, a, b⟩
theorem Ev.cast {e : PySem.Expr} {d d' : D} (a : Ev X mine σ n e d) (h : d = d') : Ev X mine σ n e d' := h ▸ a
theorem Tst.cast {e : PySem.Expr} {d d' : Bool} (a : Tst X mine σ n e d) (h : d = d') : Tst X mine σ n e d' := h ▸ a
theorem It.cast {e : PySem.Expr} {d d' : List D} (a : It X mine σ n e d) (h : d = d') : It X mine σ n e d' := h ▸ a
theorem r1_pop {pl : Sem Bool} {x : Str} {px ap cp sp : Pos} {a : Addr} {ds : List D} {d : D} {σ' : List (Option V)} {P : Post} (hf : X.fn = true) (lk : Lk X.vs σ x (.own a (ds ++ [d]))) (up : Up X.vs σ x (.own a ds) σ') (hz : ds.length ≤ 1000000 - 1) (h : P .next mine σ')
    (he : eval (.Call (.Attribute (.Name x px) ("pop" : Str) ap) [] [] cp) X.env = (do
      let ov ← eval (.Name x px) X.env
      standAt ap.atName
      let (f, first) ← holding [ov] (getMethod ov ("pop" : Str) pl)
      callWith cp f first (backTo cp (starEach [] X.env)) []) := by rfl) :
    Run1 X n mine σ (.Expr (.Call (.Attribute (.Name x px) ("pop" : Str) ap) [] [] cp) sp) P := fun A E s Q R S k => by
  obtain ⟨i, hx, hs, rfl⟩ := lk_up lk up S.ok.nodup
  obtain ⟨i', val, hx', hs', va, rfl, hL, n₀, vs, e₀, r⟩ := lk.at S
  refine wpAny_Expr_any (MethodCall_ (wpAny_Name (load_var S.kind va ?_) (S.ok.nodbg x (List.mem_of_getElem? hx))) he) (inter S.kind)
  refine getMethod_builtin ⟨_, e₀, rfl⟩ F.plainAttrs_list PySem.F.slot_list_pop PySem.F.type_list_pop (fun b q => by cases q; exact ⟨_, e₀, rfl⟩) (callWith_method0 ?_)
  have l := r.length
  simp only [Array.length_toList, List.length_append, List.length_cons, List.length_nil] at l
  obtain ⟨y, hy, ry⟩ := r.get (i := ds.length) (y := d) (by simp)
  refine Copied.pop_at e₀ (y := y) (by rw [show vs.size - 1 = ds.length by (first | lia (splits := 0) | lia (splits := 4) | omega)]; simpa using hy) (fun h₂ hs₂ e₂ => ?_) (sz (by (first | lia (splits := 0) | lia (splits := 4) | omega)))
  refine k _ mine _ h₂ s.toks _ h (.own hL fun b nb => hs₂.2 b nb) (S.setOwn hf hs (fun b nb => hs₂.2 b nb) e₂ ?_) .next
  rw [Array.toList_pop]
  have := r.take ds.length
  rw [List.take_left' rfl] at this
  rw [List.dropLast_eq_take, Array.length_toList, show vs.size - 1 = ds.length by (first | lia (splits := 0) | lia (splits := 4) | omega)]
  exact this
theorem r1_popadd {pl : Sem Bool} {x z : Str} {px pz ap cp lp bp sp : Pos} {r : PySem.Expr} {a : Addr} {ds ys : List D} {d : D} {σ₁ σ' : List (Option V)} {P : Post} (hf : X.fn = true) (lk : Lk X.vs σ x (.own a (ds ++ [d]))) (up : Up X.vs σ x (.own a ds) σ₁) (hz : ds.length ≤ 1000000 - 1)
    (b : Ev X mine σ₁ n r (.list ys)) (hy : ys.length ≤ 1000000 - 1) (up2 : Up X.vs σ₁ z (.val (.list (d :: ys))) σ') (hk : X.env.kindOf z = some .local ∨ z ∈ X.wr) (h : P .next mine σ')
    (he : eval (.Call (.Attribute (.Name x px) ("pop" : Str) ap) [] [] cp) X.env = (do
      let ov ← eval (.Name x px) X.env
      standAt ap.atName
      let (f, first) ← holding [ov] (getMethod ov ("pop" : Str) pl)
      callWith cp f first (backTo cp (starEach [] X.env)) []) := by rfl) :
    Run1 X n mine σ (.Assign [.Name z pz] (.BinOp (.List [.Call (.Attribute (.Name x px) ("pop" : Str) ap) [] [] cp] lp) .Add r bp) sp) P := fun A E s Q R S k => by
  obtain ⟨i, hx, hs, rfl⟩ := lk_up lk up S.ok.nodup
  obtain ⟨i', val, hx', hs', va, rfl, hL, n₀, vs, e₀, rr⟩ := lk.at S
  obtain ⟨j, hj, rfl⟩ := up2.index
  refine wpAny_Assign_Name (wpAny_BinOp (List_ (args_cons (MethodCall_ (wpAny_Name (load_var S.kind va ?_) (S.ok.nodbg x (List.mem_of_getElem? hx))) he) rfl)))
  refine getMethod_builtin ⟨_, e₀, rfl⟩ F.plainAttrs_list PySem.F.slot_list_pop PySem.F.type_list_pop (fun b q => by cases q; exact ⟨_, e₀, rfl⟩) (callWith_method0 ?_)
  have l := rr.length
  simp only [Array.length_toList, List.length_append, List.length_cons, List.length_nil] at l
  obtain ⟨y, hy', ry⟩ := rr.get (i := ds.length) (y := d) (by simp)
  refine Copied.pop_at e₀ (y := y) (by rw [show vs.size - 1 = ds.length by (first | lia (splits := 0) | lia (splits := 4) | omega)]; simpa using hy') (fun h₂ hs₂ e₂ => ?_) (sz (by (first | lia (splits := 0) | lia (splits := 4) | omega)))
  have but : ∀ b o, b ≠ a → s.heap.get? b = some o → h₂.get? b = some o := fun b o nb e => (hs₂.2 b nb).trans e
  have S₂ := S.setOwn hf hs (fun b nb => hs₂.2 b nb) e₂ (ds' := ds) (by
    rw [Array.toList_pop]
    have := rr.take ds.length
    rw [List.take_left' rfl] at this
    rw [List.dropLast_eq_take, Array.length_toList, show vs.size - 1 = ds.length by (first | lia (splits := 0) | lia (splits := 4) | omega)]
    exact this)
  have ry2 : Rep (X.MM mine) h₂ y d := Rep.but ry (.inr hL) but
  have mv₂ : Mv X mine s.heap mine h₂ := .own hL fun b nb => hs₂.2 b nb
  refine args_nil (wpAny_newList ?_ (by show 1 ≤ sizeLine; decide))
  have S₃ := S₂.sub (alloc_sub h₂ { cls := .type "list", data := .seq ([y] : List Value).toArray })
  have r1 : Rep (X.MM mine) (h₂.push { cls := .type "list", data := .seq ([y] : List Value).toArray }) (.ref h₂.objs.size) (.list [d]) := rep_new S₂.live (.cons ry2 .nil)
  refine b A E _ _ R S₃ fun vr h₄ t₄ k₄ S₄ rv => ?_
  refine opb_addl (W := X.W) (n := n) (xs := [d]) (ys := ys) (by simp; (first | lia (splits := 0) | lia (splits := 4) | omega)) (X.MM mine) A E _ _ _ _ R S₄.live (r1.ext k₄) rv fun v h₅ t₅ k₅ r₅ => ?_
  refine store_var (S₄.sub k₅) hj hk (u := .val _) r₅ set_val (fun _ _ e => by cases e) fun h₆ t₆ mv₆ S₆ => ?_
  exact k _ _ _ h₆ t₆ _ h ((((mv₂.tr (.of (.of (alloc_sub _ _)))).tr (.of k₄)).tr (.of (.of k₅))).tr mv₆) S₆ .next
theorem r1_reverse {pl : Sem Bool} {x : Str} {px ap cp sp : Pos} {a : Addr} {ds : List D} {σ' : List (Option V)} {P : Post} (hf : X.fn = true) (lk : Lk X.vs σ x (.own a ds)) (up : Up X.vs σ x (.own a ds.reverse) σ') (hz : ds.length ≤ 1000000) (h : P .next mine σ')
    (he : eval (.Call (.Attribute (.Name x px) ("reverse" : Str) ap) [] [] cp) X.env = (do
      let ov ← eval (.Name x px) X.env
      standAt ap.atName
      let (f, first) ← holding [ov] (getMethod ov ("reverse" : Str) pl)
      callWith cp f first (backTo cp (starEach [] X.env)) []) := by rfl) :
    Run1 X n mine σ (.Expr (.Call (.Attribute (.Name x px) ("reverse" : Str) ap) [] [] cp) sp) P := fun A E s Q R S k => by
  obtain ⟨i, hx, hs, rfl⟩ := lk_up lk up S.ok.nodup
  obtain ⟨i', val, hx', hs', va, rfl, hL, n₀, vs, e₀, r⟩ := lk.at S
  refine wpAny_Expr_any (MethodCall_ (wpAny_Name (load_var S.kind va ?_) (S.ok.nodbg x (List.mem_of_getElem? hx))) he) (inter S.kind)
  have l := r.length
  simp only [Array.length_toList] at l
  refine getMethod_builtin ⟨_, e₀, rfl⟩ F.plainAttrs_list PySem.F.slot_list_reverse PySem.F.type_list_reverse (fun b q => by cases q; exact ⟨_, e₀, rfl⟩) (callWith_method0 ?_)
  refine call_meets PySem.F.slot_list_reverse ⟨_, e₀, rfl⟩ PySem.F.entry_list_reverse (PySem.F.args_list_reverse_1 _) (PySem.AutoSeq1.list_reverse_list_0 a vs n₀ (sz (by (first | lia (splits := 0) | omega)))) ⟨e₀, ?_⟩
  have sb := Heap.SameBut.update s.heap a (Obj.mapSeq fun x => x.reverse)
  have e₃ := PySem.IsL.update e₀ (fun x => x.reverse)
  exact k _ mine _ _ s.toks _ h (.own hL fun b nb => sb.2 b nb) (S.setOwn hf hs (fun b nb => sb.2 b nb) e₃ (by rw [Array.toList_reverse]; exact r.reverse)) .next
end
end Mine
namespace Mine
section
variable {X : Cx} {mine : MS} {σ : List (Option V)} {n : Nat} {α : Type} {l : List α} {f g : α → D} {p : α → Bool} {elt iter c : PySem.Expr} {x y : Str} {px py pos p' : Pos} {scope : Scope} {ys : List Str} {caps σ' : List (Option V)} {P : Post}
theorem filterMap_some {β : Type} (l : List β) : (l.map some).filterMap id = l := by induction l with | nil => rfl | cons a l ih => simp
noncomputable def oneOf (p : α → Bool) (g : α → D) (z : α) : Option D := if p z = true then some (g z) else none
theorem oneOf_isSome {z : α} : (oneOf p g z).isSome = p z := by unfold oneOf; cases p z <;> rfl
theorem oneOf_some {z : α} {d : D} (h : oneOf p g z = some d) : p z = true ∧ g z = d := by
  unfold oneOf at h
  cases q : p z with
  | true => rw [q, if_pos rfl] at h; exact ⟨rfl, by simpa using h⟩
  | false => (first | exact (no_get q h).elim | exact (no_get h q).elim | (rw [q] at h; cases h))
theorem filterMap_if : ∀ l : List α, ((l.map (oneOf p g)).filterMap id) = (l.filter p).map g
  | [] => rfl
  | a :: l => by
    have ih := filterMap_if l
    rw [List.map_cons]
    cases h : p a with
    | true => rw [List.filterMap_cons_some (b := g a) (by simp [oneOf, h]), List.filter_cons_of_pos h, List.map_cons, ih]
    | false => rw [List.filterMap_cons_none (by simp [oneOf, h]), List.filter_cons_of_neg (by simp [h]), ih]
theorem ev_map (it : It X mine σ n iter (l.map f)) (hz : l.length ≤ 1000000) (ok : CompOk X σ scope x ys caps)
    (turn : ∀ (I D C : Addr) x', x' ∈ l → Ev (X.comp mine scope x ys I D C) (One C) (some (.val (f x')) :: caps) n elt (g x'))
    (hs : ∀ x, foldedSetIterable iter X.env x = pure x := by intro _; rfl) : Ev X mine σ n (.ListComp elt [⟨.Name x px, iter, [], 0⟩] scope pos) (.list (l.map g)) := by
  have := ev_comp (outs := (l.map g).map some) (elt := elt) (px := px) (pos := pos) (ifs := []) it (by simp) (by simpa using hz) ok (fun I D C i d o hd ho => by
    rw [List.getElem?_map, List.getElem?_map] at ho
    rw [List.getElem?_map] at hd
    cases e : l[i]? with
    | none => (first | exact (no_get e hd).elim | exact (no_get hd e).elim | (rw [e] at hd; cases hd))
    | some z =>
      rw [e] at hd ho
      cases hd
      cases ho
      exact ⟨.nil, fun d' q => by cases q; exact turn I D C z (List.mem_of_getElem? e)⟩) hs
  rwa [filterMap_some] at this
theorem ev_filter (it : It X mine σ n iter (l.map f)) (hz : l.length ≤ 1000000) (ok : CompOk X σ scope x ys caps)
    (test : ∀ (I D C : Addr) x', x' ∈ l → Tst (X.comp mine scope x ys I D C) (One C) (some (.val (f x')) :: caps) n c (p x'))
    (turn : ∀ (I D C : Addr) x', x' ∈ l → p x' = true → Ev (X.comp mine scope x ys I D C) (One C) (some (.val (f x')) :: caps) n elt (g x'))
    (hs : ∀ x, foldedSetIterable iter X.env x = pure x := by intro _; rfl) : Ev X mine σ n (.ListComp elt [⟨.Name x px, iter, [c], 0⟩] scope pos) (.list ((l.filter p).map g)) := by
  have := ev_comp (outs := l.map (oneOf p g)) (elt := elt) (px := px) (pos := pos) (ifs := [c]) it (by simp) (by simpa using hz) ok (fun I D C i d o hd ho => by
    rw [List.getElem?_map] at hd ho
    cases e : l[i]? with
    | none => (first | exact (no_get e hd).elim | exact (no_get hd e).elim | (rw [e] at hd; cases hd))
    | some z =>
      rw [e] at hd ho
      cases hd
      cases ho
      have hm := List.mem_of_getElem? e
      refine ⟨?_, fun d' q => ?_⟩
      · rw [oneOf_isSome]; exact .one (test I D C z hm)
      · obtain ⟨hp, rfl⟩ := oneOf_some q; exact turn I D C z hm hp) hs
  rwa [filterMap_if] at this
theorem r1_map (it : It X mine σ n iter (l.map f)) (hz : l.length ≤ 1000000) (ok : CompOk X σ scope x ys caps)
    (turn : ∀ (I D C : Addr) x', x' ∈ l → Ev (X.comp mine scope x ys I D C) (One C) (some (.val (f x')) :: caps) n elt (g x'))
    (hu : Up X.vs σ y (.val (.list (l.map g))) σ') (hk : X.env.kindOf y = some .local) (h : P .next mine σ')
    (hsw : swapsWith (.ListComp elt [⟨.Name x px, iter, [], 0⟩] scope pos) (some (.Name y py)) p'.line X.env = pure true)
    (hs : ∀ x, foldedSetIterable iter X.env x = pure x := by intro _; rfl) : Run1 X n mine σ (.Assign [.Name y py] (.ListComp elt [⟨.Name x px, iter, [], 0⟩] scope pos) p') P :=
  r1_comp (outs := (l.map g).map some) it (by simp) (by simpa using hz) ok (fun I D C i d o hd ho => by
    rw [List.getElem?_map, List.getElem?_map] at ho
    rw [List.getElem?_map] at hd
    cases e : l[i]? with
    | none => (first | exact (no_get e hd).elim | exact (no_get hd e).elim | (rw [e] at hd; cases hd))
    | some z =>
      rw [e] at hd ho
      cases hd
      cases ho
      exact ⟨.nil, fun d' q => by cases q; exact turn I D C z (List.mem_of_getElem? e)⟩) (by rw [filterMap_some]; exact hu) hk h hsw hs
theorem r1_filter (it : It X mine σ n iter (l.map f)) (hz : l.length ≤ 1000000) (ok : CompOk X σ scope x ys caps)
    (test : ∀ (I D C : Addr) x', x' ∈ l → Tst (X.comp mine scope x ys I D C) (One C) (some (.val (f x')) :: caps) n c (p x'))
    (turn : ∀ (I D C : Addr) x', x' ∈ l → p x' = true → Ev (X.comp mine scope x ys I D C) (One C) (some (.val (f x')) :: caps) n elt (g x'))
    (hu : Up X.vs σ y (.val (.list ((l.filter p).map g))) σ') (hk : X.env.kindOf y = some .local) (h : P .next mine σ')
    (hsw : swapsWith (.ListComp elt [⟨.Name x px, iter, [c], 0⟩] scope pos) (some (.Name y py)) p'.line X.env = pure true)
    (hs : ∀ x, foldedSetIterable iter X.env x = pure x := by intro _; rfl) : Run1 X n mine σ (.Assign [.Name y py] (.ListComp elt [⟨.Name x px, iter, [c], 0⟩] scope pos) p') P :=
  r1_comp (outs := l.map (oneOf p g)) it (by simp) (by simpa using hz) ok (fun I D C i d o hd ho => by
    rw [List.getElem?_map] at hd ho
    cases e : l[i]? with
    | none => (first | exact (no_get e hd).elim | exact (no_get hd e).elim | (rw [e] at hd; cases hd))
    | some z =>
      rw [e] at hd ho
      cases hd
      cases ho
      have hm := List.mem_of_getElem? e
      refine ⟨?_, fun d' q => ?_⟩
      · rw [oneOf_isSome]; exact .one (test I D C z hm)
      · obtain ⟨hp, rfl⟩ := oneOf_some q; exact turn I D C z hm hp) (by rw [filterMap_if]; exact hu) hk h hsw hs
end
theorem pickL_map {α β : Type} (f : α → β) (l : List α) (lo hi st : Option Int) : pickL (l.map f) lo hi st = (pickL l lo hi st).map f := by
  unfold pickL
  rw [List.length_map, List.map_filterMap]
  congr 1
  funext i
  rw [List.getElem?_map]
theorem range_pick {α : Type} (l : List α) : ∀ m, (List.range m).filterMap (l[·]?) = l.take m
  | 0 => rfl
  | m + 1 => by
    rw [List.range_succ, List.filterMap_append, range_pick l m, List.take_succ]
    cases e : l[m]? with
    | none => rw [List.filterMap_cons_none e]; rfl
    | some y => rw [List.filterMap_cons_some e]; rfl
theorem sr_up (a b : Nat) : sliceRange (a : Int) (b : Int) 1 = (List.range (b - a)).map fun k => a + k := by
  unfold sliceRange
  have e : ((if (a : Int) < b then ((b : Int) - a + 1 - 1) / 1 else 0 : Int)).toNat = b - a := by
    split
    · rw [Int.ediv_one]; (first | lia (splits := 0) | lia (splits := 4) | omega)
    · (first | lia (splits := 0) | lia (splits := 4) | omega)
  show (List.range (if (1 : Int) > 0 then (if (a : Int) < b then ((b : Int) - a + 1 - 1) / 1 else 0) else _ : Int).toNat).map _ = _
  rw [if_pos (by decide), e]
  congr 1
  funext k
  (first | lia (splits := 0) | lia (splits := 4) | omega)
theorem sr_down (n : Nat) : sliceRange ((n : Int) - 1) (-1) (-1) = (List.range n).map fun k => n - 1 - k := by
  unfold sliceRange
  have e : ((if (n : Int) - 1 > -1 then ((n : Int) - 1 - -1 - -1 - 1) / (- -1) else 0 : Int)).toNat = n := by
    split
    · rw [show (- -1 : Int) = 1 by decide, Int.ediv_one]; (first | lia (splits := 0) | lia (splits := 4) | omega)
    · (first | lia (splits := 0) | lia (splits := 4) | omega)
  show (List.range (if (-1 : Int) > 0 then _ else (if (n : Int) - 1 > -1 then ((n : Int) - 1 - -1 - -1 - 1) / (- -1) else 0) : Int).toNat).map _ = _
  rw [if_neg (by decide), e]
  apply List.map_congr_left
  intro k hk
  have := List.mem_range.mp hk
  (first | lia (splits := 0) | lia (splits := 4) | omega)
theorem pick_nat {lo hi st : Option Int} {α : Type} (l : List α) {a b : Nat} (h : sliceBounds lo hi st l.length = ((a : Int), (b : Int), 1)) : pickL l lo hi st = (l.drop a).take (b - a) := by
  unfold pickL
  rw [h]
  show (sliceRange (a : Int) (b : Int) 1).filterMap _ = _
  rw [sr_up, List.filterMap_map, ← range_pick (l.drop a)]
  congr 1
  funext k
  show l[a + k]? = (l.drop a)[k]?
  rw [List.getElem?_drop]
theorem pick_plain {lo hi : Option Int} {α : Type} (l : List α) : pickL l lo hi none = (l.drop (lo.elim 0 (clipAt l.length))).take (hi.elim l.length (clipAt l.length) - lo.elim 0 (clipAt l.length)) := pick_nat l (sliceBounds_plain lo hi l.length)
theorem clip_nat {n a : Nat} (h : a ≤ n) : clipAt n (a : Int) = a := by
  have := clipAt_cast n a
  rw [if_neg (by (first | lia (splits := 0) | lia (splits := 4) | omega))] at this
  (first | lia (splits := 0) | lia (splits := 4) | omega)
theorem clip_neg {n k : Nat} (h : 0 < k) : clipAt n (-(k : Int)) = n - k := by
  have := clipAt_cast n (-(k : Int))
  rw [if_pos (by (first | lia (splits := 0) | omega))] at this
  (first | lia (splits := 0) | omega)
theorem pick_all {α : Type} (l : List α) : pickL l none none (some 1) = l := by
  rw [pick_nat l (a := 0) (b := l.length) (by rfl)]
  simp
theorem pick_from {α : Type} (l : List α) {a : Nat} (h : a ≤ l.length) : pickL l (some (a : Int)) none none = l.drop a := by
  rw [pick_plain]
  simp only [Option.elim, clip_nat h]
  exact List.take_of_length_le (by simp)
theorem pick_to {α : Type} (l : List α) {b : Nat} (h : b ≤ l.length) : pickL l none (some (b : Int)) none = l.take b := by
  rw [pick_plain]
  simp only [Option.elim, clip_nat h]
  simp
theorem pick_run {α : Type} (l : List α) {a b : Nat} (h0 : a ≤ l.length) (h : b ≤ l.length) : pickL l (some (a : Int)) (some (b : Int)) none = (l.drop a).take (b - a) := by
  rw [pick_plain]
  simp only [Option.elim, clip_nat h, clip_nat h0]
theorem pick_last {α : Type} (l : List α) {k : Nat} (hk : 0 < k) : pickL l (some (-(k : Int))) none none = l.drop (l.length - k) := by
  rw [pick_plain]
  simp only [Option.elim, clip_neg hk]
  exact List.take_of_length_le (by simp)
theorem pick_rev {α : Type} (l : List α) : pickL l none none (some (-1)) = l.reverse := by
  unfold pickL
  rw [krv_bounds]
  show (sliceRange ((l.length : Int) - 1) (-1) (-1)).filterMap _ = _
  rw [sr_down, List.filterMap_map]
  have := range_pick l.reverse l.length
  rw [List.take_of_length_le (by simp)] at this
  rw [← this]
  have key : ∀ m, m ≤ l.length → (List.range m).filterMap ((l[·]?) ∘ fun k => l.length - 1 - k) = (List.range m).filterMap (l.reverse[·]?) := by
    intro m
    induction m with
    | zero => intro _; rfl
    | succ m ih =>
      intro hm
      rw [List.range_succ, List.filterMap_append, List.filterMap_append, ih (by (first | lia (splits := 0) | omega))]
      congr 1
      have e : (((l[·]?) ∘ fun k => l.length - 1 - k) m : Option α) = l.reverse[m]? := by
        show l[l.length - 1 - m]? = _
        rw [List.getElem?_reverse (by (first | lia (splits := 0) | omega))]
      cases q : l.reverse[m]? with
      | none => rw [List.filterMap_cons_none (e.trans q), List.filterMap_cons_none q]; rfl
      | some y => rw [List.filterMap_cons_some (e.trans q), List.filterMap_cons_some q]; rfl
  exact key _ (Nat.le_refl _)
theorem rng_nat (n : Nat) : rng 0 (n : Int) 1 = (List.range n).map fun i : Nat => D.int i := by
  unfold rng Builtin.Range.rangeSize
  have e : ((if (1 : Int) > 0 then (if 0 < (n : Int) then ((n : Int) - 0 - 1) / 1 + 1 else 0) else (if 0 > (n : Int) then (0 - (n : Int) - 1) / (-1) + 1 else 0) : Int)).toNat = n := by
    rw [if_pos (by decide)]
    split
    · rw [Int.ediv_one]; (first | lia (splits := 0) | omega)
    · (first | lia (splits := 0) | omega)
  rw [e]
  congr 1
  funext i
  congr 1
  (first | lia (splits := 0) | omega)
section
variable {X : Cx} {mine : MS} {σ : List (Option V)} {n : Nat}
theorem ev_ift {t b o : PySem.Expr} {p : Pos} {c : Bool} {d : D} (a : Tst X mine σ n t c) (h : c = true) (ht : Ev X mine σ n b d) : Ev X mine σ n (.IfExp t b o p) d := ev_if a (fun _ => ht) (fun q => by (first | exact (no_get h q).elim | exact (no_get q h).elim | (rw [h] at q; cases q)))
theorem ev_iff {t b o : PySem.Expr} {p : Pos} {c : Bool} {d : D} (a : Tst X mine σ n t c) (h : c = false) (hf : Ev X mine σ n o d) : Ev X mine σ n (.IfExp t b o p) d := ev_if a (fun q => by (first | exact (no_get h q).elim | exact (no_get q h).elim | (rw [h] at q; cases q))) (fun _ => hf)
theorem r1_ift {t : PySem.Expr} {b o : List Stmt} {p : Pos} {c : Bool} {P : Post} (a : Tst X mine σ n t c) (h : c = true) (ht : Run X n mine σ b P) : Run1 X n mine σ (.If t b o p) P := r1_if a (fun _ => ht) (fun q => by (first | exact (no_get h q).elim | exact (no_get q h).elim | (rw [h] at q; cases q)))
theorem r1_iff {t : PySem.Expr} {b o : List Stmt} {p : Pos} {c : Bool} {P : Post} (a : Tst X mine σ n t c) (h : c = false) (hf : Run X n mine σ o P) : Run1 X n mine σ (.If t b o p) P := r1_if a (fun q => by (first | exact (no_get h q).elim | exact (no_get q h).elim | (rw [h] at q; cases q))) (fun _ => hf)
end
section
variable {X : Cx} {mine : MS} {σ : List (Option V)} {n : Nat}
theorem ev_item_last {value : PySem.Expr} {k : Nat} {p p1 p2 : Pos} {ds : List D} {d : D} (a : Ev X mine σ n value (.list ds)) (hd : ds[ds.length - 1]? = some d) (hz : ds.length ≤ 1000000) : Ev X mine σ n (.Subscript value (.UnaryOp .USub (.Constant (.int 1) k p1) p2) p) d := by
  have hl : ds.length - 1 < ds.length := (List.getElem?_eq_some_iff.mp hd).1
  exact ev_item_neg a (ev_un ev_int opu_neg) (by decide) (by (first | lia (splits := 0) | lia (splits := 4) | omega)) (by rw [show (-1 + (ds.length : Int)).toNat = ds.length - 1 by (first | lia (splits := 0) | lia (splits := 4) | omega)]; exact hd) (by (first | lia (splits := 0) | lia (splits := 4) | omega))
theorem ev_ownLast {x : Str} {px p p1 p2 : Pos} {k : Nat} {ds : List D} {d : D} (lk : LkL X σ x ds) (hd : ds[ds.length - 1]? = some d) (hz : ds.length ≤ 1000000) : Ev X mine σ n (.Subscript (.Name x px) (.UnaryOp .USub (.Constant (.int 1) k p1) p2) p) d := by
  have hl : ds.length - 1 < ds.length := (List.getElem?_eq_some_iff.mp hd).1
  exact ev_ownItem_neg lk (ev_un ev_int opu_neg) (by decide) (by (first | lia (splits := 0) | omega)) (by rw [show (-1 + (ds.length : Int)).toNat = ds.length - 1 by (first | lia (splits := 0) | omega)]; exact hd) (by (first | lia (splits := 0) | omega))
theorem lkl_own {x : Str} {a : Addr} {ds : List D} (h : Lk X.vs σ x (.own a ds)) : LkL X σ x ds := .inl ⟨a, h⟩
theorem lkl_ro {x : Str} {a : Addr} {ds : List D} (h : Lk X.vs σ x (.ro a ds)) : LkL X σ x ds := .inr ⟨a, h⟩
end
section
variable {X : Cx} {mine : MS} {σ : List (Option V)} {n : Nat} {x y z : Str} {px py pz tp p p' : Pos} {k k' : Nat} {es : List PySem.Expr} {e : PySem.Expr} {P : Post} {σ' : List (Option V)}
noncomputable abbrev KOk (X : Cx) (x : Str) : Prop := X.env.kindOf x = some .local ∨ x ∈ X.wr
theorem kok2 (a : KOk X x) (b : KOk X y) : ∀ v ∈ [x, y], KOk X v := fun v hv => by rcases List.mem_cons.mp hv with rfl | hv; · exact a
                                                                                   rcases List.mem_cons.mp hv with rfl | hv; · exact b
                                                                                   cases hv
theorem kok3 (a : KOk X x) (b : KOk X y) (c : KOk X z) : ∀ v ∈ [x, y, z], KOk X v := fun v hv => by
  rcases List.mem_cons.mp hv with rfl | hv
  · exact a
  exact kok2 b c v hv
theorem r1_tupS2 (k1 : KOk X x) (k2 : KOk X y) (a : EvUL X n mine σ es (fun m us => ∃ u v, us = [u, v] ∧ ∃ σ', Ups X.vs σ [y, x] [v, u] σ' ∧ P .next m σ'))
    (hw : swappedStores [.Tuple [.Name x px, .Name y py] k tp] (.Tuple es k' p') X.env = pure (some [x, y])) : Run1 X n mine σ (.Assign [.Tuple [.Name x px, .Name y py] k tp] (.Tuple es k' p') p) P :=
  r1_tupS (kok2 k1 k2) (Nat.le_of_ble_eq_true rfl) (fun A E s Q pos R S h => a A E s Q pos R S fun vs us m h' tk ⟨u, v, e, r⟩ => h vs us m h' tk ⟨by rw [e]; rfl, by rw [e]; exact r⟩) hw
theorem r1_tupS3 (k1 : KOk X x) (k2 : KOk X y) (k3 : KOk X z) (a : EvUL X n mine σ es (fun m us => ∃ u v w, us = [u, v, w] ∧ ∃ σ', Ups X.vs σ [z, y, x] [w, v, u] σ' ∧ P .next m σ'))
    (hw : swappedStores [.Tuple [.Name x px, .Name y py, .Name z pz] k tp] (.Tuple es k' p') X.env = pure (some [x, y, z])) : Run1 X n mine σ (.Assign [.Tuple [.Name x px, .Name y py, .Name z pz] k tp] (.Tuple es k' p') p) P :=
  r1_tupS (kok3 k1 k2 k3) (Nat.le_of_ble_eq_true rfl) (fun A E s Q pos R S h => a A E s Q pos R S fun vs us m h' tk ⟨u, v, w, e, r⟩ => h vs us m h' tk ⟨by rw [e]; rfl, by rw [e]; exact r⟩) hw
theorem r1_tup2 (k1 : KOk X x) (k2 : KOk X y) (a : EvUL X n mine σ es (fun m us => ∃ u v, us = [u, v] ∧ ∃ σ', Ups X.vs σ [x, y] [u, v] σ' ∧ P .next m σ'))
    (hw : swappedStores [.Tuple [.Name x px, .Name y py] k tp] (.Tuple es k' p') X.env = pure none) : Run1 X n mine σ (.Assign [.Tuple [.Name x px, .Name y py] k tp] (.Tuple es k' p') p) P :=
  r1_tup (.cons (.cons .nil)) (kok2 k1 k2) (Nat.le_of_ble_eq_true rfl) (fun A E s Q pos R S h => a A E s Q pos R S fun vs us m h' tk ⟨u, v, e, r⟩ => h vs us m h' tk ⟨by rw [e]; rfl, by rw [e]; exact r⟩) hw
theorem r1_tup3 (k1 : KOk X x) (k2 : KOk X y) (k3 : KOk X z) (a : EvUL X n mine σ es (fun m us => ∃ u v w, us = [u, v, w] ∧ ∃ σ', Ups X.vs σ [x, y, z] [u, v, w] σ' ∧ P .next m σ'))
    (hw : swappedStores [.Tuple [.Name x px, .Name y py, .Name z pz] k tp] (.Tuple es k' p') X.env = pure none) : Run1 X n mine σ (.Assign [.Tuple [.Name x px, .Name y py, .Name z pz] k tp] (.Tuple es k' p') p) P :=
  r1_tup (.cons (.cons (.cons .nil))) (kok3 k1 k2 k3) (Nat.le_of_ble_eq_true rfl) (fun A E s Q pos R S h => a A E s Q pos R S fun vs us m h' tk ⟨u, v, w, e, r⟩ => h vs us m h' tk ⟨by rw [e]; rfl, by rw [e]; exact r⟩) hw
theorem r1_unpL2 {d₁ d₂ : D} (k1 : KOk X x) (k2 : KOk X y) (a : Ev X mine σ n e (.list [d₁, d₂])) (up : Ups X.vs σ [x, y] [.val d₁, .val d₂] σ') (h : P .next mine σ') (hs : swapsWithSole [.Tuple [.Name x px, .Name y py] k tp] e p.line X.env = pure false := by rfl) (hw : swappedStores [.Tuple [.Name x px, .Name y py] k tp] e X.env = pure none := by rfl) :
    Run1 X n mine σ (.Assign [.Tuple [.Name x px, .Name y py] k tp] e p) P := r1_unpL (.cons (.cons .nil)) (kok2 k1 k2) a rfl up h hs hw
theorem r1_unpT2 {d₁ d₂ : D} (k1 : KOk X x) (k2 : KOk X y) (a : Ev X mine σ n e (.tup [d₁, d₂])) (up : Ups X.vs σ [x, y] [.val d₁, .val d₂] σ') (h : P .next mine σ') (hs : swapsWithSole [.Tuple [.Name x px, .Name y py] k tp] e p.line X.env = pure false := by rfl) (hw : swappedStores [.Tuple [.Name x px, .Name y py] k tp] e X.env = pure none := by rfl) :
    Run1 X n mine σ (.Assign [.Tuple [.Name x px, .Name y py] k tp] e p) P := r1_unpT (.cons (.cons .nil)) (kok2 k1 k2) a rfl up h hs hw
end
theorem pick_5to2 {a b c d e : D} : pickL [a, b, c, d, e] none (some 2) none = [a, b] := pick_to (b := 2) _ (by simp)
theorem pick_5from3 {a b c d e : D} : pickL [a, b, c, d, e] (some 3) none none = [d, e] := pick_from (a := 3) _ (by simp)
theorem pick_tail {a : D} {l : List D} : pickL (a :: l) (some 1) none none = l := pick_from (a := 1) _ (by simp)
theorem pick_len {α : Type} {l : List α} {lo hi : Option Int} : (pickL l lo hi none).length ≤ l.length := by
  rw [pick_plain, List.length_take, List.length_drop]
  (first | lia (splits := 0) | omega)
end Mine
namespace Mine
local macro_rules | `(tactic| k_mem) => `(tactic| with_reducible first | exact Lk.here | exact Lk.i1 | exact Lk.i2 | exact Lk.i3 | exact Lk.i4 | exact Lk.i5 | exact Lk.i6 | exact Lk.i7 | exact Lk.i8 | exact Lk.i9 | exact Lk.i10 | exact Lk.i11 | exact Lk.i12 | (refine' Lk.there ?r2h; (case r2h => k_mem)))
local macro_rules | `(tactic| k_upd) => `(tactic| with_reducible first | exact Up.here | exact Up.i1 | exact Up.i2 | exact Up.i3 | exact Up.i4 | exact Up.i5 | exact Up.i6 | exact Up.i7 | exact Up.i8 | exact Up.i9 | exact Up.i10 | exact Up.i11 | exact Up.i12 | (refine' Up.there ?r4h; (case r4h => k_upd)) | exact Ups.nil | (refine' Ups.cons ?r5u ?r5r; (case' r5u | r5r => k_upd)))
local macro_rules | `(tactic| ktr_room) => `(tactic| first | ((with_reducible refine' Or.inr ?q12h); (case q12h => (first | (dsimp only [Cx.hold]; decide +kernel) | decide +kernel))) | ((with_reducible refine' Or.inl (Frm.kind ?r7F ?r7h)); (case r7F => assumption); (case r7h => kernel_rfl)) | exact Or.inr (by decide +kernel) | ((with_reducible refine' Frm.kind ?r8F ?r8h); (case r8F => assumption); (case r8h => kernel_rfl)) | ((with_reducible refine' kind_comp ?r9F ?r9h); (case r9F => kernel_rfl); (case r9h => decide)))
local macro_rules | `(tactic| ktd_rel) => `(tactic| assumption)
local macro_rules | `(tactic| kwd_rel) => `(tactic| with_reducible first | exact opb_add | exact opb_sub | refine' opb_mul ?w1 | refine' opb_fdiv ?w2 ?w3 | refine' opb_mod ?w4 | refine' opb_pow ?w5 ?w6 | refine' opb_shl ?w7 ?w8 | refine' opb_shr ?w9 | exact opb_xor | refine' opb_adds ?w10 | refine' opb_muls ?w11 ?w12 ?w13 | refine' opb_addl ?w14 | refine' opb_mull ?w15 ?w16 ?w17 | exact opu_neg | exact opc_lt | exact opc_gt | exact opc_le | exact opc_ge | exact opc_eq | exact opc_ne | exact opc_is | exact opc_isnot | exact opc_eqs | refine' opc_eql ?w18 ?w19 ?w20 | refine' opc_nel ?w21 ?w22 ?w23)
local macro_rules | `(tactic| ktr_rel) => `(tactic| first
  | with_reducible exact ev_int | with_reducible exact ev_str | with_reducible exact ev_bool
  | ((with_reducible refine' ev_name ?r14m); (case r14m => k_mem))
  | ((with_reducible refine' ev_bin ?r15a ?r15b ?r15c); (case' r15a | r15b => ktr_rel); (case' r15c => (kwd_rel; all_goals (try fold_lay))))
  | ((with_reducible refine' ev_un ?r16a ?r16c); (case' r16a => ktr_rel); (case' r16c => (kwd_rel; all_goals (try fold_lay))))
  | ((with_reducible refine' ev_cmp ?r17a ?r17b ?r17c ?r17m); (case' r17a | r17b => ktr_rel); (case' r17c => (kwd_rel; all_goals (try fold_lay))); (case r17m => with_unfolding_all rfl))
  | ((with_reducible refine' tst_inEtt ?q10a ?q10k ?q10m); (case' q10a => ktr_rel); (case q10k => ktr_room); (case q10m => with_unfolding_all rfl))
  | ((with_reducible refine' tst_cmp ?r18a ?r18b ?r18c ?r18m); (case' r18a | r18b => ktr_rel); (case' r18c => (kwd_rel; all_goals (try fold_lay))); (case r18m => with_unfolding_all rfl))
  | ((with_reducible refine' tst_not ?r19a); (case' r19a => ktr_rel))
  | ((with_reducible refine' ev_list ?r20a ?r20z); (case' r20a => ktr_rel); (case' r20z => (try fold_lay)))
  | ((with_reducible refine' ev_tuple ?r21a ?r21z); (case' r21a => ktr_rel); (case' r21z => (try fold_lay)))
  | with_reducible exact evl_nil
  | ((with_reducible refine' evl_cons ?r23a ?r23b ?r23e); (case' r23a | r23b => ktr_rel); (case r23e => rfl))
  | with_reducible exact Prt.none
  | ((with_reducible refine' Prt.some ?r25a); (case' r25a => ktr_rel))
  | ((with_reducible refine' ev_slice_str ?q9a ?q9b ?q9c ?q9d); (case' q9a | q9b | q9c => ktr_rel); (case' q9d => (try fold_lay)))
  | ((with_reducible refine' ev_slice ?r26a ?r26b ?r26c ?r26d ?r26z ?r26y ?r26h); (case' r26a | r26b | r26c | r26d => ktr_rel); (case' r26z => (try fold_lay)); (case r26h => (intro _ _; rfl)); (case' r26y => (try fold_lay)))
  | ((with_reducible refine' ev_item_last ?q1a ?q1d ?q1z); (case' q1a => ktr_rel); (case' q1d => (try rfl)); (case' q1z => (try fold_lay)))
  | ((with_reducible refine' ev_ownLast ?q2a ?q2d ?q2z); (case' q2a => (first | ((with_reducible refine' lkl_own ?q3h); (case q3h => k_mem)) | ((with_reducible refine' lkl_ro ?q4h); (case q4h => k_mem)))); (case' q2d => (try rfl)); (case' q2z => (try fold_lay)))
  | ((with_reducible refine' ev_item ?r27a ?r27b ?r27z ?r27y ?r27w ?r27h); (case' r27a | r27b => ktr_rel); (case r27h => (intro _ _; rfl)); (case' r27z => (try fold_lay)); (case' r27y => (try rfl)); (case' r27w => (try fold_lay)))
  | ((with_reducible refine' ev_ownItem ?q5a ?q5b ?q5z ?q5y ?q5w ?q5h); (case' q5a => (first | ((with_reducible refine' lkl_own ?q6h); (case q6h => k_mem)) | ((with_reducible refine' lkl_ro ?q7h); (case q7h => k_mem)))); (case' q5b => ktr_rel); (case q5h => (intro _ _; rfl)); (case' q5z => (try fold_lay)); (case' q5y => (try rfl)); (case' q5w => (try fold_lay)))
  | ((with_reducible refine' ev_gint ?r28v ?r28k ?r28d); (case r28v => (first | exact fun _ g => g.nt | exact fun _ g => g.em | exact fun _ g => g.dl)); (case r28k => ktr_room); (case r28d => decide +kernel))
  | ((with_reducible refine' ev_itemEtt ?q11a ?q11k ?q11x ?q11h); (case' q11a => ktr_rel); (case q11k => ktr_room); (case q11h => (intro _ _; rfl)); (case' q11x => (try assumption)))
  | ((with_reducible refine' ev_blt ?r29a (opf_len ?r29z) bb_len ?r29f ?r29k ?r29d ?r29n ?r29e ?r29p ?r29c); (case' r29a => ktr_rel); (case' r29z => (try fold_lay)); (case r29f => decide); (case r29k => ktr_room); (case r29d | r29n => decide +kernel); (case r29e | r29p | r29c => rfl))
  | ((with_reducible refine' ev_blt ?r30a (opf_lens ?r30z) bb_len ?r30f ?r30k ?r30d ?r30n ?r30e ?r30p ?r30c); (case' r30a => ktr_rel); (case' r30z => (try fold_lay)); (case r30f => decide); (case r30k => ktr_room); (case r30d | r30n => decide +kernel); (case r30e | r30p | r30c => rfl))
  | ((with_reducible refine' ev_call ?hf ?r31a ?r31i ?r31n ?r31m ?r31k ?r31d ?r31e ?r31c); (case' r31a => ktr_rel); (case hf => ktd_rel); (case r31i => decide); (case r31n => rfl); (case r31m => (first | (first | lia (splits := 0) | omega) | decide)); (case r31k => ktr_room); (case r31d => decide +kernel); (case r31e | r31c => rfl)))
local macro_rules | `(tactic| ktr_unf) => `(tactic| first | with_reducible exact Cap.nil | ((with_reducible refine' Cap.val ?r33m ?r33c); (case r33m => k_mem); (case r33c => ktr_unf)) | ((with_reducible refine' Cap.own ?r34m ?r34c); (case r34m => k_mem); (case r34c => ktr_unf)))
local macro_rules | `(tactic| ktr_units) => `(tactic| (refine' CompOk.mk ?r35a ?r35b ?r35c ?r35d ?r35e ?r35f ?r35g ?r35h ?r35i; (case r35a => (first | (dsimp only [Cx.hold]; decide +kernel) | decide +kernel)); (case r35b => decide +kernel); (case r35c => rfl); (case r35d => kernel_rfl); (case r35e | r35f | r35g | r35h => decide +kernel); (case r35i => ktr_unf)))
local macro_rules | `(tactic| fold_depth) => `(tactic| first | with_reducible exact IsNames.nil | ((with_reducible refine' IsNames.cons ?q8h); (case q8h => fold_depth)))
local macro_rules | `(tactic| fold_lay) => `(tactic| first | decide | exact Nat.le_of_ble_eq_true rfl | (first | lia (splits := 0) | omega) | (simp only [pick_5to2, pick_5from3, pick_tail, List.length_map, List.length_append, List.length_cons, List.length_nil, List.length_reverse, List.length_range, List.length_drop, List.length_take]; (first | lia (splits := 0) | omega)) | (simp; done) | (simp; (first | lia (splits := 0) | omega)))
theorem ok3 : FdOk 3 3 ["a", "b", "n", "pad", "half_n", "mask", "b1", "b2", "q1", "r", "q2"] [] where
  kind := rfl
  co := rfl
  gen := rfl
  nodup := by decide +kernel
  nodbg := by decide +kernel
  pk := by decide +kernel
  wrk := by decide +kernel
  bind := fun pm cd doc l h => by
    match l, h with
    | [a0, a1, a2], _ => rfl
theorem ok5 : FdOk 5 2 ["a", "n", "a_digits", "inner"] ["n", "a_digits", "inner"] where
  kind := rfl
  co := rfl
  gen := rfl
  nodup := by decide +kernel
  nodbg := by decide +kernel
  pk := by decide +kernel
  wrk := by decide +kernel
  bind := fun pm cd doc l h => by
    match l, h with
    | [a0, a1], _ => rfl
theorem ok6 : FdOk 6 2 ["digits", "n", "inner"] ["digits", "n", "inner"] where
  kind := rfl
  co := rfl
  gen := rfl
  nodup := by decide +kernel
  nodbg := by decide +kernel
  pk := by decide +kernel
  wrk := by decide +kernel
  bind := fun pm cd doc l h => by
    match l, h with
    | [a0, a1], _ => rfl
theorem ok7 : FdOk 7 2 ["a", "b", "n", "a_digits", "r", "q_digits", "a_digit", "q_digit", "q"] [] where
  kind := rfl
  co := rfl
  gen := rfl
  nodup := by decide +kernel
  nodbg := by decide +kernel
  pk := by decide +kernel
  wrk := by decide +kernel
  bind := fun pm cd doc l h => by
    match l, h with
    | [a0, a1], _ => rfl
theorem ok8 : FdOk 8 2 ["a", "b", "q", "r"] [] where
  kind := rfl
  co := rfl
  gen := rfl
  nodup := by decide +kernel
  nodbg := by decide +kernel
  pk := by decide +kernel
  wrk := by decide +kernel
  bind := fun pm cd doc l h => by
    match l, h with
    | [a0, a1], _ => rfl
theorem ok63 : FdOk 63 1 ["x"] [] where
  kind := rfl
  co := rfl
  gen := rfl
  nodup := by decide +kernel
  nodbg := by decide +kernel
  pk := by decide +kernel
  wrk := by decide +kernel
  bind := fun pm cd doc l h => by
    match l, h with
    | [a0], _ => rfl
theorem ok64 : FdOk 64 1 ["x"] [] where
  kind := rfl
  co := rfl
  gen := rfl
  nodup := by decide +kernel
  nodbg := by decide +kernel
  pk := by decide +kernel
  wrk := by decide +kernel
  bind := fun pm cd doc l h => by
    match l, h with
    | [a0], _ => rfl
theorem ok65 : FdOk 65 1 ["x"] [] where
  kind := rfl
  co := rfl
  gen := rfl
  nodup := by decide +kernel
  nodbg := by decide +kernel
  pk := by decide +kernel
  wrk := by decide +kernel
  bind := fun pm cd doc l h => by
    match l, h with
    | [a0], _ => rfl
theorem ok67 : FdOk 67 3 ["deal", "place", "size", "kind", "tree", "room", "part"] [] where
  kind := rfl
  co := rfl
  gen := rfl
  nodup := by decide +kernel
  nodbg := by decide +kernel
  pk := by decide +kernel
  wrk := by decide +kernel
  bind := fun pm cd doc l h => by
    match l, h with
    | [a0, a1, a2], _ => rfl
theorem ok68 : FdOk 68 2 ["tree", "signs", "texts"] ["signs"] where
  kind := rfl
  co := rfl
  gen := rfl
  nodup := by decide +kernel
  nodbg := by decide +kernel
  pk := by decide +kernel
  wrk := by decide +kernel
  bind := fun pm cd doc l h => by
    match l, h with
    | [a0, a1], _ => rfl
theorem ok69 : FdOk 69 2 ["text", "place", "width"] [] where
  kind := rfl
  co := rfl
  gen := rfl
  nodup := by decide +kernel
  nodbg := by decide +kernel
  pk := by decide +kernel
  wrk := by decide +kernel
  bind := fun pm cd doc l h => by
    match l, h with
    | [a0, a1], _ => rfl
theorem ok70 : FdOk 70 1 ["text", "pile", "parts", "place", "turn", "symbol", "width", "held"] ["parts"] where
  kind := rfl
  co := rfl
  gen := rfl
  nodup := by decide +kernel
  nodbg := by decide +kernel
  pk := by decide +kernel
  wrk := by decide +kernel
  bind := fun pm cd doc l h => by
    match l, h with
    | [a0], _ => rfl
theorem ok71 : FdOk 71 2 ["steps", "order"] [] where
  kind := rfl
  co := rfl
  gen := rfl
  nodup := by decide +kernel
  nodbg := by decide +kernel
  pk := by decide +kernel
  wrk := by decide +kernel
  bind := fun pm cd doc l h => by
    match l, h with
    | [a0, a1], _ => rfl
theorem ok72 : FdOk 72 2 ["way", "turn"] [] where
  kind := rfl
  co := rfl
  gen := rfl
  nodup := by decide +kernel
  nodbg := by decide +kernel
  pk := by decide +kernel
  wrk := by decide +kernel
  bind := fun pm cd doc l h => by
    match l, h with
    | [a0, a1], _ => rfl
theorem ok73 : FdOk 73 1 ["tree", "ways", "one", "two", "about"] [] where
  kind := rfl
  co := rfl
  gen := rfl
  nodup := by decide +kernel
  nodbg := by decide +kernel
  pk := by decide +kernel
  wrk := by decide +kernel
  bind := fun pm cd doc l h => by
    match l, h with
    | [a0], _ => rfl
theorem ok74 : FdOk 74 1 ["steps", "heights", "step"] [] where
  kind := rfl
  co := rfl
  gen := rfl
  nodup := by decide +kernel
  nodbg := by decide +kernel
  pk := by decide +kernel
  wrk := by decide +kernel
  bind := fun pm cd doc l h => by
    match l, h with
    | [a0], _ => rfl
theorem ok75 : FdOk 75 1 ["steps", "heights", "figures", "middle", "k", "spots", "tree", "second", "step", "inner"] ["heights", "middle"] where
  kind := rfl
  co := rfl
  gen := rfl
  nodup := by decide +kernel
  nodbg := by decide +kernel
  pk := by decide +kernel
  wrk := by decide +kernel
  bind := fun pm cd doc l h => by
    match l, h with
    | [a0], _ => rfl
theorem ok76 : FdOk 76 1 ["tree", "one", "two"] [] where
  kind := rfl
  co := rfl
  gen := rfl
  nodup := by decide +kernel
  nodbg := by decide +kernel
  pk := by decide +kernel
  wrk := by decide +kernel
  bind := fun pm cd doc l h => by
    match l, h with
    | [a0], _ => rfl
theorem ok77 : FdOk 77 5 ["steps", "deal", "size", "margin", "signs", "heights", "lines", "k", "left", "lead", "seed", "part"] [] where
  kind := rfl
  co := rfl
  gen := rfl
  nodup := by decide +kernel
  nodbg := by decide +kernel
  pk := by decide +kernel
  wrk := by decide +kernel
  bind := fun pm cd doc l h => by
    match l, h with
    | [a0, a1, a2, a3, a4], _ => rfl
theorem ok78 : FdOk 78 3 ["lines", "size", "margin", "steps", "depth", "line", "lead", "after", "rest"] [] where
  kind := rfl
  co := rfl
  gen := rfl
  nodup := by decide +kernel
  nodbg := by decide +kernel
  pk := by decide +kernel
  wrk := by decide +kernel
  bind := fun pm cd doc l h => by
    match l, h with
    | [a0, a1, a2], _ => rfl
theorem ok79 : FdOk 79 1 ["steps", "row", "number"] ["row"] where
  kind := rfl
  co := rfl
  gen := rfl
  nodup := by decide +kernel
  nodbg := by decide +kernel
  pk := by decide +kernel
  wrk := by decide +kernel
  bind := fun pm cd doc l h => by
    match l, h with
    | [a0], _ => rfl
theorem ok80 : FdOk 80 1 ["number", "figures"] ["number"] where
  kind := rfl
  co := rfl
  gen := rfl
  nodup := by decide +kernel
  nodbg := by decide +kernel
  pk := by decide +kernel
  wrk := by decide +kernel
  bind := fun pm cd doc l h => by
    match l, h with
    | [a0], _ => rfl
theorem ok81 : FdOk 81 1 ["script", "base", "sums", "span", "edge", "table", "drawn", "due", "told", "high", "bits"] ["script", "base"] where
  kind := rfl
  co := rfl
  gen := rfl
  nodup := by decide +kernel
  nodbg := by decide +kernel
  pk := by decide +kernel
  wrk := by decide +kernel
  bind := fun pm cd doc l h => by
    match l, h with
    | [a0], _ => rfl
theorem f63 {W : Wd} {x : Int} : Fn W (fd 63).name [.int x] (.bool (decide (x < 256))) 3 := by
  refine fn_of_run (vs := ["x"]) (wr := []) (σ := [some (.val (.int x))]) ok63 (by decide) rfl (by decide) rfl fun env h₀ M₀ mine F => ?_
  refine run_cons (r1_return (by ktr_rel) rfl)
theorem f64 {W : Wd} {x : Int} : Fn W (fd 64).name [.int x] (.bool (decide (256 ≤ x))) 3 := by
  refine fn_of_run (vs := ["x"]) (wr := []) (σ := [some (.val (.int x))]) ok64 (by decide) rfl (by decide) rfl fun env h₀ M₀ mine F => ?_
  refine run_cons (r1_return (by ktr_rel) rfl)
theorem f65 {W : Wd} {x : Int} : Fn W (fd 65).name [.int x] (.bool (x == 0)) 3 := by
  refine fn_of_run (vs := ["x"]) (wr := []) (σ := [some (.val (.int x))]) ok65 (by decide) rfl (by decide) rfl fun env h₀ M₀ mine F => ?_
  refine run_cons (r1_return (by ktr_rel) rfl)
noncomputable abbrev Stp := Int × Int
noncomputable abbrev stepD (p : Stp) : D := .list [.int p.1, .int p.2]
noncomputable abbrev stepsD (l : List Stp) : D := .list (l.map stepD)
noncomputable def hAt (l : List Stp) (i : Nat) : Int := ((l.take i).map (·.1)).sum
noncomputable def hts (l : List Stp) : List Int := (List.range (l.length + 1)).map (hAt l)
theorem hAt_succ {l : List Stp} {i : Nat} {p : Stp} (h : l[i]? = some p) : hAt l (i + 1) = hAt l i + p.1 := by
  unfold hAt
  have e : l.take (i + 1) = l.take i ++ [p] := by rw [List.take_succ, h]; rfl
  rw [e, List.map_append, List.sum_append]
  simp
theorem f74 {W : Wd} {l : List Stp} (hz : l.length ≤ 1000) : Fn W (fd 74).name [stepsD l] (.list (intD (hts l))) 3 := by
  refine fn_of_run (vs := ["steps", "heights", "step"]) (wr := []) (σ := [some (.val (stepsD l)), none, none]) ok74 (by decide) rfl (by decide) rfl fun env h₀ M₀ mine F => ?_
  refine run_cons (r1_new (evn_list (by ktr_rel)) (by ktr_room) fun a => ex_up (by k_upd) ?_)
  refine run_cons (r1_for (ds := l.map stepD) (fun i m σ' => ∃ u, σ' = [some (.val (stepsD l)), some (.own a (intD ((List.range (i + 1)).map (hAt l)))), u]) rfl (by ktr_room) (it_list (by ktr_rel)) ⟨_, rfl⟩ ?_ ?_)
  · rintro I i d m σ' hd ⟨u, rfl⟩
    obtain ⟨p, hp, rfl⟩ : ∃ p, l[i]? = some p ∧ stepD p = d := by simpa [Option.map_eq_some_iff] using hd
    have hi : i < l.length := (List.getElem?_eq_some_iff.mp hp).1
    refine ex_up (by k_upd) ?_
    refine run_cons (r1_append (d := .int (hAt l (i + 1))) (a := a) (ds := intD ((List.range (i + 1)).map (hAt l))) rfl (by k_mem) ?_ (by k_upd) (by simp [intD]; (first | lia (splits := 0) | lia (splits := 4) | omega)) (run_nil ?_))
    · refine (ev_bin (ev_ownItem_neg (d := .int (hAt l i)) (.inl ⟨a, by k_mem⟩) (by ktr_rel) ?_ ?_ ?_) (ev_item (ds := [.int p.1, .int p.2]) (d := .int p.1) (by ktr_rel) (by ktr_rel) ?_ ?_) opb_add).cast ?_
      · decide
      · simp only [intD, List.length_map, List.length_range]; (first | lia (splits := 0) | lia (splits := 4) | omega)
      · simp only [intD, List.length_map, List.length_range, List.getElem?_map]
        rw [show (-1 + ((i + 1 : Nat) : Int)).toNat = i by (first | lia (splits := 0) | lia (splits := 4) | omega), List.getElem?_range (by (first | lia (splits := 0) | lia (splits := 4) | omega))]
        rfl
      · decide
      · rfl
      · show D.int (hAt l i + p.1) = _; rw [hAt_succ hp]
    · exact ⟨some (.val (stepD p)), by simp [intD, List.range_succ]⟩
  · rintro m σ' ⟨u, rfl⟩
    refine run_freeze rfl (x := "heights") (by k_mem) (by k_upd) ?_
    refine run_cons (r1_return (by ktr_rel) ?_)
    simp [hts]
noncomputable def tn (l : List Stp) : List Stp := l.map fun p => (-p.1, p.2)
theorem tn_length {l : List Stp} : (tn l).length = l.length := by simp [tn]
theorem f71 {W : Wd} {l l' : List Stp} {o : Int} (hz : l.length ≤ 1000) (hz' : l'.length ≤ 1000) (h0 : o ≠ 0) (hl : pickL l none none (some o) = l') : Fn W (fd 71).name [stepsD l, .int o] (stepsD (tn l')) 3 := by
  refine fn_of_run (vs := ["steps", "order"]) (wr := []) (σ := [some (.val (stepsD l)), some (.val (.int o))]) ok71 (by decide) rfl (by decide) rfl fun env h₀ M₀ mine F => ?_
  refine' run_cons (r1_return (ev_map (ys := []) (l := l') (f := stepD) (g := fun p => stepD (-p.1, p.2)) (it_list (Ev.cast ?a ?b)) ?zz ?ok ?t) ?p)
  case' a => ktr_rel
  case ok => ktr_units
  case p => simp [tn]
  case t =>
    intro I D C p hp
    refine' Ev.cast ?a2 ?b2
    case' a2 => ktr_rel
    all_goals first | rfl | (simp; done)
  case b => rw [pickL_map, hl]
  all_goals first | (first | lia (splits := 0) | omega) | (simp; (first | lia (splits := 0) | omega)) | (intro q; injection q with q; exact h0 q)
theorem f71a {W : Wd} {l : List Stp} (hz : l.length ≤ 1000) : Fn W (fd 71).name [stepsD l, .int 1] (stepsD (tn l)) 3 := f71 hz hz (by decide) (pick_all l)
theorem f71b {W : Wd} {l : List Stp} (hz : l.length ≤ 1000) : Fn W (fd 71).name [stepsD l, .int (-1)] (stepsD (tn l.reverse)) 3 := f71 hz (by simpa using hz) (by decide) (pick_rev l)
structure Way where
  n : Int
  up : List Stp
  mid : List Stp
  op : Int
  dn : List Stp
noncomputable abbrev Way.D (w : Way) : D := .list [.int w.n, stepsD w.up, stepsD w.mid, .int w.op, stepsD w.dn]
noncomputable def whole (w : Way) (t : Int) : List Stp := if w.n = 0 then w.mid else w.up ++ w.mid ++ [(t, w.op)] ++ (if t = 1 then w.dn else tn w.dn.reverse)
theorem f72 {W : Wd} {w : Way} {t : Int} (h1 : w.up.length ≤ 100) (h2 : w.mid.length ≤ 100) (h3 : w.dn.length ≤ 100) : Fn W (fd 72).name [w.D, .int t] (stepsD (whole w t)) 5 := by
  refine fn_of_run (vs := ["way", "turn"]) (wr := []) (σ := [some (.val w.D), some (.val (.int t))]) ok72 (by decide) rfl (by decide) rfl fun env h₀ M₀ mine F => ?_
  have c71 : ∀ W, Fn W (fd 71).name [stepsD w.dn, .int (-1)] (stepsD (tn w.dn.reverse)) 3 := fun W => f71b (by (first | lia (splits := 0) | omega))
  by_cases hn : w.n = 0
  · refine' run_cons (r1_ift ?a1 ?h1 (run_cons (r1_return ?d1 ?p1)))
    case' a1 => ktr_rel
    case' d1 => ktr_rel
    case' h1 => simpa using hn
    case' p1 => rw [whole, if_pos hn]
  · by_cases ht : t = 1
    · refine' run_cons (r1_iff ?a2 ?h2 (run_nil (run_cons (r1_return (Ev.cast (ev_bin ?x2 (ev_ift ?a3 ?h3 ?d3) ?o2) ?e2) ?p2))))
      case' a2 => ktr_rel
      case' x2 => ktr_rel
      case' a3 => ktr_rel
      case' d3 => ktr_rel
      case' o2 => kwd_rel
      case' h2 => simpa using hn
      case' p2 => rw [whole, if_neg hn, if_pos ht]
      case' e2 => simp
      case h3 => simpa using ht
      all_goals (simp <;> (first | lia (splits := 0) | omega))
    · refine' run_cons (r1_iff ?a4 ?h4 (run_nil (run_cons (r1_return (Ev.cast (ev_bin ?x4 (ev_iff ?a5 ?h5 (ev_call (i := 71) (c71 _) ?d5 (by decide) rfl (by decide) ?k5)) ?o4) ?e4) ?p4))))
      case' a4 => ktr_rel
      case' x4 => ktr_rel
      case' a5 => ktr_rel
      case' d5 => ktr_rel
      case' k5 => ktr_room
      case' o4 => kwd_rel
      case' h4 => simpa using hn
      case' p4 => rw [whole, if_neg hn, if_neg ht]
      case' e4 => simp
      case h5 => simpa using ht
      all_goals (simp [tn] <;> (first | lia (splits := 0) | omega))
inductive Tr where
  | x
  | un (o : Int) (t : Tr)
  | bi (o : Int) (l r : Tr)
noncomputable def Tr.D : Tr → Mine.D
  | .x => .list []
  | .un o t => .list [.int o, t.D]
  | .bi o l r => .list [.int o, l.D, r.D]
noncomputable def Tr.ops : Tr → Nat
  | .x => 0
  | .un _ t => t.ops + 1
  | .bi _ l r => l.ops + r.ops + 1
noncomputable def Tr.parts : Tr → List Tr
  | .x => []
  | .un _ t => [t]
  | .bi _ l r => [l, r]
noncomputable def Tr.isx : Tr → Bool
  | .x => true
  | _ => false
theorem Tr.lay : ∀ t : Tr, t.D.py.canLay0 = true ∧ t.D.py.depth ≤ t.ops + 1
  | .x => by simp [Tr.D, D.py, pyL, PyData.canLay0, PyData.canLayAll0, PyData.depth, PyData.depthAll, Tr.ops]
  | .un o t => by
    obtain ⟨a, b⟩ := t.lay
    simp only [Tr.D, D.py, pyL, PyData.canLay0, PyData.canLayAll0, PyData.depth, PyData.depthAll, Tr.ops, a, Bool.and_true, true_and]
    (first | lia (splits := 0) | lia (splits := 4) | omega)
  | .bi o l r => by
    obtain ⟨a, b⟩ := l.lay
    obtain ⟨c, d⟩ := r.lay
    simp only [Tr.D, D.py, pyL, PyData.canLay0, PyData.canLayAll0, PyData.depth, PyData.depthAll, Tr.ops, a, c, Bool.and_true, true_and]
    (first | lia (splits := 0) | lia (splits := 4) | omega)
theorem Tr.shaped {t : Tr} (h : t.ops ≤ 40) : SeqAt.shaped t.D.py = true := by
  obtain ⟨a, b⟩ := t.lay
  unfold SeqAt.shaped
  rw [a, decide_eq_true (by (first | lia (splits := 0) | omega))]
  rfl
theorem Tr.eqv_nil (t : Tr) : PyData.eqv t.D.py (D.list []).py = t.isx := by
  cases t <;> simp [Tr.D, D.py, pyL, PyData.eqv, PyData.eqvAll, Tr.isx]
theorem shaped_nil : SeqAt.shaped (D.list []).py = true := by decide +kernel
theorem Tr.D_list (t : Tr) : t.D = .list (match t with | .x => [] | .un o t => [.int o, t.D] | .bi o l r => [.int o, l.D, r.D]) := by cases t <;> rfl
noncomputable def way : Tr → Way
  | .x => ⟨0, [], [], 0, []⟩
  | .un o t => ⟨(way t).n, (way t).up, (0, o) :: (way t).mid, (way t).op, (way t).dn⟩
  | .bi o l r =>
    if (way l).n = (way r).n then ⟨(way l).n + 1, whole (way l) 1 ++ [(1, o)], [], o, whole (way r) 1⟩
    else if (way r).n < (way l).n then ⟨(way l).n, (way l).up, (((1, o) :: whole (way r) (-1)) ++ [(-1, o)]) ++ (way l).mid, (way l).op, (way l).dn⟩
    else ⟨(way r).n, (way r).up, (((-1, o) :: tn (whole (way l) (-1))) ++ [(1, o)]) ++ (way r).mid, (way r).op, (way r).dn⟩
theorem whole_length (w : Way) (k : Int) : (whole w k).length ≤ w.up.length + w.mid.length + w.dn.length + (if w.n = 0 then 0 else 1) := by
  unfold whole
  split
  · (first | lia (splits := 0) | omega)
  · simp only [List.length_append, List.length_cons, List.length_nil]
    split <;> simp [tn_length] <;> (first | lia (splits := 0) | omega)
theorem way_n : ∀ t : Tr, 0 ≤ (way t).n
  | .x => by simp [way]
  | .un o t => by simp only [way]; exact way_n t
  | .bi o l r => by
    have a := way_n l
    have b := way_n r
    rw [way]
    split
    · simp only; (first | lia (splits := 0) | omega)
    · split <;> simp only <;> assumption
theorem way_length : ∀ t : Tr, (way t).up.length + (way t).mid.length + (way t).dn.length + (if (way t).n = 0 then 0 else 1) ≤ 2 * t.ops
  | .x => by simp [way, Tr.ops]
  | .un o t => by
    have := way_length t
    rw [show way (.un o t) = ⟨(way t).n, (way t).up, (0, o) :: (way t).mid, (way t).op, (way t).dn⟩ from rfl]
    dsimp only
    simp only [List.length_cons, Tr.ops]
    (first | lia (splits := 0) | lia (splits := 4) | omega)
  | .bi o l r => by
    have a := way_length l
    have b := way_length r
    have na := way_n l
    have a1 := whole_length (way l) 1
    have a2 := whole_length (way l) (-1)
    have b1 := whole_length (way r) 1
    have b2 := whole_length (way r) (-1)
    rw [way]
    simp only [Tr.ops]
    split
    · rw [if_neg (by simp only; (first | lia (splits := 0) | lia (splits := 4) | omega))]
      simp only [List.length_append, List.length_cons, List.length_nil]
      (first | lia (splits := 0) | lia (splits := 4) | omega)
    · split
      · simp only [List.length_append, List.length_cons, List.length_nil]
        (first | lia (splits := 0) | lia (splits := 4) | omega)
      · simp only [List.length_append, List.length_cons, List.length_nil, tn_length]
        (first | lia (splits := 0) | lia (splits := 4) | omega)
theorem whole_way_length (t : Tr) (k : Int) : (whole (way t) k).length ≤ 2 * t.ops := Nat.le_trans (whole_length _ _) (way_length t)
theorem f73x {W : Wd} : Fn W (fd 73).name [Tr.x.D] (way .x).D 9 := by
  refine fn_of_run (vs := ["tree", "ways", "one", "two", "about"]) (wr := []) (σ := [some (.val Tr.x.D), none, none, none, none]) ok73 (by decide) rfl (by decide) rfl fun env h₀ M₀ mine F => ?_
  refine' run_cons (r1_ift (tst_cmp ?a1 ?b1 (opc_eql (n := 0) (Tr.shaped (t := .x) (by decide)) shaped_nil (Tr.eqv_nil .x))) rfl (run_cons (r1_return (Ev.cast ?d1 ?e1) ?p1)))
  case' a1 => ktr_rel
  case' b1 => ktr_rel
  case' d1 => ktr_rel
  case' p1 => rfl
  all_goals rfl
theorem f73u {W : Wd} {o : Int} {t : Tr} (hz : t.ops < 20) (ih : Fn W (fd 73).name [t.D] (way t).D (t.ops + 9)) : Fn W (fd 73).name [(Tr.un o t).D] (way (.un o t)).D (t.ops + 1 + 9) := by
  have l1 := way_length t
  refine fn_of_run (vs := ["tree", "ways", "one", "two", "about"]) (wr := []) (σ := [some (.val (.list [.int o, t.D])), none, none, none, none]) ok73 (by decide) rfl (by decide) rfl fun env h₀ M₀ mine F => ?_
  refine' run_cons (r1_iff (tst_cmp ?a1 ?b1 (opc_eql (a := .list [.int o, t.D]) (b := .list []) (n := t.ops + 1) (Tr.shaped (t := .un o t) (by simp only [Tr.ops]; (first | lia (splits := 0) | omega))) shaped_nil (Tr.eqv_nil (.un o t)))) rfl (run_nil (run_cons (r1_map (ys := []) (l := [t]) (f := Tr.D) (g := fun t => (way t).D) (it_list (Ev.cast ?i1 ?j1)) ?z1 ?ok1 ?t1 ?u1 ?k1 ?n1 ?s1))))
  case' a1 => ktr_rel
  case' b1 => ktr_rel
  case' i1 => ktr_rel
  case' j1 => kernel_rfl
  case' ok1 => ktr_units
  case t1 =>
    intro I D C t' ht
    obtain rfl : t' = t := by simpa using ht
    refine' ev_call (i := 73) ih ?a2 (by decide) rfl (by (first | lia (splits := 0) | omega)) ?k2
    case' a2 => ktr_rel
    case' k2 => ktr_room
  case' u1 => k_upd
  case' k1 => ktr_room
  case' s1 => exact (swaps_scope (env' := envAt (fd 73).scope) F.sc).trans (by kernel_rfl)
  case n1 =>
    refine' run_cons (r1_tupS2 ?k3 ?k4 (eul_val ?a3 (eul_val ?b3 (eul_nil ⟨_, _, rfl, ex_ups ?u3 ?n3⟩))) ?w3)
    case' a3 => ktr_rel
    case' b3 => ktr_rel
    case' k3 => ktr_room
    case' k4 => ktr_room
    case' w3 => exact (swapped_scope (env' := envAt (fd 73).scope) F.sc).trans (by kernel_rfl)
    case' u3 => k_upd
    case n3 =>
      refine' run_cons (r1_ift ?a4 rfl (run_cons (r1_return ?d4 ?p4)))
      case' a4 => ktr_rel
      case' d4 => ktr_rel
      case' p4 => exact congrArg FlowD.ret (by rw [pick_5to2, pick_5from3]; rfl)
      all_goals first | rfl | fold_lay
  all_goals fold_lay
theorem f73b {W : Wd} {o : Int} {l r : Tr} (hz : l.ops + r.ops < 20) (il : Fn W (fd 73).name [l.D] (way l).D (l.ops + 9)) (ir : Fn W (fd 73).name [r.D] (way r).D (r.ops + 9)) : Fn W (fd 73).name [(Tr.bi o l r).D] (way (.bi o l r)).D (l.ops + r.ops + 1 + 9) := by
  have ll := way_length l
  have lr := way_length r
  have wl1 := whole_way_length l 1
  have wl2 := whole_way_length l (-1)
  have wr1 := whole_way_length r 1
  have wr2 := whole_way_length r (-1)
  have cl1 : ∀ W, Fn W (fd 72).name [(way l).D, .int 1] (stepsD (whole (way l) 1)) 5 := fun W => f72 (by (first | lia (splits := 0) | lia (splits := 4) | omega)) (by (first | lia (splits := 0) | lia (splits := 4) | omega)) (by (first | lia (splits := 0) | lia (splits := 4) | omega))
  have cl2 : ∀ W, Fn W (fd 72).name [(way l).D, .int (-1)] (stepsD (whole (way l) (-1))) 5 := fun W => f72 (by (first | lia (splits := 0) | lia (splits := 4) | omega)) (by (first | lia (splits := 0) | lia (splits := 4) | omega)) (by (first | lia (splits := 0) | lia (splits := 4) | omega))
  have cr1 : ∀ W, Fn W (fd 72).name [(way r).D, .int 1] (stepsD (whole (way r) 1)) 5 := fun W => f72 (by (first | lia (splits := 0) | lia (splits := 4) | omega)) (by (first | lia (splits := 0) | lia (splits := 4) | omega)) (by (first | lia (splits := 0) | lia (splits := 4) | omega))
  have cr2 : ∀ W, Fn W (fd 72).name [(way r).D, .int (-1)] (stepsD (whole (way r) (-1))) 5 := fun W => f72 (by (first | lia (splits := 0) | lia (splits := 4) | omega)) (by (first | lia (splits := 0) | lia (splits := 4) | omega)) (by (first | lia (splits := 0) | lia (splits := 4) | omega))
  have ct : ∀ W, Fn W (fd 71).name [stepsD (whole (way l) (-1)), .int 1] (stepsD (tn (whole (way l) (-1)))) 3 := fun W => f71a (by (first | lia (splits := 0) | lia (splits := 4) | omega))
  have tl : (tn (whole (way l) (-1))).length = (whole (way l) (-1)).length := tn_length
  have hw : way (.bi o l r) = (if (way l).n = (way r).n then ⟨(way l).n + 1, whole (way l) 1 ++ [(1, o)], [], o, whole (way r) 1⟩
    else if (way r).n < (way l).n then ⟨(way l).n, (way l).up, (((1, o) :: whole (way r) (-1)) ++ [(-1, o)]) ++ (way l).mid, (way l).op, (way l).dn⟩
    else ⟨(way r).n, (way r).up, (((-1, o) :: tn (whole (way l) (-1))) ++ [(1, o)]) ++ (way r).mid, (way r).op, (way r).dn⟩) := rfl
  refine fn_of_run (vs := ["tree", "ways", "one", "two", "about"]) (wr := []) (σ := [some (.val (.list [.int o, l.D, r.D])), none, none, none, none]) ok73 (by decide) rfl (by decide) rfl fun env h₀ M₀ mine F => ?_
  refine' run_cons (r1_iff (tst_cmp ?a1 ?b1 (opc_eql (a := .list [.int o, l.D, r.D]) (b := .list []) (n := l.ops + r.ops + 1) (Tr.shaped (t := .bi o l r) (by simp only [Tr.ops]; (first | lia (splits := 0) | lia (splits := 4) | omega))) shaped_nil (Tr.eqv_nil (.bi o l r)))) rfl (run_nil (run_cons (r1_map (ys := []) (l := [l, r]) (f := Tr.D) (g := fun t => (way t).D) (it_list (Ev.cast ?i1 ?j1)) ?z1 ?ok1 ?t1 ?u1 ?k1 ?n1 ?s1))))
  case' a1 => ktr_rel
  case' b1 => ktr_rel
  case' i1 => ktr_rel
  case' j1 => kernel_rfl
  case' ok1 => ktr_units
  case t1 =>
    intro I D C t' ht
    rcases List.mem_cons.mp ht with rfl | ht
    · refine' ev_call (i := 73) il ?a2 (by decide) rfl (by (first | lia (splits := 0) | lia (splits := 4) | omega)) ?k2
      case' a2 => ktr_rel
      case' k2 => ktr_room
    · obtain rfl : t' = r := by simpa using ht
      refine' ev_call (i := 73) ir ?a9 (by decide) rfl (by (first | lia (splits := 0) | lia (splits := 4) | omega)) ?k9
      case' a9 => ktr_rel
      case' k9 => ktr_room
  case' u1 => k_upd
  case' k1 => ktr_room
  case' s1 => exact (swaps_scope (env' := envAt (fd 73).scope) F.sc).trans (by kernel_rfl)
  case n1 =>
    refine' run_cons (r1_tupS2 ?k3 ?k4 (eul_val ?a3 (eul_val ?b3 (eul_nil ⟨_, _, rfl, ex_ups ?u3 ?n3⟩))) ?w3)
    case' a3 => ktr_rel
    case' b3 => ktr_rel
    case' k3 => ktr_room
    case' k4 => ktr_room
    case' w3 => exact (swapped_scope (env' := envAt (fd 73).scope) F.sc).trans (by kernel_rfl)
    case' u3 => k_upd
    case n3 =>
      refine' run_cons (r1_iff ?a4 rfl (run_nil ?n4))
      case' a4 => ktr_rel
      case n4 =>
      by_cases he : (way l).n = (way r).n
      · refine' run_cons (r1_ift ?a5 ?h5 (run_cons (r1_return ?d5 ?p5)))
        case' a5 => ktr_rel
        case' h5 => simpa using he
        case' d5 => refine' ev_list (evl_cons ?a6 (evl_cons (ev_bin (ev_call (i := 72) (cl1 _) ?b6 (by decide) rfl (by (first | lia (splits := 0) | lia (splits := 4) | omega)) ?k6) ?c6 ?o6) (evl_cons ?d6 (evl_cons ?e6 (evl_cons (ev_call (i := 72) (cr1 _) ?f6 (by decide) rfl (by (first | lia (splits := 0) | lia (splits := 4) | omega)) ?k7) evl_nil))))) ?z6
        case' a6 => ktr_rel
        case' b6 => ktr_rel
        case' c6 => ktr_rel
        case' d6 => ktr_rel
        case' e6 => ktr_rel
        case' f6 => ktr_rel
        case' k6 => ktr_room
        case' k7 => ktr_room
        case' o6 => kwd_rel
        case' p5 => exact congrArg FlowD.ret (by rw [hw, if_pos he]; simp [Way.D])
        all_goals fold_lay
      · refine' run_cons (r1_iff ?a10 ?h10 (run_nil ?n10))
        case' a10 => ktr_rel
        case' h10 => simpa using he
        case n10 =>
        by_cases hg : (way r).n < (way l).n
        · refine' run_cons (r1_ift ?a11 ?h11 (run_cons (r1_assign (ev_bin (ev_bin ?b11 (ev_call (i := 72) (cr2 _) ?c11 (by decide) rfl (by (first | lia (splits := 0) | lia (splits := 4) | omega)) ?k11) ?o11) ?d11 ?o12) ?u11 ?q11 (run_cons (r1_return ?d12 ?p12)))))
          case' a11 => ktr_rel
          case' h11 => simpa using hg
          case' b11 => ktr_rel
          case' c11 => ktr_rel
          case' k11 => ktr_room
          case' o11 => kwd_rel
          case' d11 => ktr_rel
          case' o12 => kwd_rel
          case' u11 => k_upd
          case' q11 => ktr_room
          case' d12 => ktr_rel
          case' p12 => exact congrArg FlowD.ret (by rw [hw, if_neg he, if_pos hg, pick_5to2, pick_5from3]; simp [Way.D])
          all_goals fold_lay
        · refine' run_cons (r1_iff ?a13 ?h13 (run_nil (run_cons (r1_assign (ev_bin (ev_bin ?b13 (ev_call (i := 71) (ct _) (evl_cons (ev_call (i := 72) (cl2 _) ?c13 (by decide) rfl (by (first | lia (splits := 0) | lia (splits := 4) | omega)) ?k13) ?c14) (by decide) rfl (by (first | lia (splits := 0) | lia (splits := 4) | omega)) ?k14) ?o13) ?d13 ?o14) ?u13 ?q13 (run_cons (r1_return ?d14 ?p14))))))
          case' a13 => ktr_rel
          case' h13 => simpa using hg
          case' b13 => ktr_rel
          case' c13 => ktr_rel
          case' k13 => ktr_room
          case' c14 => ktr_rel
          case' k14 => ktr_room
          case' o13 => kwd_rel
          case' d13 => ktr_rel
          case' o14 => kwd_rel
          case' u13 => k_upd
          case' q13 => ktr_room
          case' d14 => ktr_rel
          case' p14 => exact congrArg FlowD.ret (by rw [hw, if_neg he, if_neg hg, pick_5to2, pick_5from3]; simp [Way.D])
          all_goals fold_lay
    all_goals fold_lay
  all_goals fold_lay
theorem f73 {W : Wd} : ∀ {t : Tr}, t.ops ≤ 20 → Fn W (fd 73).name [t.D] (way t).D (t.ops + 9)
  | .x, _ => f73x
  | .un o t, h => f73u (by simp only [Tr.ops] at h; (first | lia (splits := 0) | omega)) (f73 (by simp only [Tr.ops] at h; (first | lia (splits := 0) | omega)))
  | .bi o l r, h => f73b (by simp only [Tr.ops] at h; (first | lia (splits := 0) | omega)) (f73 (by simp only [Tr.ops] at h; (first | lia (splits := 0) | omega))) (f73 (by simp only [Tr.ops] at h; (first | lia (splits := 0) | omega)))
noncomputable def tot (deal : List Int) (p : Nat) : Int := deal.getD p 0
noncomputable def drawB (s k : Nat) (o : Int) (a b c : Tr) : Tr := if k = s + 1 then .un o a else if k < s + 1 then .bi o b c else .x
noncomputable def drawF (deal : List Int) : Nat → Nat → Nat → Tr
  | 0, _, _ => .x
  | _ + 1, 0, _ => .x
  | f + 1, s + 1, p => drawB s ((tot deal p).fmod ((s : Int) + 2)).toNat (((tot deal p).fdiv 8).fmod 46 + 9) (drawF deal f s (p + 1)) (drawF deal f ((tot deal p).fmod ((s : Int) + 2)).toNat (p + 1))
      (drawF deal f (s - ((tot deal p).fmod ((s : Int) + 2)).toNat) (p + 1 + ((tot deal p).fmod ((s : Int) + 2)).toNat))
theorem drawB_eq {s k : Nat} {o : Int} {a b c a' b' c' : Tr} (h : a = a') (g : k ≤ s → b = b') (l : c = c') : drawB s k o a b c = drawB s k o a' b' c' := by
  unfold drawB
  split
  · rw [h]
  · split
    · rename_i q
      rw [g (Nat.le_of_lt_succ q), l]
    · rfl
theorem drawF_eq (deal : List Int) : ∀ (f g s p : Nat), s ≤ f → s ≤ g → drawF deal f s p = drawF deal g s p
  | 0, 0, _, _, _, _ => rfl
  | 0, _ + 1, 0, _, _, _ => rfl
  | _ + 1, 0, 0, _, _, _ => rfl
  | _ + 1, _ + 1, 0, _, _, _ => rfl
  | f + 1, g + 1, s + 1, _, h, h' =>
    have a := Nat.le_of_succ_le_succ h
    have b := Nat.le_of_succ_le_succ h'
    drawB_eq (drawF_eq deal f g _ _ a b) (fun q => drawF_eq deal f g _ _ (Nat.le_trans q a) (Nat.le_trans q b)) (drawF_eq deal f g _ _ (Nat.le_trans (Nat.sub_le _ _) a) (Nat.le_trans (Nat.sub_le _ _) b))
noncomputable def draw (deal : List Int) (s p : Nat) : Tr := drawF deal s s p
theorem draw_zero (deal : List Int) (p : Nat) : draw deal 0 p = .x := rfl
theorem draw_succ (deal : List Int) (s p : Nat) : draw deal (s + 1) p = drawB s ((tot deal p).fmod ((s : Int) + 2)).toNat (((tot deal p).fdiv 8).fmod 46 + 9) (draw deal s (p + 1)) (draw deal ((tot deal p).fmod ((s : Int) + 2)).toNat (p + 1))
      (draw deal (s - ((tot deal p).fmod ((s : Int) + 2)).toNat) (p + 1 + ((tot deal p).fmod ((s : Int) + 2)).toNat)) :=
  drawB_eq rfl (fun q => drawF_eq deal _ _ _ _ q (Nat.le_refl _)) (drawF_eq deal _ _ _ _ (Nat.sub_le _ _) (Nat.le_refl _))
theorem draw_kind {d : Int} {s : Nat} : 0 ≤ d.fmod ((s : Int) + 2) ∧ d.fmod ((s : Int) + 2) < (s : Int) + 2 := ⟨Int.fmod_nonneg_of_pos _ (by (first | lia (splits := 0) | omega)), Int.fmod_lt_of_pos _ (by (first | lia (splits := 0) | omega))⟩
theorem draw_un {deal : List Int} {s p : Nat} (h : (tot deal p).fmod ((s : Int) + 2) = (s : Int) + 1) : draw deal (s + 1) p = .un (((tot deal p).fdiv 8).fmod 46 + 9) (draw deal s (p + 1)) := by
  rw [draw_succ, drawB, if_pos (by rw [h]; (first | lia (splits := 0) | lia (splits := 4) | omega))]
theorem draw_bi {deal : List Int} {s p k : Nat} (h : (tot deal p).fmod ((s : Int) + 2) = k) (hk : k ≠ s + 1) : draw deal (s + 1) p = .bi (((tot deal p).fdiv 8).fmod 46 + 9) (draw deal k (p + 1)) (draw deal (s - k) (p + 1 + k)) := by
  have := draw_kind (d := tot deal p) (s := s)
  rw [draw_succ, drawB, h, Int.toNat_natCast, if_neg hk, if_pos (by (first | lia (splits := 0) | omega))]
theorem draw_ops (deal : List Int) : ∀ s p, (draw deal s p).ops = s := by
  intro s
  induction s using Nat.strongRecOn with
  | ind s ih =>
    intro p
    cases s with
    | zero => rw [draw_zero]; rfl
    | succ s =>
      have b := draw_kind (d := tot deal p) (s := s)
      obtain ⟨k, hk⟩ : ∃ k : Nat, (tot deal p).fmod ((s : Int) + 2) = k := ⟨_, (Int.toNat_of_nonneg b.1).symm⟩
      by_cases e : k = s + 1
      · rw [draw_un (by rw [hk, e]; (first | lia (splits := 0) | omega)), Tr.ops, ih s (by (first | lia (splits := 0) | omega))]
      · rw [draw_bi hk e, Tr.ops, ih k (by (first | lia (splits := 0) | omega)), ih (s - k) (by (first | lia (splits := 0) | omega))]
        (first | lia (splits := 0) | omega)
noncomputable def kids (deal : List Int) : List Nat → Nat → List Tr
  | [], _ => []
  | k :: r, q => draw deal k q :: kids deal r (q + k)
theorem kids_at {deal : List Int} : ∀ {ks : List Nat} {q i k : Nat}, ks[i]? = some k → (kids deal ks q)[i]? = some (draw deal k (q + (ks.take i).sum))
  | [], _, _, _, h => by simp at h
  | k' :: r, q, 0, k, h => by simp at h; subst h; simp [kids]
  | k' :: r, q, i + 1, k, h => by
    simp only [List.getElem?_cons_succ] at h
    simp only [kids, List.getElem?_cons_succ, List.take_succ_cons, List.sum_cons]
    rw [kids_at h, Nat.add_assoc]
theorem kids_length {deal : List Int} : ∀ {ks : List Nat} {q : Nat}, (kids deal ks q).length = ks.length
  | [], _ => rfl
  | _ :: r, _ => by simp [kids, kids_length (ks := r)]
theorem sum_take_succ {ks : List Nat} {i k : Nat} (h : ks[i]? = some k) : (ks.take (i + 1)).sum = (ks.take i).sum + k := by
  rw [List.take_succ, h]
  simp
theorem take_succ_map {α β : Type} {f : α → β} {l : List α} {i : Nat} {x : α} (h : l[i]? = some x) : (l.take (i + 1)).map f = (l.take i).map f ++ [f x] := by
  rw [List.take_succ, h]
  simp
theorem sum_take_le : ∀ {ks : List Nat} {i : Nat}, (ks.take i).sum ≤ ks.sum
  | [], _ => by simp
  | k :: r, 0 => by simp
  | k :: r, i + 1 => by simp; exact sum_take_le
theorem mem_le_sum : ∀ {ks : List Nat} {k : Nat}, k ∈ ks → k ≤ ks.sum
  | a :: r, k, h => by
    rcases List.mem_cons.mp h with rfl | h
    · simp
    · have := mem_le_sum h; simp; (first | lia (splits := 0) | omega)
theorem Fn.le {W : Wd} {f : Str} {a : List D} {r : D} {n m : Nat} (h : Fn W f a r n) (hn : n ≤ m) : Fn W f a r m := fun M A E s Q vs fa R => h M A E s Q vs fa (R.less hn)
theorem f67z {W : Wd} {deal : List Int} {p : Nat} : Fn W (fd 67).name [.list (intD deal), .int p, .int 0] (.list [(draw deal 0 p).D, .int ((p : Int) + (0 : Nat))]) 4 := by
  refine fn_of_run (vs := ["deal", "place", "size", "kind", "tree", "room", "part"]) (wr := []) (σ := [some (.val (.list (intD deal))), some (.val (.int p)), some (.val (.int 0)), none, none, none, none]) ok67 (by decide) rfl (by decide) rfl fun env h₀ M₀ mine F => ?_
  refine' run_cons (r1_ift ?a1 ?h1 (run_cons (r1_return ?d1 ?p1)))
  case' a1 => ktr_rel
  case' h1 => rfl
  case' d1 => ktr_rel
  case' p1 => exact congrArg FlowD.ret (by rw [draw_zero]; simp [Tr.D])
theorem f67s {W : Wd} {deal : List Int} {s p : Nat} (hp : p < deal.length) (hl : deal.length ≤ 100)
    (ih : ∀ k q, k ≤ s → p < q → q + k ≤ p + 1 + s → Fn W (fd 67).name [.list (intD deal), .int (q : Nat), .int (k : Nat)] (.list [(draw deal k q).D, .int ((q : Int) + (k : Nat))]) (s + 4)) :
    Fn W (fd 67).name [.list (intD deal), .int p, .int ((s + 1 : Nat) : Int)] (.list [(draw deal (s + 1) p).D, .int ((p : Int) + (s + 1 : Nat))]) (s + 1 + 4) := by
  have hd : deal[p]? = some (tot deal p) := by simp [tot, hp]
  refine fn_of_run (vs := ["deal", "place", "size", "kind", "tree", "room", "part"]) (wr := []) (σ := [some (.val (.list (intD deal))), some (.val (.int p)), some (.val (.int ((s + 1 : Nat) : Int))), none, none, none, none]) ok67 (by decide) rfl (by decide) rfl fun env h₀ M₀ mine F => ?_
  refine' run_cons (r1_iff ?a1 ?h1 (run_nil (run_cons (r1_tupS3 ?k1 ?k2 ?k3 (eul_val (ev_bin (ev_item (d := .int (tot deal p)) ?b1 ?b2 ?b3 ?b4 ?b7 ?b8) ?b5 (opb_mod ?b6)) (eul_new (evn_list (evl_cons (ev_bin (ev_bin (ev_bin (ev_item (d := .int (tot deal p)) ?c1 ?c2 ?c3 ?c4 ?c12 ?c13) ?c5 (opb_fdiv ?c6 ?c7)) ?c8 (opb_mod ?c9)) ?c10 opb_add) evl_nil) ?c11) fun a => eul_val ?d1 (eul_nil ⟨_, _, _, rfl, ex_ups ?u1 ?n1⟩))) ?w1))))
  case' a1 => ktr_rel
  case' h1 => simp; omega
  case' k1 => ktr_room
  case' k2 => ktr_room
  case' k3 => ktr_room
  case' b1 => ktr_rel
  case' b2 => ktr_rel
  case' b5 => ktr_rel
  case' b8 => intro _ _; rfl
  case' c13 => intro _ _; rfl
  case' c1 => ktr_rel
  case' c2 => ktr_rel
  case' c5 => ktr_rel
  case' c8 => ktr_rel
  case' c10 => ktr_rel
  case' d1 => ktr_rel
  case' w1 => exact (swapped_scope (env' := envAt (fd 67).scope) F.sc).trans (by kernel_rfl)
  case' u1 => k_upd
  case n1 =>
    generalize ho : ((tot deal p).fdiv 8).fmod 46 + 9 = o
    obtain ⟨k, hk⟩ : ∃ k : Nat, (tot deal p).fmod ((s : Int) + 2) = k := ⟨_, (Int.toNat_of_nonneg (draw_kind (d := tot deal p) (s := s)).1).symm⟩
    have hk2 := draw_kind (d := tot deal p) (s := s)
    have hkind : (tot deal p).fmod (((s + 1 : Nat) : Int) + 1) = (k : Int) := by rw [show (((s + 1 : Nat) : Int) + 1) = (s : Int) + 2 by omega]; exact hk
    rw [hkind]
    have key : ∀ ks : List Nat, ks.sum = s → ks.length ≤ 2 → (draw deal (s + 1) p).D = .list (.int o :: (kids deal ks (p + 1)).map Tr.D) →
        It ⟨W, env, ["deal", "place", "size", "kind", "tree", "room", "part"], h₀, M₀, [], true⟩ (Cat mine a) [some (.val (.list (intD deal))), some (.val (.int ((p : Int) + 1))), some (.val (.int ((s + 1 : Nat) : Int))), some (.val (.int (k : Int))), some (.own a [.int o]), none, none] (s + 4)
          (match stmtAt 67 with | .FunctionDef _ _ [_, _, .For _ it _ _ _, _] _ _ _ _ _ _ _ => it | _ => .Constant .none 0 ⟨0, 0, 0, 0⟩) (ks.map fun k : Nat => .int (k : Int)) →
        Run ⟨W, env, ["deal", "place", "size", "kind", "tree", "room", "part"], h₀, M₀, [], true⟩ (s + 4) (Cat mine a) [some (.val (.list (intD deal))), some (.val (.int ((p : Int) + 1))), some (.val (.int ((s + 1 : Nat) : Int))), some (.val (.int (k : Int))), some (.own a [.int o]), none, none]
          ((fd 67).body.drop 2) (fun fl _ _ => fl = .ret (.list [(draw deal (s + 1) p).D, .int ((p : Int) + (s + 1 : Nat))])) := by
      intro ks hsum hlen hD it
      refine' run_cons (r1_for (fun i m σ' => ∃ u v, σ' = [some (.val (.list (intD deal))), some (.val (.int ((p + 1 + (ks.take i).sum : Nat) : Int))), some (.val (.int ((s + 1 : Nat) : Int))), some (.val (.int (k : Int))), some (.own a (.int o :: ((kids deal ks (p + 1)).take i).map Tr.D)), u, v]) rfl ?k20 it ⟨none, none, by simp⟩ ?s20 ?f20)
      case' k20 => ktr_room
      case s20 =>
        rintro I i d m σ' hd ⟨u, v, rfl⟩
        obtain ⟨k', hk', rfl⟩ : ∃ k', ks[i]? = some k' ∧ D.int (k' : Int) = d := by simpa [Option.map_eq_some_iff] using hd
        have hle : k' ≤ s := hsum ▸ mem_le_sum (List.mem_of_getElem? hk')
        have hq : (ks.take i).sum + k' ≤ s := by have := sum_take_le (ks := ks) (i := i + 1); rw [sum_take_succ hk'] at this; omega
        have c := ih k' (p + 1 + (ks.take i).sum) hle (by omega) (by omega)
        refine ex_up (by k_upd) ?_
        refine' run_cons (r1_unpL2 ?k21 ?k22 (ev_call (i := 67) c ?a21 (by decide) rfl (by omega) ?k23) ?u21 (run_cons (r1_append rfl ?l21 ?a22 ?u22 ?z22 (run_nil ?e22))))
        case' k21 => ktr_room
        case' k22 => ktr_room
        case' a21 => ktr_rel
        case' k23 => ktr_room
        case' u21 => k_upd
        case' l21 => k_mem
        case' a22 => ktr_rel
        case' u22 => k_upd
        case z22 =>
          have := kids_length (deal := deal) (ks := ks) (q := p + 1)
          simp only [List.length_cons, List.length_map, List.length_take]
          omega
        case e22 =>
          refine ⟨some (.val (.int (k' : Int))), some (.val (draw deal k' (p + 1 + (ks.take i).sum)).D), ?_⟩
          rw [take_succ_map (kids_at hk'), sum_take_succ hk']
          simp only [List.cons_append, Int.natCast_add, Int.add_assoc]
      case f20 =>
        rintro m σ' ⟨u, v, rfl⟩
        refine run_freeze rfl (x := "tree") (by k_mem) (by k_upd) ?_
        refine' run_cons (r1_return ?d30 ?p30)
        case' d30 => ktr_rel
        case' p30 =>
          refine congrArg FlowD.ret ?_
          rw [hD, List.length_map, List.take_of_length_le (Nat.le_of_eq (kids_length (deal := deal) (ks := ks) (q := p + 1))), List.take_length, hsum, show ((p + 1 + s : Nat) : Int) = (p : Int) + ((s + 1 : Nat) : Int) by omega]
    by_cases e : k = s + 1
    · refine key [s] (by simp) (by simp) ?_ ?_
      · rw [draw_un (by rw [hk, e]; omega), ho]; simp [Tr.D, kids]
      · refine' it_list (Ev.cast (ev_ift ?a40 ?h40 ?l40) ?e40)
        case' a40 => ktr_rel
        case' l40 => ktr_rel
        case' h40 => simp; omega
        case' e40 => simp
    · refine key [k, s - k] (by simp; omega) (by simp) ?_ ?_
      · rw [draw_bi hk e, ho]; simp [Tr.D, kids]
      · refine' it_list (Ev.cast (ev_iff ?a41 ?h41 ?l41) ?e41)
        case' a41 => ktr_rel
        case' l41 => ktr_rel
        case' h41 => simp; omega
        case' e41 => simp; omega
  all_goals first | fold_lay | (simp [hd]; done)
theorem f67 {W : Wd} {deal : List Int} (hl : deal.length ≤ 100) : ∀ {s p : Nat}, p + s ≤ deal.length → Fn W (fd 67).name [.list (intD deal), .int (p : Nat), .int (s : Nat)] (.list [(draw deal s p).D, .int ((p : Int) + (s : Nat))]) (s + 4) := by
  intro s
  induction s using Nat.strongRecOn with
  | ind s ih =>
    intro p hp
    cases s with
    | zero => exact f67z
    | succ s => exact f67s (by (first | lia (splits := 0) | omega)) hl fun k q hk hq hqk => (ih k (by (first | lia (splits := 0) | omega)) (p := q) (by (first | lia (splits := 0) | omega))).le (by (first | lia (splits := 0) | omega))
noncomputable def nd (a b : Int) : Int := min (max a (b + 1)) (max (a + 1) b)
noncomputable def need : Tr → Int
  | .x => nd 0 0
  | .un _ t => nd (need t) 0
  | .bi _ l r => nd (need l) (need r)
noncomputable def needs (ts : List Tr) : List Int := ts.map need
theorem f76c {W : Wd} {o : List D} {ts : List Tr} {n : Nat} {a b : Int} (ho : pickL o (some 1) none none = ts.map Tr.D) (hl : o.length ≤ 100) (hts : ts.length ≤ 2) (hab : (pickL (ts.map (fun t => D.int (need t)) ++ [.int 0, .int 0]) none (some 2) none) = [.int a, .int b])
    (ih : ∀ t ∈ ts, Fn W (fd 76).name [t.D] (.int (need t)) (n + 3)) : Fn W (fd 76).name [.list o] (.int (nd a b)) (n + 4) := by
  refine fn_of_run (vs := ["tree", "one", "two"]) (wr := []) (σ := [some (.val (.list o)), none, none]) ok76 (by decide) rfl (by decide) rfl fun env h₀ M₀ mine F => ?_
  refine' run_cons (r1_unpL2 ?k1 ?k2 (Ev.cast (ev_slice (ev_bin (ev_map (ys := []) (l := ts) (f := Tr.D) (g := fun t => .int (need t)) (it_list (Ev.cast ?a1 ?b1)) ?c1 ?ok1 ?t1) ?d1 ?o1) ?e1 ?f1 ?g1 ?h1 ?i1 ?j1) ?l1) ?u1 (run_cons (r1_return ?r1 ?p1)))
  case' k1 => ktr_room
  case' k2 => ktr_room
  case' a1 => ktr_rel
  case' b1 => exact congrArg D.list ho
  case' ok1 => ktr_units
  case t1 =>
    intro I D C t ht
    refine' ev_call (i := 76) (ih t ht) ?a2 (by decide) rfl (by (first | lia (splits := 0) | omega)) ?k3
    case' a2 => ktr_rel
    case' k3 => ktr_room
  case' d1 => ktr_rel
  case' o1 => kwd_rel
  case' e1 => ktr_rel
  case' f1 => ktr_rel
  case' g1 => ktr_rel
  case' h1 => decide
  case' l1 => exact congrArg D.list hab
  case' j1 => intro _ _; rfl
  case' u1 => k_upd
  case' r1 => refine' ev_blt (evl_cons (ev_blt (evl_cons ?q1 (evl_cons ?q2 evl_nil)) opf_max2 bb_max (by decide) ?q3) (evl_cons (ev_blt (evl_cons ?q4 (evl_cons ?q5 evl_nil)) opf_max2 bb_max (by decide) ?q6) evl_nil)) opf_min2 bb_min (by decide) ?q7
  case' q1 => ktr_rel
  case' q2 => ktr_rel
  case' q3 => ktr_room
  case' q4 => ktr_rel
  case' q5 => ktr_rel
  case' q6 => ktr_room
  case' q7 => ktr_room
  case' p1 => rfl
  all_goals fold_lay
theorem f76 {W : Wd} : ∀ {t : Tr}, t.ops ≤ 20 → Fn W (fd 76).name [t.D] (.int (need t)) (t.ops + 4)
  | .x, _ => f76c (ts := []) (n := 0) (by kernel_rfl) (by decide) (by decide) (by kernel_rfl) (by simp)
  | .un o t, h =>
    have h' : t.ops + 1 ≤ 20 := h
    have ih := f76 (W := W) (t := t) (by (first | lia (splits := 0) | omega))
    f76c (ts := [t]) (n := t.ops + 1) (by kernel_rfl) (by simp) (by simp) (by kernel_rfl) (by
      intro t' ht; rw [List.mem_singleton.mp ht]; exact ih.le (by (first | lia (splits := 0) | omega)))
  | .bi o l r, h =>
    have h' : l.ops + r.ops + 1 ≤ 20 := h
    have il := f76 (W := W) (t := l) (by (first | lia (splits := 0) | omega))
    have ir := f76 (W := W) (t := r) (by (first | lia (splits := 0) | omega))
    f76c (ts := [l, r]) (n := l.ops + r.ops + 1) (by kernel_rfl) (by simp) (by simp) (by kernel_rfl) (by
      intro t' ht
      rcases List.mem_cons.mp ht with ht | ht
      · rw [ht]; exact il.le (by (first | lia (splits := 0) | omega))
      · rw [List.mem_singleton.mp ht]; exact ir.le (by (first | lia (splits := 0) | omega)))
noncomputable def sg (signs : List Str) (o : Int) : Str := signs.getD (o - 7).toNat ""
noncomputable def txt (signs : List Str) : Tr → Str
  | .x => "x"
  | .un o t => ("(" : Str) ++ Txt.join (sg signs o) ["", txt signs t] ++ (")" : Str)
  | .bi o l r => ("(" : Str) ++ Txt.join (sg signs o) [txt signs l, txt signs r] ++ (")" : Str)
noncomputable def Tr.ok (n : Nat) : Tr → Prop
  | .x => True
  | .un o t => 7 ≤ o ∧ o < 7 + n ∧ t.ok n
  | .bi o l r => 7 ≤ o ∧ o < 7 + n ∧ l.ok n ∧ r.ok n
theorem join2 {x a b : Str} : Txt.join x [a, b] = a ++ x ++ b := rfl
theorem slen {a b : Str} : (a ++ b).length = a.length + b.length := by
  show (a.cps ++ b.cps).size = _
  rw [Array.size_append]; rfl
theorem sg_le {signs : List Str} (h : ∀ s ∈ signs, s.length ≤ 3) (o : Int) : (sg signs o).length ≤ 3 := by
  unfold sg
  rw [List.getD_eq_getElem?_getD]
  cases e : signs[(o - 7).toNat]? with
  | none => exact Nat.zero_le _
  | some s => exact h s (List.mem_of_getElem? e)
theorem txt_le {signs : List Str} (h : ∀ s ∈ signs, s.length ≤ 3) : ∀ t : Tr, (txt signs t).length ≤ 6 * t.ops + 1
  | .x => Nat.le_refl 1
  | .un o t => by
    have a := txt_le h t
    have b := sg_le h o
    rw [txt, join2, slen, slen, slen, slen]
    have c : ("(" : Str).length = 1 := by decide
    have d : (")" : Str).length = 1 := by decide
    have e : ("" : Str).length = 0 := by decide
    simp only [Tr.ops]
    (first | lia (splits := 0) | lia (splits := 4) | omega)
  | .bi o l r => by
    have a := txt_le h l
    have a' := txt_le h r
    have b := sg_le h o
    rw [txt, join2, slen, slen, slen, slen]
    have c : ("(" : Str).length = 1 := by decide
    have d : (")" : Str).length = 1 := by decide
    simp only [Tr.ops]
    (first | lia (splits := 0) | lia (splits := 4) | omega)
theorem f68x {W : Wd} {signs : List Str} : Fn W (fd 68).name [Tr.x.D, .list (strD signs)] (.str (txt signs .x)) 9 := by
  refine fn_of_run (vs := ["tree", "signs", "texts"]) (wr := ["signs"]) (σ := [some (.val (.list [])), some (.val (.list (strD signs))), none]) ok68 (by decide) rfl (by decide) rfl fun env h₀ M₀ mine F => ?_
  refine' run_cons (r1_assign (ev_bin ?a1 (ev_map (ys := ["signs"]) (l := []) (f := Tr.D) (g := fun t => .str (txt signs t)) (it_list (Ev.cast ?a2 ?b2)) ?c2 ?ok2 ?t2) ?o1) ?u1 ?k1 (run_cons (r1_return (ev_ift (tst_cmp ?a3 ?b3 (opc_eql (a := .list []) (b := .list []) (n := 0) shaped_nil shaped_nil (Tr.eqv_nil .x))) rfl ?d3) ?p3)))
  case' a1 => ktr_rel
  case' a2 => ktr_rel
  case' b2 => kernel_rfl
  case' ok2 => ktr_units
  case t2 => intro I D C t ht; cases ht
  case' o1 => kwd_rel
  case' u1 => k_upd
  case' k1 => ktr_room
  case' a3 => ktr_rel
  case' b3 => ktr_rel
  case' d3 => ktr_rel
  case' p3 => rfl
  all_goals fold_lay
theorem f68o {W : Wd} {signs : List Str} {o : Int} {t0 : Tr} {ts : List Tr} {n : Nat} {a b : Str} (hD : t0.D = .list (.int o :: ts.map Tr.D)) (h0 : t0.isx = false) (hz : t0.ops ≤ 20) (h7 : 7 ≤ o) (hs : o < 7 + signs.length) (hsl : signs.length ≤ 100) (hts : ts.length ≤ 2)
    (hl : pickL (strD ("" :: ts.map (txt signs))) (some (-2)) none none = strD [a, b]) (ha : a.length ≤ 1000) (hb : b.length ≤ 1000) (h3 : ∀ s ∈ signs, s.length ≤ 3)
    (ih : ∀ t ∈ ts, Fn W (fd 68).name [t.D, .list (strD signs)] (.str (txt signs t)) (n + 8)) : Fn W (fd 68).name [t0.D, .list (strD signs)] (.str (("(" : Str) ++ Txt.join (sg signs o) [a, b] ++ (")" : Str))) (n + 9) := by
  have hsg : (strD signs)[(o - 7).toNat]? = some (.str (sg signs o)) := by
    have : (o - 7).toNat < signs.length := by (first | lia (splits := 0) | lia (splits := 4) | omega)
    simp [sg, this]
  have l3 := sg_le h3 o
  have hsh := Tr.shaped (t := t0) (by (first | lia (splits := 0) | lia (splits := 4) | omega))
  have heq := Tr.eqv_nil t0
  rw [hD] at hsh heq ⊢
  rw [h0] at heq
  refine fn_of_run (vs := ["tree", "signs", "texts"]) (wr := ["signs"]) (σ := [some (.val (.list (.int o :: ts.map Tr.D))), some (.val (.list (strD signs))), none]) ok68 (by decide) rfl (by decide) rfl fun env h₀ M₀ mine F => ?_
  refine' run_cons (r1_assign (d := .list (strD ("" :: ts.map (txt signs)))) (Ev.cast (ev_bin ?a1 (ev_map (ys := ["signs"]) (l := ts) (f := Tr.D) (g := fun t => .str (txt signs t)) (it_list (Ev.cast ?a2 ?b2)) ?c2 ?ok2 ?t2) ?o1) ?e1) ?u1 ?k1 (run_cons (r1_return (ev_iff (tst_cmp ?a3 ?b3 (opc_eql (n := n) hsh shaped_nil heq)) rfl (ev_bin (ev_bin ev_str (ev_join (x := sg signs o) (ys := [a, b]) (ev_item ?a4 (ev_bin ?b4 ev_int opb_sub) ?c4 hsg ?d4 ?e4) (Ev.cast ?a5 ?b5) ?c5) (opb_adds ?z5)) ev_str (opb_adds ?z6))) ?p3)))
  case' a1 => ktr_rel
  case' a2 => ktr_rel
  case' b2 => rw [pick_tail]
  case' ok2 => ktr_units
  case t2 =>
    intro I D C t ht
    refine' ev_call (i := 68) (ih t ht) ?a9 (by decide) rfl (by (first | lia (splits := 0) | lia (splits := 4) | omega)) ?k9
    case' a9 => ktr_rel
    case' k9 => ktr_room
  case' o1 => kwd_rel
  case' e1 => simp
  case' u1 => k_upd
  case' k1 => ktr_room
  case' a3 => ktr_rel
  case' b3 => ktr_rel
  case' a4 => ktr_rel
  case' b4 => ktr_rel
  case' e4 => intro _ _; rfl
  case' a5 => ktr_rel
  case' b5 => exact congrArg D.list hl
  case' p3 => rfl
  case' c5 => simp only [List.map_cons, List.map_nil, List.sum_cons, List.sum_nil, List.length_cons, List.length_nil]; (first | lia (splits := 0) | lia (splits := 4) | omega)
  case' z5 => rw [join2, slen, slen]; have c : ("(" : Str).length = 1 := by decide
              (first | lia (splits := 0) | lia (splits := 4) | omega)
  case' z6 => rw [join2, slen, slen, slen]; have c : ("(" : Str).length = 1 := by decide
              have d : (")" : Str).length = 1 := by decide
              (first | lia (splits := 0) | lia (splits := 4) | omega)
  all_goals fold_lay
theorem f68 {W : Wd} {signs : List Str} (h3 : ∀ s ∈ signs, s.length ≤ 3) (hsl : signs.length ≤ 100) : ∀ {t : Tr}, t.ops ≤ 20 → t.ok signs.length → Fn W (fd 68).name [t.D, .list (strD signs)] (.str (txt signs t)) (t.ops + 9)
  | .x, _, _ => f68x
  | .un o t, h, k => by
    have h' : t.ops + 1 ≤ 20 := h
    have ih := f68 (W := W) h3 hsl (t := t) (by (first | lia (splits := 0) | omega)) k.2.2
    have l := txt_le h3 t
    exact f68o (ts := [t]) (n := t.ops + 1) rfl rfl h k.1 k.2.1 hsl (by simp) (by rw [show (-2 : Int) = -((2 : Nat) : Int) by rfl, pick_last _ (by decide)]; rfl) (by decide) (by (first | lia (splits := 0) | omega)) h3 (by intro t' ht; rw [List.mem_singleton.mp ht]; exact ih.le (by (first | lia (splits := 0) | omega)))
  | .bi o l r, h, k => by
    have h' : l.ops + r.ops + 1 ≤ 20 := h
    have il := f68 (W := W) h3 hsl (t := l) (by (first | lia (splits := 0) | omega)) k.2.2.1
    have ir := f68 (W := W) h3 hsl (t := r) (by (first | lia (splits := 0) | omega)) k.2.2.2
    have ll := txt_le h3 l
    have lr := txt_le h3 r
    exact f68o (ts := [l, r]) (n := l.ops + r.ops + 1) rfl rfl h k.1 k.2.1 hsl (by simp) (by rw [show (-2 : Int) = -((2 : Nat) : Int) by rfl, pick_last _ (by decide)]; rfl) (by (first | lia (splits := 0) | omega)) (by (first | lia (splits := 0) | omega)) h3 (by
      intro t' ht
      rcases List.mem_cons.mp ht with ht | ht
      · rw [ht]; exact il.le (by (first | lia (splits := 0) | omega))
      · rw [List.mem_singleton.mp ht]; exact ir.le (by (first | lia (splits := 0) | omega)))
noncomputable abbrev cut (x : Str) (p k : Int) : Str := Txt.slice x (some p) (some (p + k))
noncomputable def pieceOf (x : Str) (p : Int) : Int × Int :=
  if kdpHas ETT (cut x p 3) = true then (kdpLook ETT (cut x p 3) 0, (cut x p 3).length)
  else if kdpHas ETT (cut x p 2) = true then (kdpLook ETT (cut x p 2) 0, (cut x p 2).length)
  else if kdpHas ETT (cut x p 1) = true then (kdpLook ETT (cut x p 1) 0, (cut x p 1).length)
  else if p < x.length then (1, 1) else (0, 0)
theorem f69 {W : Wd} {x : Str} {p : Int} (hx : x.length ≤ 1000) (hc : ∀ k, (cut x p k).length ≤ 1000) : Fn W (fd 69).name [.str x, .int p] (stepD (pieceOf x p)) 5 := by
  refine fn_of_run (vs := ["text", "place", "width"]) (wr := []) (σ := [some (.val (.str x)), some (.val (.int p)), none]) ok69 (by decide) rfl (by decide) rfl fun env h₀ M₀ mine F => ?_
  have hc3 := hc 3
  have hc2 := hc 2
  have hc1 := hc 1
  refine' run_cons (r1_for (ds := [.int 3, .int 2, .int 1]) (fun i m σ' => ∃ u, σ' = [some (.val (.str x)), some (.val (.int p)), u] ∧ (1 ≤ i → ¬ kdpHas ETT (cut x p 3) = true) ∧ (2 ≤ i → ¬ kdpHas ETT (cut x p 2) = true) ∧ (3 ≤ i → ¬ kdpHas ETT (cut x p 1) = true)) rfl ?k1 (it_list ?a1) ⟨none, rfl, fun q => absurd q (by decide), fun q => absurd q (by decide), fun q => absurd q (by decide)⟩ ?s1 ?f1)
  case' k1 => ktr_room
  case' a1 => ktr_rel
  case f1 =>
    rintro m σ' ⟨u, rfl, h3, h2, h1⟩
    have h3 := h3 (by decide)
    have h2 := h2 (by decide)
    have h1 := h1 (by decide)
    by_cases hp : p < x.length
    · refine' run_cons (r1_return (ev_ift ?a2 ?h2 ?d2) ?p2)
      case' a2 => ktr_rel
      case' h2 => exact decide_eq_true hp
      case' d2 => ktr_rel
      case' p2 => rw [pieceOf, if_neg h3, if_neg h2, if_neg h1, if_pos hp]
      all_goals fold_lay
    · refine' run_cons (r1_return (ev_iff ?a3 ?h3 ?d3) ?p3)
      case' a3 => ktr_rel
      case' h3 => exact decide_eq_false hp
      case' d3 => ktr_rel
      case' p3 => rw [pieceOf, if_neg h3, if_neg h2, if_neg h1, if_neg hp]
      all_goals fold_lay
  case s1 =>
    rintro I i d m σ' hd ⟨u, rfl, h3, h2, h1⟩
    have hk : ∃ k : Int, d = .int k ∧ (kdpHas ETT (cut x p k) = true → pieceOf x p = (kdpLook ETT (cut x p k) 0, ((cut x p k).length : Int))) ∧ (¬ kdpHas ETT (cut x p k) = true → (1 ≤ i + 1 → ¬ kdpHas ETT (cut x p 3) = true) ∧ (2 ≤ i + 1 → ¬ kdpHas ETT (cut x p 2) = true) ∧ (3 ≤ i + 1 → ¬ kdpHas ETT (cut x p 1) = true)) := by
      match i, hd with
      | 0, hd => exact ⟨3, by simpa using hd.symm, fun h => by rw [pieceOf, if_pos h], fun h => ⟨fun _ => h, by intro q; (first | lia (splits := 0) | omega), by intro q; (first | lia (splits := 0) | omega)⟩⟩
      | 1, hd => exact ⟨2, by simpa using hd.symm, fun h => by rw [pieceOf, if_neg (h3 (by decide)), if_pos h], fun h => ⟨fun _ => h3 (by decide), fun _ => h, by intro q; (first | lia (splits := 0) | omega)⟩⟩
      | 2, hd => exact ⟨1, by simpa using hd.symm, fun h => by rw [pieceOf, if_neg (h3 (by decide)), if_neg (h2 (by decide)), if_pos h], fun h => ⟨fun _ => h3 (by decide), fun _ => h2 (by decide), fun _ => h⟩⟩
    obtain ⟨k, rfl, hy, hn⟩ := hk
    refine ex_up (by k_upd) ?_
    have hck := hc k
    by_cases hh : kdpHas ETT (cut x p k) = true
    · refine' run_cons (r1_ift ?a4 ?h4 (run_cons (r1_return ?d4 ?p4)))
      case' a4 => ktr_rel
      case' h4 => exact hh
      case' d4 => refine' ev_list (evl_cons (ev_itemEtt (x := cut x p k) ?x4 ?k4 hh) (evl_cons (ev_blt (evl_cons (Ev.cast (d' := .str (cut x p k)) ?x5 ?e5) evl_nil) (opf_lens ?z5) bb_len (by decide) ?k5) evl_nil)) ?z4
      case' x4 => ktr_rel
      case' k4 => ktr_room
      case' x5 => ktr_rel
      case' e5 => rfl
      case' k5 => ktr_room
      case' p4 => show FlowD.ret _ = FlowD.ret _; rw [hy hh]
      all_goals fold_lay
    · refine' run_cons (r1_iff ?a6 ?h6 (run_nil (run_nil ?n6)))
      case' a6 => ktr_rel
      case' h6 => exact Bool.eq_false_iff.mpr hh
      case' n6 => exact ⟨_, rfl, hn hh⟩
      all_goals fold_lay
  all_goals fold_lay
theorem f3 {W : Wd} {a b n : Int} (hb : 0 < b) (hb2 : b < 2 ^ 29) (hn : (Builtin.Int.intBits a : Int) - n ≤ 4000) : Fn W (fd 3).name [.int a, .int b, .int n] (.tup [.int (a.fdiv b), .int (a.fmod b)]) 3 := by
  refine fn_of_run (vs := ["a", "b", "n", "pad", "half_n", "mask", "b1", "b2", "q1", "r", "q2"]) (wr := []) (σ := [some (.val (.int a)), some (.val (.int b)), some (.val (.int n)), none, none, none, none, none, none, none, none]) ok3 (by decide) rfl (by decide) rfl fun env h₀ M₀ mine F => ?_
  refine' run_cons (r1_ift (tst_cmp (ev_bin (ev_bitlen ?a1) ?b1 opb_sub) ?c1 opc_le) ?h1 (run_cons (r1_return (ev_blt ?a2 (opf_divmod ?z1 ?z2) bb_divmod (by decide) ?k2) rfl)))
  case' a1 => ktr_rel
  case' b1 => ktr_rel
  case' c1 => ktr_rel
  case' h1 => exact decide_eq_true hn
  case' a2 => ktr_rel
  case' k2 => ktr_room
  all_goals fold_lay
noncomputable abbrev I2D (W : Wd) (a n : Int) (ds : List Int) (m : Nat) : Prop := Fn W (fd 5).name [.int a, .int n] (.list (intD ds)) m
noncomputable abbrev D2I (W : Wd) (ds : List Int) (n v : Int) (m : Nat) : Prop := Fn W (fd 6).name [.list (intD ds), .int n] (.int v) m
noncomputable def ldiv (b n : Int) : List Int → Int × List Int
  | [] => (0, [])
  | d :: r => let (rem, qs) := ldiv b n r; let x := rem * 2 ^ n.toNat + d; (x.fmod b, x.fdiv b :: qs)
theorem ldiv_cons {b n d : Int} {r : List Int} : ldiv b n (d :: r) = (((ldiv b n r).1 * 2 ^ n.toNat + d).fmod b, ((ldiv b n r).1 * 2 ^ n.toNat + d).fdiv b :: (ldiv b n r).2) := rfl
theorem ldiv_rem {b n : Int} (hb : 0 < b) : ∀ ds, 0 ≤ (ldiv b n ds).1 ∧ (ldiv b n ds).1 < b
  | [] => ⟨Int.le_refl _, hb⟩
  | d :: r => ⟨Int.fmod_nonneg_of_pos _ hb, Int.fmod_lt_of_pos _ hb⟩
theorem ldiv_len {b n : Int} : ∀ ds, (ldiv b n ds).2.length = ds.length
  | [] => rfl
  | d :: r => by rw [ldiv_cons]; simp [ldiv_len r]
theorem suf_cons {ds : List Int} {i : Nat} {d : Int} (h : ds.reverse[i]? = some d) : ds.drop (ds.length - (i + 1)) = d :: ds.drop (ds.length - i) := by
  have hi : i < ds.length := by have := (List.getElem?_eq_some_iff.mp h).1; simpa using this
  rw [List.getElem?_reverse hi] at h
  have := List.drop_eq_getElem_cons (i := ds.length - (i + 1)) (l := ds) (by (first | lia (splits := 0) | lia (splits := 4) | omega))
  rw [this, show ds.length - (i + 1) + 1 = ds.length - i by (first | lia (splits := 0) | lia (splits := 4) | omega)]
  congr 1
  obtain ⟨hh, e⟩ := List.getElem?_eq_some_iff.mp h
  rw [← e]
  congr 1
  (first | lia (splits := 0) | lia (splits := 4) | omega)
theorem f7 {W : Wd} {a b : Int} {ds : List Int} {v : Int} {m : Nat} (hb : 0 < b) (hb2 : b < 2 ^ 20) (h5 : I2D W a (Builtin.Int.intBits b) ds m) (h6 : D2I W (ldiv b (Builtin.Int.intBits b) ds).2 (Builtin.Int.intBits b) v m) (hl : ds.length ≤ 1000) (hm : 3 ≤ m)
    (hbits : Builtin.Int.intBits b ≤ 100) (hx : ∀ r d : Int, 0 ≤ r → r < b → d ∈ ds → (Builtin.Int.intBits r : Int) ≤ 4000 ∧ (Builtin.Int.intBits (r * 2 ^ ((Builtin.Int.intBits b : Nat) : Int).toNat + d) : Int) ≤ 4000) :
    Fn W (fd 7).name [.int a, .int b] (.tup [.int v, .int (ldiv b (Builtin.Int.intBits b) ds).1]) (m + 1) := by
  refine fn_of_run (vs := ["a", "b", "n", "a_digits", "r", "q_digits", "a_digit", "q_digit", "q"]) (wr := []) (σ := [some (.val (.int a)), some (.val (.int b)), none, none, none, none, none, none, none]) ok7 (by decide) rfl (by decide) rfl fun env h₀ M₀ mine F => ?_
  generalize hn : ((Builtin.Int.intBits b : Nat) : Int) = n at *
  refine' run_cons (r1_assign (Ev.cast (ev_bitlen ?a1) (congrArg D.int hn)) ?u1 ?k1 (run_cons (r1_assign (ev_call (i := 5) h5 ?a2 (by decide) rfl (by (first | lia (splits := 0) | lia (splits := 4) | omega)) ?k2) ?u2 ?k3 (run_cons (r1_assign ev_int ?u3 ?k4 (run_cons (r1_new (evn_list evl_nil) ?k5 fun q => ex_up ?u4 (run_cons ?f1))))))))
  case' a1 => ktr_rel
  case' u1 => k_upd
  case' k1 => ktr_room
  case' a2 => ktr_rel
  case' k2 => ktr_room
  case' u2 => k_upd
  case' k3 => ktr_room
  case' u3 => k_upd
  case' k4 => ktr_room
  case' k5 => ktr_room
  case' u4 => k_upd
  case f1 =>
    refine' r1_for (ds := (intD ds).reverse) (fun i m' σ' => ∃ u w, σ' = [some (.val (.int a)), some (.val (.int b)), some (.val (.int n)), some (.val (.list (intD ds))), some (.val (.int (ldiv b n (ds.drop (ds.length - i))).1)), some (.own q (intD (ldiv b n (ds.drop (ds.length - i))).2.reverse)), u, w, none]) rfl ?k6 (it_reversed ?a6 bb_reversed (by decide) ?k7) ⟨none, none, by simp [ldiv]⟩ ?s6 ?f6
    case' k6 => ktr_room
    case' a6 => ktr_rel
    case' k7 => ktr_room
    case s6 =>
      rintro I i d m' σ' hd ⟨u, w, rfl⟩
      obtain ⟨x, hx', rfl⟩ : ∃ x, ds.reverse[i]? = some x ∧ D.int x = d := by
        rw [← List.map_reverse, List.getElem?_map] at hd
        simpa only [Option.map_eq_some_iff] using hd
      have hr := ldiv_rem (b := b) (n := n) hb (ds.drop (ds.length - i))
      have hxx := hx _ x hr.1 hr.2 (by have := List.mem_of_getElem? hx'; simpa using this)
      have hll := ldiv_len (b := b) (n := n) (ds.drop (ds.length - i))
      have hn2 : n ≤ 100 := by (first | lia (splits := 0) | lia (splits := 4) | omega)
      have hn3 : 0 ≤ n := by (first | lia (splits := 0) | lia (splits := 4) | omega)
      refine ex_up (by k_upd) ?_
      refine' run_cons (r1_unpT2 ?k8 ?k9 (ev_call (i := 3) (f3 hb ?b8 ?c8) (evl_cons (ev_bin (ev_bin ?a8 ?a9 (opb_shl hn3 ?z8)) ?a10 opb_add) ?a11) (by decide) rfl hm ?k10) ?u8 (run_cons (r1_append rfl ?l9 ?a12 ?u9 ?z9 (run_nil ?e9))))
      case' k8 => ktr_room
      case' k9 => ktr_room
      case' a8 => ktr_rel
      case' a9 => ktr_rel
      case' a10 => ktr_rel
      case' a11 => ktr_rel
      case' k10 => ktr_room
      case' u8 => k_upd
      case' l9 => k_mem
      case' a12 => ktr_rel
      case' u9 => k_upd
      case' e9 =>
        rw [suf_cons hx', ldiv_cons]
        exact ⟨some (.val (.int x)), some (.val (.int (((ldiv b n (ds.drop (ds.length - i))).1 * 2 ^ n.toNat + x).fdiv b))), by simp⟩
      case z9 => simp only [List.length_map, List.length_reverse, hll, List.length_drop]; (first | lia (splits := 0) | lia (splits := 4) | omega)
      all_goals first | (first | lia (splits := 0) | lia (splits := 4) | omega) | fold_lay
    case f6 =>
      rintro m' σ' ⟨u, w, rfl⟩
      have e1 : ds.drop (ds.length - (intD ds).reverse.length) = ds := by simp
      rw [e1]
      have hll := ldiv_len (b := b) (n := n) ds
      refine' run_cons (r1_reverse rfl ?l20 ?u20 ?z20 (run_freeze rfl (x := "q_digits") ?l21 ?u21 (run_cons (r1_assign (ev_call (i := 6) h6 (evl_cons (Ev.cast ?a21 ?b21) ?a22) (by decide) rfl (by (first | lia (splits := 0) | lia (splits := 4) | omega)) ?k21) ?u22 ?k22 (run_cons (r1_return ?d22 ?p22))))))
      case' l20 => k_mem
      case' u20 => k_upd
      case' l21 => k_mem
      case' u21 => k_upd
      case' a21 => ktr_rel
      case' a22 => ktr_rel
      case' b21 => simp
      case' k21 => ktr_room
      case' u22 => k_upd
      case' k22 => ktr_room
      case' d22 => ktr_rel
      case' p22 => rfl
      case z20 => simp only [List.length_map, List.length_reverse, hll]; (first | lia (splits := 0) | lia (splits := 4) | omega)
      all_goals fold_lay
    all_goals fold_lay
  all_goals fold_lay
theorem f8 {W : Wd} {a b : Int} {q r : Int} {m : Nat} (ha : 0 ≤ a) (hb : 0 < b) (h7 : Fn W (fd 7).name [.int a, .int b] (.tup [.int q, .int r]) m) : Fn W (fd 8).name [.int a, .int b] (.tup [.int q, .int r]) (m + 1) := by
  refine fn_of_run (vs := ["a", "b", "q", "r"]) (wr := []) (σ := [some (.val (.int a)), some (.val (.int b)), none, none]) ok8 (by decide) rfl (by decide) rfl fun env h₀ M₀ mine F => ?_
  refine' run_cons (r1_iff ?a1 ?h1 (run_cons (r1_iff ?a2 ?h2 (run_cons (r1_iff ?a3 ?h3 (run_cons (r1_return (ev_call (i := 7) h7 ?a4 (by decide) rfl (by (first | lia (splits := 0) | omega)) ?k4) rfl)))))))
  case' a1 => ktr_rel
  case' h1 => exact beq_eq_false_iff_ne.mpr (by (first | lia (splits := 0) | omega))
  case' a2 => ktr_rel
  case' h2 => exact decide_eq_false (by (first | lia (splits := 0) | omega))
  case' a3 => ktr_rel
  case' h3 => exact decide_eq_false (by (first | lia (splits := 0) | omega))
  case' a4 => ktr_rel
  case' k4 => ktr_room
  all_goals fold_lay
theorem intD_lay (l : List Int) : SeqAt.shaped (D.list (intD l)).py = true := by
  have : ∀ l : List Int, PyData.canLayAll0 (pyL (intD l)) = true ∧ PyData.depthAll (pyL (intD l)) = 0 := by
    intro l
    induction l with
    | nil => exact ⟨rfl, rfl⟩
    | cons a l ih => simp [intD, pyL, D.py, PyData.canLayAll0, PyData.canLay0, PyData.depthAll, PyData.depth, ih.1, ih.2] at ih ⊢
  obtain ⟨a, b⟩ := this l
  simp [SeqAt.shaped, D.py, PyData.canLay0, PyData.depth, a, b]
theorem intD_eqv : ∀ l : List Int, PyData.eqvAll (pyL (intD l)) (pyL (intD l)) = true
  | [] => rfl
  | a :: l => by
    have := intD_eqv l
    simp [intD, pyL, D.py, PyData.eqvAll, PyData.eqv] at this ⊢
    exact this
theorem intD_eq (l : List Int) : PyData.eqv (D.list (intD l)).py (D.list (intD l)).py = true := by
  simp only [D.py, PyData.eqv]; exact intD_eqv l
theorem intD_nil (l : List Int) : PyData.eqv (D.list (intD l)).py (D.list []).py = l.isEmpty := by
  cases l <;> simp [D.py, pyL, PyData.eqv, PyData.eqvAll]
theorem f80 {W : Wd} {a : Int} {fg : List Int} {m : Nat} (h5 : I2D W a 4 fg m) (hl : fg.length ≤ 4) (hfg : (List.range fg.length).map (fun k : Nat => (a.fdiv (16 ^ k)).fmod 16) = fg) (h0 : (a == 0) = fg.isEmpty) (h1 : decide (a < 256) = decide ((fg.length : Int) < 3)) (h2 : decide (256 ≤ a) = decide (2 < (fg.length : Int))) :
    Fn W (fd 80).name [.int a] (.bool true) (m + 9) := by
  refine fn_of_run (vs := ["number", "figures"]) (wr := ["number"]) (σ := [some (.val (.int a)), none]) ok80 (by decide) rfl (by decide) rfl fun env h₀ M₀ mine F => ?_
  refine' run_cons (r1_assign (ev_call (i := 5) h5 ?a1 (by decide) rfl (by (first | lia (splits := 0) | lia (splits := 4) | omega)) ?k1) ?u1 ?k2 (run_cons (r1_iff (c := false) (Tst.cast (tst_or (tst_cmp ?a2 (Ev.cast (ev_map (ys := ["number"]) (l := List.range fg.length) (f := fun k : Nat => .int (k : Int)) (g := fun k : Nat => .int ((a.fdiv (16 ^ k)).fmod 16)) (It.cast (it_range1 ?a3 ?s3 bb_range (by decide) ?k3) ?e3) ?z3 ?ok3 ?t3) ?e4) (opc_nel (n := m) (intD_lay fg) (intD_lay fg) (intD_eq fg))) (fun _ => tst_or (tst_cmp (ev_call (i := 65) f65 ?a5 (by decide) rfl (by (first | lia (splits := 0) | lia (splits := 4) | omega)) ?k5) (ev_cmp ?a6 ?b6 (opc_eql (n := m) (intD_lay fg) shaped_nil (intD_nil fg))) opc_isnot) (fun _ => tst_or_nil))) ?h6) rfl (run_nil (run_cons (r1_return (Ev.cast (ev_and (ev_cmp (ev_call (i := 63) f63 ?a7 (by decide) rfl (by (first | lia (splits := 0) | lia (splits := 4) | omega)) ?k7) ?b7 opc_is) (fun _ => ev_and1 (ev_cmp (ev_call (i := 64) f64 ?a8 (by decide) rfl (by (first | lia (splits := 0) | lia (splits := 4) | omega)) ?k8) ?b8 opc_is))) ?h9) rfl))))))
  case' a1 => ktr_rel
  case' k1 => ktr_room
  case' u1 => k_upd
  case' k2 => ktr_room
  case' a2 => ktr_rel
  case' a3 => ktr_rel
  case' k3 => ktr_room
  case' e3 => rw [show (intD fg).length = fg.length from by simp]; exact rng_nat _
  case' ok3 => ktr_units
  case t3 =>
    intro I D C k hk
    have hk' := List.mem_range.mp hk
    refine' Ev.cast (ev_bin (ev_bin ?a10 (ev_bin ?b10 ?c10 (opb_pow ?d10 ?e10)) (opb_fdiv ?f10 ?g10)) ?h10 (opb_mod ?i10)) ?j10
    case' a10 => ktr_rel
    case' b10 => ktr_rel
    case' c10 => ktr_rel
    case' h10 => ktr_rel
    case' j10 => rw [Int.toNat_natCast]
    all_goals
      have hk4 : k = 0 ∨ k = 1 ∨ k = 2 ∨ k = 3 := by (first | lia (splits := 0) | lia (splits := 4) | omega)
      rcases hk4 with rfl | rfl | rfl | rfl <;> decide +kernel
  case' e4 => rw [← hfg]; simp
  case' a5 => ktr_rel
  case' k5 => ktr_room
  case' a6 => ktr_rel
  case' b6 => ktr_rel
  case' h6 => simp [h0]
  case' a7 => ktr_rel
  case' k7 => ktr_room
  case' b7 => ktr_rel
  case' a8 => ktr_rel
  case' k8 => ktr_room
  case' b8 => ktr_rel
  case' h9 => simp [h1, h2]
  case s3 => exact small_one (by decide) (by decide) (by rw [show (intD fg).length = fg.length from by simp]; (first | lia (splits := 0) | lia (splits := 4) | omega)) (by rw [show (intD fg).length = fg.length from by simp]; (first | lia (splits := 0) | lia (splits := 4) | omega))
  all_goals fold_lay
noncomputable def rowOf (l : List Stp) : List Int := l.map fun p => 64 + 64 * p.1 + p.2
noncomputable def numOf (row : List Int) : Int := ((List.range row.length).map fun k : Nat => row.getD k 0 * 256 ^ k).sum
theorem f79 {W : Wd} {l : List Stp} {m : Nat} (hl : l.length ≤ 40) (hb : ∀ p ∈ l, -1 ≤ p.1 ∧ p.1 ≤ 1 ∧ 0 ≤ p.2 ∧ p.2 ≤ 100) (h6 : D2I W (rowOf l) 8 (numOf (rowOf l)) m) (h5 : I2D W (numOf (rowOf l)) 8 (rowOf l) m) : Fn W (fd 79).name [stepsD l] (.bool true) (m + 9) := by
  refine fn_of_run (vs := ["steps", "row", "number"]) (wr := ["row"]) (σ := [some (.val (stepsD l)), none, none]) ok79 (by decide) rfl (by decide) rfl fun env h₀ M₀ mine F => ?_
  have hr : (rowOf l).length = l.length := by simp [rowOf]
  refine' run_cons (r1_assign (d := .list (intD (rowOf l))) ?v1 ?u1 ?k1 ?n1 ?s1)
  case' v1 => refine' Ev.cast (ev_map (ys := []) (l := l) (f := stepD) (g := fun p => .int (64 + 64 * p.1 + p.2)) (it_list ?a1) ?z1 ?ok1 ?t1) ?e1
  case' a1 => ktr_rel
  case' ok1 => ktr_units
  case t1 =>
    intro I D C p hp
    have hp' := hb p hp
    refine' ev_bin (ev_bin ?a10 (ev_bin ?b10 (ev_item (d := .int p.1) ?c10 ?d10 ?e10 ?f10 ?g10 ?h10) (opb_mul ?i10)) opb_add) ?j10 opb_add
    case' a10 => ktr_rel
    case' b10 => ktr_rel
    case' c10 => ktr_rel
    case' d10 => ktr_rel
    case' j10 => ktr_rel
    case' h10 => intro _ _; rfl
    case' f10 => rfl
    case' i10 => exact IntMulOk.of_left (by decide +kernel)
    all_goals fold_lay
  case' e1 => simp [rowOf]
  case' z1 => (first | lia (splits := 0) | omega)
  case' u1 => k_upd
  case' k1 => ktr_room
  case' s1 => exact (swaps_scope (env' := envAt (fd 79).scope) F.sc).trans (by kernel_rfl)
  case n1 =>
  refine' run_cons (r1_assign (d := .int (numOf (rowOf l))) ?v2 ?u2 ?k2 ?n2)
  case' v2 => refine' ev_blt (evl_cons ?w2 evl_nil) opf_sum bb_sum (by decide) ?k3
  case' w2 => refine' Ev.cast (d' := .list (intD ((List.range (rowOf l).length).map fun k : Nat => (rowOf l).getD k 0 * 256 ^ k))) (ev_map (ys := ["row"]) (l := List.range (rowOf l).length) (f := fun k : Nat => .int (k : Int)) (g := fun k : Nat => .int ((rowOf l).getD k 0 * 256 ^ k)) (It.cast (it_range1 ?a2 ?s2 bb_range (by decide) ?k4) ?e2) ?z2 ?ok2 ?t2) ?e3
  case' a2 => ktr_rel
  case' k4 => ktr_room
  case' e2 => rw [show (intD (rowOf l)).length = (rowOf l).length from by simp]; exact rng_nat _
  case' ok2 => ktr_units
  case' s2 => exact small_one (by decide) (by decide) (by rw [show (intD (rowOf l)).length = (rowOf l).length from by simp]; (first | lia (splits := 0) | omega)) (by rw [show (intD (rowOf l)).length = (rowOf l).length from by simp]; (first | lia (splits := 0) | omega))
  case t2 =>
    intro I D C k hk
    have hk' := List.mem_range.mp hk
    have hv : (intD (rowOf l))[k]? = some (.int ((rowOf l).getD k 0)) := by simp [hk']
    refine' Ev.cast (ev_bin (ev_item (d := .int ((rowOf l).getD k 0)) ?a11 ?b11 ?c11 ?d11 ?e11 ?f11) (ev_bin ?g11 ?h11 (opb_pow ?i11 ?j11)) (opb_mul ?k11)) ?l11
    case' a11 => ktr_rel
    case' b11 => ktr_rel
    case' f11 => intro _ _; rfl
    case' g11 => ktr_rel
    case' h11 => ktr_rel
    case' d11 => rw [Int.toNat_natCast]; exact hv
    case' l11 => rw [Int.toNat_natCast]
    case' j11 =>
      have : (Builtin.Int.intBits 256 : Int) = 9 := by decide +kernel
      rw [this]; (first | lia (splits := 0) | omega)
    case' k11 =>
      refine IntMulOk.of_left ?_
      have hx : (rowOf l).getD k 0 ∈ rowOf l := by
        rw [List.getD_eq_getElem?_getD, List.getElem?_eq_getElem hk']
        exact List.getElem_mem hk'
      obtain ⟨p, hp, e⟩ := List.mem_map.mp hx
      have hp' := hb p hp
      rw [← e]
      refine Nat.le_trans (PySem.intBits_le_iff (m := 10).mpr ?_) (by decide)
      (first | lia (splits := 0) | omega)
    all_goals fold_lay
  case' e3 => simp
  case' z2 => rw [List.length_range]; (first | lia (splits := 0) | omega)
  case' k3 => ktr_room
  case' u2 => k_upd
  case' k2 => ktr_room
  case n2 =>
  refine' run_cons (r1_return (Ev.cast (ev_and (ev_cmp (ev_call (i := 6) h6 ?a5 (by decide) rfl (by (first | lia (splits := 0) | omega)) ?k5) ?b5 opc_eq) (fun _ => ev_and1 (ev_cmp (ev_call (i := 5) h5 ?a6 (by decide) rfl (by (first | lia (splits := 0) | omega)) ?k6) ?b6 (opc_eql (n := m) (intD_lay _) (intD_lay _) (intD_eq _))))) ?e6) rfl)
  case' a5 => ktr_rel
  case' k5 => ktr_room
  case' b5 => ktr_rel
  case' a6 => ktr_rel
  case' k6 => ktr_room
  case' b6 => ktr_rel
  case' e6 => simp
  all_goals fold_lay
noncomputable def runsF (size : Int) : Nat → Nat → Int → List Int
  | 0, _, _ => []
  | _ + 1, 0, _ => []
  | f + 1, l + 1, seed => ((seed.fmod ((l : Int) + 1)) * size + seed.fmod size) :: runsF size f (l - (seed.fmod ((l : Int) + 1)).toNat) (seed.fdiv 2 + 1)
theorem runsF_eq (size : Int) : ∀ (f g l : Nat) (seed : Int), l ≤ f → l ≤ g → runsF size f l seed = runsF size g l seed
  | 0, 0, _, _, _, _ => rfl
  | 0, _ + 1, 0, _, _, _ => rfl
  | _ + 1, 0, 0, _, _, _ => rfl
  | _ + 1, _ + 1, 0, _, _, _ => rfl
  | f + 1, g + 1, l + 1, seed, h, h' => congrArg (List.cons _) (runsF_eq size f g _ _ (Nat.le_trans (Nat.sub_le _ _) (Nat.le_of_succ_le_succ h)) (Nat.le_trans (Nat.sub_le _ _) (Nat.le_of_succ_le_succ h')))
noncomputable def runs (size : Int) (l : Nat) (seed : Int) : List Int := runsF size l l seed
theorem runs_zero (size seed : Int) : runs size 0 seed = [] := rfl
theorem runs_succ (size : Int) (l : Nat) (seed : Int) : runs size (l + 1) seed = ((seed.fmod ((l : Int) + 1)) * size + seed.fmod size) :: runs size (l - (seed.fmod ((l : Int) + 1)).toNat) (seed.fdiv 2 + 1) :=
  congrArg (List.cons _) (runsF_eq size _ _ _ _ (Nat.sub_le _ _) (Nat.le_refl _))
noncomputable def leadS : List Int → Str → Str
  | [], acc => acc
  | b :: r, acc => leadS r (acc ++ Txt.mul (" " : Str) b ++ ("\t" : Str))
noncomputable def lineOf (signs : List Str) (size margin : Int) (h : Nat) (seed : Int) (o : Int) : Str := leadS (runs size h seed) "" ++ Txt.mul (" " : Str) margin ++ sg signs o ++ (" \tx" : Str)
theorem foldl_size {α : Type} {a : Array α} : ∀ (k : Nat) (acc : Array α), ((List.replicate k a).foldl (· ++ ·) acc).size = acc.size + k * a.size
  | 0, acc => by simp
  | k + 1, acc => by rw [List.replicate_succ, List.foldl_cons, foldl_size k, Array.size_append, Nat.succ_mul]; (first | lia (splits := 0) | omega)
theorem mul_len {b : Int} (h : 0 ≤ b) : (Txt.mul (" " : Str) b).length = b.toNat := by
  have l1 : (" " : Str).length = 1 := by decide
  unfold Txt.mul
  split
  · rw [show b.toNat = 0 by (first | lia (splits := 0) | lia (splits := 4) | omega)]; rfl
  · split
    · rename_i h1 h2
      rw [l1] at h2 ⊢
      simp at h2
      (first | lia (splits := 0) | lia (splits := 4) | omega)
    · show Array.size (List.foldl (fun x1 x2 => x1 ++ x2) #[] (List.replicate b.toNat (" " : Str).cps)) = _
      rw [foldl_size]
      have : (" " : Str).cps.size = 1 := l1
      rw [this]
      simp
theorem lead_step {size : Int} (hs : 2 ≤ size) (hs4 : size ≤ 4) (l' : Nat) (seed : Int) : ∃ f B : Nat, seed.fmod ((l' + 1 : Nat) : Int) = f ∧ f ≤ l' ∧ seed.fmod ((l' + 1 : Nat) : Int) * size + seed.fmod size = B ∧ B ≤ 4 * l' + 4 := by
  have f1 := Int.fmod_nonneg_of_pos seed (b := ((l' + 1 : Nat) : Int)) (by (first | lia (splits := 0) | omega))
  have f2 := Int.fmod_lt_of_pos seed (b := ((l' + 1 : Nat) : Int)) (by (first | lia (splits := 0) | omega))
  have g1 := Int.fmod_nonneg_of_pos seed (b := size) (by (first | lia (splits := 0) | omega))
  have g2 := Int.fmod_lt_of_pos seed (b := size) (by (first | lia (splits := 0) | omega))
  obtain ⟨f, hf⟩ : ∃ f : Nat, seed.fmod ((l' + 1 : Nat) : Int) = f := ⟨_, (Int.toNat_of_nonneg f1).symm⟩
  obtain ⟨g, hg⟩ : ∃ g : Nat, seed.fmod size = g := ⟨_, (Int.toNat_of_nonneg g1).symm⟩
  obtain ⟨z, rfl⟩ : ∃ z : Nat, size = z := ⟨_, (Int.toNat_of_nonneg (Int.le_trans (by decide) hs)).symm⟩
  have fl : f ≤ l' := by (first | lia (splits := 0) | omega)
  have up : f * z ≤ l' * 4 := Nat.mul_le_mul fl (by (first | lia (splits := 0) | omega))
  refine ⟨f, f * z + g, hf, fl, ?_, by (first | lia (splits := 0) | omega)⟩
  rw [hf, hg, Int.natCast_add, Int.natCast_mul]
theorem lead_bound (a f : Nat) {B l' : Nat} (h : B ≤ 4 * l' + 4) (hl : l' + 1 ≤ 40) : a + B + 1 + 300 * (l' - f) ≤ a + 300 * (l' + 1) := by
  have : 300 * (l' - f) ≤ 300 * l' := Nat.mul_le_mul_left _ (Nat.sub_le _ _)
  generalize 300 * (l' - f) = q at *
  (first | lia (splits := 0) | omega)
theorem f77while {X : Cx} {n : Nat} {m : MS} {size : Int} {v0 v1 v3 v4 v5 v6 v7 : Option V} {l0 : Nat} {seed0 : Int} {acc0 : Str} {w : Option V} {P : Post} {t : PySem.Expr} {body : List Stmt} {p : Pos} (hs : 2 ≤ size) (hs4 : size ≤ 4)
    (hl : l0 ≤ 40) (ha : acc0.length + 300 * l0 ≤ 20000)
    (step : ∀ (l : Nat) (seed : Int) (acc : Str) (w : Option V) m, l ≤ 40 → acc.length + 300 * l ≤ 20000 → Tst X m [v0, v1, some (.val (.int size)), v3, v4, v5, v6, v7, some (.val (.int (l : Int))), some (.val (.str acc)), some (.val (.int seed)), w] n t (decide (0 < (l : Int))) ∧
      (0 < l → Run X n m [v0, v1, some (.val (.int size)), v3, v4, v5, v6, v7, some (.val (.int (l : Int))), some (.val (.str acc)), some (.val (.int seed)), w] body (fun fl m' σ' => fl = .next ∧ m' = m ∧ σ' = [v0, v1, some (.val (.int size)), v3, v4, v5, v6, v7, some (.val (.int ((l : Int) - (1 + seed.fmod l)))), some (.val (.str (acc ++ Txt.mul (" " : Str) ((seed.fmod l) * size + seed.fmod size) ++ ("\t" : Str)))), some (.val (.int (seed.fdiv 2 + 1))), some (.val (.int (1 + seed.fmod l)))])))
    (fin : ∀ seed w, P .next m [v0, v1, some (.val (.int size)), v3, v4, v5, v6, v7, some (.val (.int 0)), some (.val (.str (leadS (runs size l0 seed0) acc0))), some (.val (.int seed)), w]) :
    Run1 X n m [v0, v1, some (.val (.int size)), v3, v4, v5, v6, v7, some (.val (.int (l0 : Int))), some (.val (.str acc0)), some (.val (.int seed0)), w] (.While t body [] p) P := by
  refine r1_while (fun j m' σ' => m' = m ∧ ∃ (l : Nat) (seed : Int) (acc : Str) (w : Option V), j = l ∧ l ≤ 40 ∧ acc.length + 300 * l ≤ 20000 ∧ leadS (runs size l seed) acc = leadS (runs size l0 seed0) acc0 ∧ σ' = [v0, v1, some (.val (.int size)), v3, v4, v5, v6, v7, some (.val (.int (l : Int))), some (.val (.str acc)), some (.val (.int seed)), w]) l0 ⟨rfl, l0, seed0, acc0, w, rfl, hl, ha, rfl, rfl⟩ ?_
  rintro l m' σ' ⟨rfl, l2, seed, acc, w, hk, hl, ha, he, rfl⟩
  cases hk
  obtain ⟨ht, hr⟩ := step l seed acc w m' hl ha
  refine ⟨_, ht, fun hf => ?_, fun htr => ?_⟩
  · have : l = 0 := by have := of_decide_eq_false hf; (first | lia (splits := 0) | omega)
    subst this
    rw [runs_zero] at he
    have he' : acc = leadS (runs size l0 seed0) acc0 := he
    rw [he']
    exact fin seed w
  · have hpos : 0 < l := by have := of_decide_eq_true htr; (first | lia (splits := 0) | omega)
    refine (hr hpos).weak ?_
    rintro fl m'' σ'' ⟨rfl, rfl, rfl⟩
    obtain ⟨l', rfl⟩ : ∃ l', l = l' + 1 := ⟨l - 1, by (first | lia (splits := 0) | omega)⟩
    obtain ⟨f, B, hf, fl, hB, Bl⟩ := lead_step hs hs4 l' seed
    refine ⟨l' - f, Nat.lt_succ_of_le (Nat.sub_le _ _), rfl, l' - f, seed.fdiv 2 + 1, acc ++ Txt.mul (" " : Str) (B : Int) ++ ("\t" : Str), some (.val (.int (1 + (f : Int)))), rfl, Nat.le_trans (Nat.le_trans (Nat.sub_le _ _) (Nat.le_succ _)) hl, ?_, ?_, ?_⟩
    · rw [slen, slen, mul_len (Int.natCast_nonneg _), Int.toNat_natCast, show ("\t" : Str).length = 1 by decide]
      exact Nat.le_trans (lead_bound acc.length f Bl hl) ha
    · rw [← he, runs_succ, leadS]
      have hB' : seed.fmod ((l' : Int) + 1) * size + seed.fmod size = B := hB
      have hf' : seed.fmod ((l' : Int) + 1) = f := hf
      rw [hB', hf', Int.toNat_natCast]
    · rw [hB, hf, show ((l' + 1 : Nat) : Int) - (1 + (f : Int)) = ((l' - f : Nat) : Int) by clear hB hf Bl hr; (first | lia (splits := 0) | omega)]
noncomputable def linesOf (signs : List Str) (deal : List Int) (size margin : Int) (l : List Stp) : List Str := (List.range l.length).map fun k => lineOf signs size margin (hAt l (k + 1)).toNat (deal.getD (k % 8) 0 + k) ((l.map (·.2)).getD k 0)
theorem leadS_le {size : Int} (hs : 2 ≤ size) (hs4 : size ≤ 4) : ∀ (l : Nat) (seed : Int) (acc : Str), l ≤ 40 → (leadS (runs size l seed) acc).length ≤ acc.length + 300 * l := by
  intro l
  induction l using Nat.strongRecOn with
  | ind l ih =>
    intro seed acc hl
    cases l with
    | zero => rw [runs_zero, leadS]; (first | lia (splits := 0) | omega)
    | succ l' =>
      obtain ⟨f, B, hf, fl, hB, Bl⟩ := lead_step hs hs4 l' seed
      have hB' : seed.fmod ((l' : Int) + 1) * size + seed.fmod size = B := hB
      have hf' : seed.fmod ((l' : Int) + 1) = f := hf
      rw [runs_succ, leadS, hB', hf', Int.toNat_natCast]
      have q := ih (l' - f) (Nat.lt_succ_of_le (Nat.sub_le _ _)) (seed.fdiv 2 + 1) (acc ++ Txt.mul (" " : Str) (B : Int) ++ ("\t" : Str)) (Nat.le_trans (Nat.le_trans (Nat.sub_le _ _) (Nat.le_succ _)) hl)
      rw [slen, slen, mul_len (Int.natCast_nonneg _), Int.toNat_natCast, show ("\t" : Str).length = 1 by decide] at q
      exact Nat.le_trans q (lead_bound acc.length f Bl hl)
theorem f77 {W : Wd} {signs : List Str} {deal : List Int} {size margin : Int} {l : List Stp} (hl : l.length ≤ 40) (hd8 : deal.length = 8) (hs : 2 ≤ size) (hs4 : size ≤ 4) (hm : 0 ≤ margin) (hm4 : margin ≤ 4) (hh : ∀ k, k ≤ l.length → 0 ≤ hAt l k ∧ hAt l k ≤ 40)
    (ho : ∀ p ∈ l, 7 ≤ p.2 ∧ p.2 < 7 + signs.length) (hsl : signs.length ≤ 100) (h3 : ∀ s ∈ signs, s.length ≤ 3) :
    Fn W (fd 77).name [stepsD l, .list (intD deal), .int size, .int margin, .list (strD signs)] (.list (strD (linesOf signs deal size margin l))) 5 := by
  refine fn_of_run (vs := ["steps", "deal", "size", "margin", "signs", "heights", "lines", "k", "left", "lead", "seed", "part"]) (wr := []) (σ := [some (.val (stepsD l)), some (.val (.list (intD deal))), some (.val (.int size)), some (.val (.int margin)), some (.val (.list (strD signs))), none, none, none, none, none, none, none]) ok77 (by decide) rfl (by decide) rfl fun env h₀ M₀ mine F => ?_
  refine' run_cons (r1_tupS2 ?k1 ?k2 (eul_val (ev_call (i := 74) (f74 (l := l) (by (first | lia (splits := 0) | lia (splits := 4) | omega))) ?a1 (by decide) rfl (by decide) ?k3) (eul_new (evn_list evl_nil) fun a => eul_nil ⟨_, _, rfl, ex_ups ?u1 ?n1⟩)) ?w1)
  case' k1 => ktr_room
  case' k2 => ktr_room
  case' a1 => ktr_rel
  case' k3 => ktr_room
  case' w1 => exact (swapped_scope (env' := envAt (fd 77).scope) F.sc).trans (by kernel_rfl)
  case' u1 => k_upd
  case n1 =>
  refine' run_cons (r1_for (ds := (List.range l.length).map fun i : Nat => D.int i) (fun i m σ' => m = Cat mine a ∧ ∃ u1 u2 u3 u4 u5, σ' = [some (.val (stepsD l)), some (.val (.list (intD deal))), some (.val (.int size)), some (.val (.int margin)), some (.val (.list (strD signs))), some (.val (.list (intD (hts l)))), some (.own a (strD ((linesOf signs deal size margin l).take i))), u1, u2, u3, u4, u5]) rfl ?k4 (It.cast (it_range1 ?a2 ?s2 bb_range (by decide) ?k5) ?e2) ⟨rfl, _, _, _, _, _, rfl⟩ ?s4 ?f4)
  case' k4 => ktr_room
  case' a2 => ktr_rel
  case' k5 => ktr_room
  case' e2 => rw [List.length_map]; exact rng_nat _
  case' s2 => exact small_one (by decide) (by decide) (by rw [List.length_map]; (first | lia (splits := 0) | lia (splits := 4) | omega)) (by rw [List.length_map]; (first | lia (splits := 0) | lia (splits := 4) | omega))
  case f4 =>
    rintro m σ' ⟨rfl, u1, u2, u3, u4, u5, rfl⟩
    refine run_freeze rfl (x := "lines") (by k_mem) (by k_upd) ?_
    refine' run_cons (r1_return ?d5 ?p5)
    case' d5 => ktr_rel
    case' p5 =>
      refine congrArg FlowD.ret ?_
      rw [List.length_map, List.length_range, List.take_of_length_le (by simp [linesOf])]
  case s4 =>
    rintro I i d m σ' hd ⟨rfl, u1, u2, u3, u4, u5, rfl⟩
    have hi : i < l.length := by have := (List.getElem?_eq_some_iff.mp hd).1; simpa using this
    obtain rfl : d = .int (i : Int) := by simpa [hi] using hd.symm
    have hk := hh (i + 1) (by (first | lia (splits := 0) | lia (splits := 4) | omega))
    have hi8 : i % 8 < deal.length := by (first | lia (splits := 0) | lia (splits := 4) | omega)
    have e8 : (i : Int).fmod 8 = ((i % 8 : Nat) : Int) := by rw [Int.fmod_eq_emod_of_nonneg _ (by decide)]; (first | lia (splits := 0) | lia (splits := 4) | omega)
    have hp : l[i]? = some l[i] := List.getElem?_eq_getElem hi
    have hop := ho l[i] (List.getElem_mem hi)
    refine ex_up (by k_upd) ?_
    refine' run_cons (r1_tupS3 ?k6 ?k7 ?k8 (eul_val (Ev.cast (ev_item (d := .int (hAt l (i + 1))) ?a6 (ev_bin ?b6 ev_int opb_add) ?c6 ?d6 ?e6 ?f6) ?g6) (eul_val ev_str (eul_val (ev_bin (ev_item (d := .int (deal.getD (i % 8) 0)) ?a7 (ev_bin ?b7 ev_int (opb_mod ?c7)) ?d7 ?e7 ?f7 ?g7) ?h7 opb_add) (eul_nil ⟨_, _, _, rfl, ex_ups ?u6 ?n6⟩)))) ?w6)
    case' k6 => ktr_room
    case' k7 => ktr_room
    case' k8 => ktr_room
    case' a6 => ktr_rel
    case' b6 => ktr_rel
    case' f6 => intro _ _; rfl
    case' g6 => exact congrArg D.int (Int.toNat_of_nonneg hk.1).symm
    case' d6 =>
      rw [show ((i : Int) + 1).toNat = i + 1 by (first | lia (splits := 0) | lia (splits := 4) | omega)]
      simp [hts, hi]
    case' a7 => ktr_rel
    case' b7 => ktr_rel
    case' g7 => intro _ _; rfl
    case' h7 => ktr_rel
    case' e7 => rw [e8, Int.toNat_natCast]; simp [hi8]
    case' d7 => rw [e8]; (first | lia (splits := 0) | lia (splits := 4) | omega)
    case' f7 => rw [e8]; (first | lia (splits := 0) | lia (splits := 4) | omega)
    case' w6 => exact (swapped_scope (env' := envAt (fd 77).scope) F.sc).trans (by kernel_rfl)
    case' u6 => k_upd
    case n6 =>
      have hle := leadS_le hs hs4 (hAt l (i + 1)).toNat (deal.getD (i % 8) 0 + i) ("" : Str) (by (first | lia (splits := 0) | lia (splits := 4) | omega))
      have c0 : ("" : Str).length = 0 := by decide
      have hmul := mul_len hm
      have hsg := sg_le h3 l[i].2
      refine' run_cons (f77while (size := size) (l0 := (hAt l (i + 1)).toNat) (acc0 := ("" : Str)) hs hs4 ?x10 ?y10 ?s10 ?f10)
      case x10 => (first | lia (splits := 0) | lia (splits := 4) | omega)
      case y10 => rw [c0]; (first | lia (splits := 0) | lia (splits := 4) | omega)
      case s10 =>
        intro l' seed acc w m hl' ha'
        refine ⟨?_, fun hpos => ?_⟩
        · ktr_rel
        · have f1 := Int.fmod_nonneg_of_pos seed (b := (l' : Int)) (by (first | lia (splits := 0) | lia (splits := 4) | omega))
          have f2 := Int.fmod_lt_of_pos seed (b := (l' : Int)) (by (first | lia (splits := 0) | lia (splits := 4) | omega))
          have g1 := Int.fmod_nonneg_of_pos seed (b := size) (by (first | lia (splits := 0) | lia (splits := 4) | omega))
          have g2 := Int.fmod_lt_of_pos seed (b := size) (by (first | lia (splits := 0) | lia (splits := 4) | omega))
          have nn : 0 ≤ (seed.fmod (l' : Int)) * size + seed.fmod size := Int.add_nonneg (Int.mul_nonneg f1 (by (first | lia (splits := 0) | lia (splits := 4) | omega))) g1
          have up : (seed.fmod (l' : Int)) * size ≤ (l' : Int) * 4 := Int.mul_le_mul (by (first | lia (splits := 0) | lia (splits := 4) | omega)) hs4 (by (first | lia (splits := 0) | lia (splits := 4) | omega)) (by (first | lia (splits := 0) | lia (splits := 4) | omega))
          have ml := mul_len nn
          have c1 : ("	" : Str).length = 1 := by decide
          have e1 : 1 + seed.fmod (l' : Int) - 1 = seed.fmod (l' : Int) := by (first | lia (splits := 0) | lia (splits := 4) | omega)
          refine' run_cons (r1_assign (ev_bin ev_int (ev_bin ?a11 ?b11 (opb_mod ?c11)) opb_add) ?u11 ?k11 (run_cons (r1_assign (ev_bin (ev_bin ?a12 (ev_bin ev_str (Ev.cast (ev_bin (ev_bin ?b12 ?c12 (opb_mul ?d12)) (ev_bin ?e12 ?f12 (opb_mod ?g12)) opb_add) ?h12) (opb_muls ?i12 ?j12 ?k12)) (opb_adds ?l12)) ev_str (opb_adds ?m12)) ?u12 ?n12 (run_cons (r1_tupS2 ?k13 ?l13 (eul_val ?a13 (eul_val (ev_bin (ev_bin ?b13 ev_int (opb_fdiv ?c13 ?d13)) ev_int opb_add) (eul_nil ⟨_, _, rfl, ex_ups ?u13 (run_nil ⟨rfl, rfl, ?e13⟩)⟩))) ?w13)))))
          case' a11 => ktr_rel
          case' b11 => ktr_rel
          case' u11 => k_upd
          case' k11 => ktr_room
          case' a12 => ktr_rel
          case' b12 => ktr_rel
          case' c12 => ktr_rel
          case' e12 => ktr_rel
          case' f12 => ktr_rel
          case' h12 => rw [e1]
          case' d12 => exact IntMulOk.of_right (Nat.le_trans (PySem.intBits_le_iff (m := 10).mpr (by (first | lia (splits := 0) | lia (splits := 4) | omega))) (by decide))
          case' u12 => k_upd
          case' n12 => ktr_room
          case' k13 => ktr_room
          case' l13 => ktr_room
          case' a13 => ktr_rel
          case' b13 => ktr_rel
          case' u13 => k_upd
          case' w13 => exact (swapped_scope (env' := envAt (fd 77).scope) F.sc).trans (by kernel_rfl)
          case' e13 => rfl
          case' l12 => rw [ml]; (first | lia (splits := 0) | lia (splits := 4) | omega)
          case' m12 => rw [slen, ml, c1]; (first | lia (splits := 0) | lia (splits := 4) | omega)
          all_goals fold_lay
      case f10 =>
        intro seed w
        have hpk : (linesOf signs deal size margin l)[i]? = some (lineOf signs size margin (hAt l (i + 1)).toNat (deal.getD (i % 8) 0 + i) l[i].2) := by
          simp [linesOf, hi]
        refine' run_cons (r1_append (d := .str (lineOf signs size margin (hAt l (i + 1)).toNat (deal.getD (i % 8) 0 + i) l[i].2)) rfl ?l20 (ev_bin (ev_bin (ev_bin ?a20 (ev_bin ev_str ?b20 (opb_muls ?c20 ?d20 ?e20)) (opb_adds ?f20)) (ev_item (d := .str (sg signs l[i].2)) ?g20 (ev_bin (ev_item (d := .int l[i].2) (ev_item (d := stepD l[i]) ?h20 ?i20 ?j20 ?k20 ?m20 ?n20) ev_int ?o20 ?p20 ?q20 ?r20) ev_int opb_sub) ?s20 ?t20 ?v20 ?w20) (opb_adds ?x20)) ev_str (opb_adds ?y20)) ?u20 ?z20 (run_nil ?e21))
        case' l20 => k_mem
        case' a20 => ktr_rel
        case' b20 => ktr_rel
        case' g20 => ktr_rel
        case' h20 => ktr_rel
        case' i20 => ktr_rel
        case' k20 => simp [hp]
        case' n20 => intro _ _; rfl
        case' r20 => intro _ _; rfl
        case' w20 => intro _ _; rfl
        case' p20 => rfl
        case' t20 => have : (l[i].2 - 7).toNat < signs.length := by (first | lia (splits := 0) | lia (splits := 4) | omega)
                     simp [sg, this]
        case' u20 => k_upd
        case' e21 =>
          refine ⟨rfl, some (.val (.int (i : Int))), some (.val (.int 0)), some (.val (.str (leadS (runs size (hAt l (i + 1)).toNat (deal.getD (i % 8) 0 + i)) ""))), some (.val (.int seed)), w, ?_⟩
          · have e : strD ((linesOf signs deal size margin l).take (i + 1)) = strD ((linesOf signs deal size margin l).take i) ++ [.str (lineOf signs size margin (hAt l (i + 1)).toNat (deal.getD (i % 8) 0 + i) l[i].2)] := take_succ_map hpk
            rw [e]
        case' f20 => rw [hmul]; (first | lia (splits := 0) | lia (splits := 4) | omega)
        case' x20 => rw [slen, hmul]; (first | lia (splits := 0) | lia (splits := 4) | omega)
        case' y20 =>
          have c2 : (" \tx" : Str).length = 3 := by decide
          rw [slen, slen, hmul, c2]; (first | lia (splits := 0) | lia (splits := 4) | omega)
        all_goals first | decide | (first | lia (splits := 0) | lia (splits := 4) | omega) | fold_lay
        all_goals trace_state
    all_goals fold_lay
  all_goals fold_lay
theorem opc_in {W : Wd} {n : Nat} {x : D} {ds : List D} {c : Bool} (h1 : PyData.canLayAll0 (pyL ds) = true) (h2 : x.py.canLay0 = true) (h3 : x.py.depth ≤ 0) (hc : (pyL ds).any (fun y => PyData.eqv y x.py) = c) : OpC W (n + 1) .In x (.list ds) c := fun M A E s Q va vb R L ra rb h => by
  obtain ⟨_, qa⟩ := ra.reads
  obtain ⟨_, qb⟩ := rb.reads
  refine SeqAt.in_list_reads qb qa h1 h2 ?_ ?_
  · have := R.units
    have h4 : min (PyData.depthAll (pyL ds)) x.py.depth ≤ 0 := Nat.le_trans (Nat.min_le_right _ _) h3
    (first | lia (splits := 0) | omega)
  · rw [hc]; exact h s.heap s.toks (Sub.refl _)
noncomputable def toks : Tr → List Int
  | .x => [1]
  | .un o t => 7 :: o :: (toks t ++ [8])
  | .bi o l r => 7 :: (toks l ++ (o :: (toks r ++ [8])))
noncomputable def held : List Int → List Int
  | [] => []
  | a :: r => if 7 ∈ r then held r else if a = 7 then r else a :: r
noncomputable def before : List Int → List Int
  | [] => []
  | a :: r => if 7 ∈ r then a :: before r else if a = 7 then [] else []
theorem held_app {h : List Int} (hh : 7 ∉ h) : ∀ α : List Int, held (α ++ 7 :: h) = h ∧ before (α ++ 7 :: h) = α
  | [] => by simp [held, before, hh]
  | a :: α => by
    have := held_app hh α
    simp [held, before, this.1, this.2]
noncomputable def build (Q : List D) (hs : List Int) : D := .list (intD (hs.filter fun x => decide (x < 256)) ++ (hs.filter fun x => decide (256 ≤ x)).map fun x => Q.getD (x - 256).toNat .none)
noncomputable def mst (s : List Int × List D) (t : Int) : List Int × List D :=
  if t = 8 then (before s.1 ++ [255 + ((s.2.length : Int) + 1)], s.2 ++ [build s.2 (held s.1)])
  else if t = 1 then (s.1 ++ [255 + ((s.2.length : Int) + 1)], s.2 ++ [.list []])
  else (s.1 ++ [t], s.2)
noncomputable def Tr.good : Tr → Prop
  | .x => True
  | .un o t => 9 ≤ o ∧ o < 55 ∧ t.good
  | .bi o l r => 9 ≤ o ∧ o < 55 ∧ l.good ∧ r.good
theorem mst_sign {s : List Int × List D} {t : Int} (h8 : t ≠ 8) (h1 : t ≠ 1) : mst s t = (s.1 ++ [t], s.2) := by rw [mst, if_neg h8, if_neg h1]
theorem mst_close {π h : List Int} {Q : List D} (hh : 7 ∉ h) : mst (π ++ 7 :: h, Q) 8 = (π ++ [255 + ((Q.length : Int) + 1)], Q ++ [build Q h]) := by
  rw [mst, if_pos rfl]
  simp only [(held_app hh π).1, (held_app hh π).2]
theorem last_getD {Q N : List D} {d : D} (h : N.getLast? = some d) : (Q ++ N).getD (255 + ((Q.length + N.length : Nat) : Int) - 256).toNat .none = d := by
  have hn : N ≠ [] := by rintro rfl; simp at h
  have hl : 0 < N.length := List.length_pos_iff.mpr hn
  rw [List.getLast?_eq_getElem?] at h
  rw [List.getD_eq_getElem?_getD, show (255 + ((Q.length + N.length : Nat) : Int) - 256).toNat = Q.length + (N.length - 1) by (first | lia (splits := 0) | lia (splits := 4) | omega), List.getElem?_append_right (by (first | lia (splits := 0) | lia (splits := 4) | omega)), show Q.length + (N.length - 1) - Q.length = N.length - 1 by (first | lia (splits := 0) | lia (splits := 4) | omega), h]
  rfl
theorem mst_toks : ∀ (t : Tr), t.good → ∀ (π : List Int) (Q : List D), ∃ N : List D, (toks t).foldl mst (π, Q) = (π ++ [255 + ((Q.length + N.length : Nat) : Int)], Q ++ N) ∧ N.getLast? = some t.D
  | .x, _, π, Q => ⟨[.list []], by simp [toks, mst], rfl⟩
  | .un o t, h, π, Q => by
    obtain ⟨N, e, hN⟩ := mst_toks t h.2.2 (π ++ [7] ++ [o]) Q
    have h9 := h.1
    refine ⟨N ++ [build (Q ++ N) [o, 255 + ((Q.length + N.length : Nat) : Int)]], ?_, ?_⟩
    · rw [toks, List.foldl_cons, mst_sign (by decide) (by decide), List.foldl_cons, mst_sign (by (first | lia (splits := 0) | lia (splits := 4) | omega)) (by (first | lia (splits := 0) | lia (splits := 4) | omega)), List.foldl_append, e, List.foldl_cons, List.foldl_nil]
      rw [show π ++ [7] ++ [o] ++ [255 + ((Q.length + N.length : Nat) : Int)] = π ++ 7 :: [o, 255 + ((Q.length + N.length : Nat) : Int)] by simp]
      rw [mst_close (by simp; (first | lia (splits := 0) | lia (splits := 4) | omega))]
      simp
      (first | lia (splits := 0) | lia (splits := 4) | omega)
    · rw [List.getLast?_append]
      simp only [List.getLast?_singleton, Option.some_or, build]
      have h1 : ¬ (255 + ((Q.length + N.length : Nat) : Int) < 256) := by
        have hn : N ≠ [] := by rintro rfl; simp at hN
        have hl : 0 < N.length := List.length_pos_iff.mpr hn
        (first | lia (splits := 0) | lia (splits := 4) | omega)
      have h2 := h.2.1
      have h3 : ¬ (256 ≤ o) := by (first | lia (splits := 0) | lia (splits := 4) | omega)
      simp only [List.filter_cons, List.filter_nil, decide_eq_true (show o < 256 by (first | lia (splits := 0) | lia (splits := 4) | omega)), decide_eq_false h1, decide_eq_false h3, decide_eq_true (show 256 ≤ 255 + ((Q.length + N.length : Nat) : Int) by (first | lia (splits := 0) | lia (splits := 4) | omega))]
      have hl := last_getD (Q := Q) hN
      rw [List.getD_eq_getElem?_getD, Int.natCast_add] at hl
      simp [Tr.D]
      exact hl
  | .bi o l r, h, π, Q => by
    obtain ⟨N, e, hN⟩ := mst_toks l h.2.2.1 (π ++ [7]) Q
    obtain ⟨N2, e2, hN2⟩ := mst_toks r h.2.2.2 (π ++ [7] ++ [255 + ((Q.length + N.length : Nat) : Int)] ++ [o]) (Q ++ N)
    have h9 := h.1
    have h2 := h.2.1
    have hn : 0 < N.length := List.length_pos_iff.mpr (by rintro rfl; simp at hN)
    have hn2 : 0 < N2.length := List.length_pos_iff.mpr (by rintro rfl; simp at hN2)
    generalize hi : (255 + ((Q.length + N.length : Nat) : Int)) = i at *
    generalize hj : (255 + (((Q ++ N).length + N2.length : Nat) : Int)) = j at *
    refine ⟨N ++ N2 ++ [build (Q ++ N ++ N2) [i, o, j]], ?_, ?_⟩
    · rw [toks, List.foldl_cons, mst_sign (by decide) (by decide), List.foldl_append, e, List.foldl_cons, mst_sign (by (first | lia (splits := 0) | lia (splits := 4) | omega)) (by (first | lia (splits := 0) | lia (splits := 4) | omega)), List.foldl_append, e2, List.foldl_cons, List.foldl_nil]
      rw [show π ++ [7] ++ [i] ++ [o] ++ [j] = π ++ 7 :: [i, o, j] by simp]
      rw [mst_close (by simp; (first | lia (splits := 0) | lia (splits := 4) | omega))]
      simp
      (first | lia (splits := 0) | lia (splits := 4) | omega)
    · rw [List.getLast?_append]
      simp only [List.getLast?_singleton, Option.some_or, build]
      have h1 : ¬ (i < 256) := by (first | lia (splits := 0) | lia (splits := 4) | omega)
      have h1' : ¬ (j < 256) := by (first | lia (splits := 0) | lia (splits := 4) | omega)
      have h3 : ¬ (256 ≤ o) := by (first | lia (splits := 0) | lia (splits := 4) | omega)
      simp only [List.filter_cons, List.filter_nil, decide_eq_true (show o < 256 by (first | lia (splits := 0) | lia (splits := 4) | omega)), decide_eq_false h1, decide_eq_false h1', decide_eq_false h3, decide_eq_true (show 256 ≤ i by (first | lia (splits := 0) | lia (splits := 4) | omega)), decide_eq_true (show 256 ≤ j by (first | lia (splits := 0) | lia (splits := 4) | omega))]
      have hl := last_getD (Q := Q) hN
      have hl2 := last_getD (Q := Q ++ N) hN2
      rw [hi, List.getD_eq_getElem?_getD] at hl
      rw [hj, List.getD_eq_getElem?_getD] at hl2
      have hlt : (i - 256).toNat < (Q ++ N).length := by rw [List.length_append]; (first | lia (splits := 0) | lia (splits := 4) | omega)
      rw [← List.getElem?_append_left (l₂ := N2) hlt] at hl
      simp only [List.append_assoc] at hl hl2 ⊢
      simp [Tr.D]
      exact ⟨hl, hl2⟩
noncomputable def mok : List Int × List D → List Int → Prop
  | _, [] => True
  | s, t :: r => (t = 8 → ∃ α h, s.1 = α ++ 7 :: h ∧ 7 ∉ h ∧ h.length ≤ 3 ∧ ∀ y ∈ h, 256 ≤ y → (y - 256).toNat < s.2.length) ∧ mok (mst s t) r
theorem mok_append : ∀ (a b : List Int) (s : List Int × List D), mok s a → mok (a.foldl mst s) b → mok s (a ++ b)
  | [], _, _, _, h => h
  | t :: a, b, s, h, h' => ⟨h.1, mok_append a b _ h.2 h'⟩
theorem mok_toks : ∀ (t : Tr), t.good → ∀ (π : List Int) (Q : List D), mok (π, Q) (toks t)
  | .x, _, π, Q => ⟨fun q => absurd q (by decide), trivial⟩
  | .un o t, h, π, Q => by
    have h9 := h.1
    have h55 := h.2.1
    obtain ⟨N, e, hN⟩ := mst_toks t h.2.2 (π ++ [7] ++ [o]) Q
    have hn : 0 < N.length := List.length_pos_iff.mpr (by rintro rfl; simp at hN)
    refine ⟨fun q => absurd q (by decide), ?_⟩
    rw [mst_sign (by decide) (by decide)]
    refine ⟨fun q => by (first | lia (splits := 0) | omega), ?_⟩
    rw [mst_sign (by (first | lia (splits := 0) | omega)) (by (first | lia (splits := 0) | omega))]
    refine mok_append _ _ _ (mok_toks t h.2.2 _ _) ?_
    rw [e]
    refine ⟨fun _ => ⟨π, [o, 255 + ((Q.length + N.length : Nat) : Int)], by simp, by simp; (first | lia (splits := 0) | omega), by simp, ?_⟩, trivial⟩
    intro y hy h256
    simp only [List.length_append]
    rcases List.mem_cons.mp hy with rfl | hy
    · (first | lia (splits := 0) | omega)
    · have := List.mem_singleton.mp hy; (first | lia (splits := 0) | omega)
  | .bi o l r, h, π, Q => by
    have h9 := h.1
    have h55 := h.2.1
    obtain ⟨N, e, hN⟩ := mst_toks l h.2.2.1 (π ++ [7]) Q
    obtain ⟨N2, e2, hN2⟩ := mst_toks r h.2.2.2 (π ++ [7] ++ [255 + ((Q.length + N.length : Nat) : Int)] ++ [o]) (Q ++ N)
    have hn : 0 < N.length := List.length_pos_iff.mpr (by rintro rfl; simp at hN)
    have hn2 : 0 < N2.length := List.length_pos_iff.mpr (by rintro rfl; simp at hN2)
    refine ⟨fun q => absurd q (by decide), ?_⟩
    rw [mst_sign (by decide) (by decide)]
    refine mok_append _ _ _ (mok_toks l h.2.2.1 _ _) ?_
    rw [e]
    refine ⟨fun q => by (first | lia (splits := 0) | omega), ?_⟩
    rw [mst_sign (by (first | lia (splits := 0) | omega)) (by (first | lia (splits := 0) | omega))]
    refine mok_append _ _ _ (mok_toks r h.2.2.2 _ _) ?_
    rw [e2]
    refine ⟨fun _ => ⟨π, [255 + ((Q.length + N.length : Nat) : Int), o, 255 + (((Q ++ N).length + N2.length : Nat) : Int)], by simp, by simp; (first | lia (splits := 0) | omega), by simp, ?_⟩, trivial⟩
    intro y hy h256
    simp only [List.length_append] at hy ⊢
    rcases List.mem_cons.mp hy with rfl | hy
    · (first | lia (splits := 0) | omega)
    · rcases List.mem_cons.mp hy with rfl | hy
      · (first | lia (splits := 0) | omega)
      · have := List.mem_singleton.mp hy; (first | lia (splits := 0) | omega)
inductive Cuts (x : Str) : Int → List Int → Prop
  | done {p : Int} : pieceOf x p = (0, 0) → Cuts x p []
  | more {p : Int} {t w : Int} {r : List Int} : pieceOf x p = (t, w) → t ≠ 0 → Cuts x (p + w) r → Cuts x p (t :: r)
theorem Cuts.drop {x : Str} {p : Int} {T : List Int} (c : Cuts x p T) : ∀ i, i ≤ T.length → ∃ q, Cuts x q (T.drop i) := by
  induction c with
  | done h => intro i hi; exact ⟨_, by simp; exact .done h⟩
  | more h h0 c ih =>
    rename_i p t w r
    intro i hi
    cases i with
    | zero => exact ⟨p, .more h h0 c⟩
    | succ i => exact ih i (by simpa using hi)
theorem pop_held {α h : List Int} : True := trivial
theorem f70while {X : Cx} {n : Nat} {m : MS} {a : Addr} {v0 v2 v3 v4 v5 v6 : Option V} {α h : List Int} {P : Post} {t : PySem.Expr} {body : List Stmt} {p : Pos} (hh : 7 ∉ h) (hl : (α ++ 7 :: h).length ≤ 1000)
    (step : ∀ (g k : List Int), g ++ k = h → Tst X m [v0, some (.own a (intD (α ++ 7 :: g))), v2, v3, v4, v5, v6, some (.val (.list (intD k)))] n t (! g.isEmpty) ∧
      ∀ g' y, g = g' ++ [y] → Run X n m [v0, some (.own a (intD (α ++ 7 :: g))), v2, v3, v4, v5, v6, some (.val (.list (intD k)))] body (fun fl m' σ' => fl = .next ∧ m' = m ∧ σ' = [v0, some (.own a (intD (α ++ 7 :: g'))), v2, v3, v4, v5, v6, some (.val (.list (intD (y :: k))))]))
    (fin : P .next m [v0, some (.own a (intD (α ++ [7]))), v2, v3, v4, v5, v6, some (.val (.list (intD h)))]) :
    Run1 X n m [v0, some (.own a (intD (α ++ 7 :: h))), v2, v3, v4, v5, v6, some (.val (.list []))] (.While t body [] p) P := by
  refine r1_while (fun j m' σ' => m' = m ∧ ∃ g k : List Int, j = g.length ∧ g ++ k = h ∧ σ' = [v0, some (.own a (intD (α ++ 7 :: g))), v2, v3, v4, v5, v6, some (.val (.list (intD k)))]) h.length ⟨rfl, h, [], rfl, by simp, rfl⟩ ?_
  rintro j m' σ' ⟨rfl, g, k, hj, hg, rfl⟩
  cases hj
  obtain ⟨ht, hr⟩ := step g k hg
  refine ⟨_, ht, fun hf => ?_, fun htr => ?_⟩
  · have : g = [] := by simpa using hf
    subst this
    have hk : k = h := by simpa using hg
    subst hk
    exact fin
  · have hne : g ≠ [] := by rintro rfl; simp at htr
    have e := (List.dropLast_concat_getLast hne).symm
    refine (hr _ _ e).weak ?_
    rintro fl m'' σ'' ⟨rfl, rfl, rfl⟩
    refine ⟨g.length - 1, by have := List.length_pos_iff.mpr hne; (first | lia (splits := 0) | lia (splits := 4) | omega), rfl, g.dropLast, g.getLast hne :: k, by simp, ?_, rfl⟩
    rw [← hg]
    conv => rhs; rw [e]
    simp
theorem f70 {W : Wd} {x : Str} {T : List Int} {res : D} {N : List D} {π : List Int} (hx : x.length ≤ 1000) (hc : ∀ p k, (cut x p k).length ≤ 1000) (hT : T.length ≤ x.length) (hcut : Cuts x 0 T) (hok : mok ([], []) T) (hm : T.foldl mst ([], []) = (π, N)) (hN : N.getLast? = some res) (hpos : ∀ (i : Nat) (t : Int), T[i]? = some t → 0 < t ∧ t < 256) :
    Fn W (fd 70).name [.str x] res 8 := by
  refine fn_of_run (vs := ["text", "pile", "parts", "place", "turn", "symbol", "width", "held"]) (wr := ["parts"]) (σ := [some (.val (.str x)), none, none, none, none, none, none, none]) ok70 (by decide) rfl (by decide) rfl fun env h₀ M₀ mine F => ?_
  refine' run_cons (r1_tup3 ?k1 ?k2 ?k3 (eul_new (evn_list evl_nil) fun a => eul_new (evn_list evl_nil) fun b => eul_val ev_int (eul_nil ⟨_, _, _, rfl, ex_ups ?u1 ?n1⟩)) ?w1)
  case' k1 => ktr_room
  case' k2 => ktr_room
  case' k3 => ktr_room
  case' w1 => exact (swapped_scope (env' := envAt (fd 70).scope) F.sc).trans (by kernel_rfl)
  case' u1 => k_upd
  case n1 =>
  refine' run_cons (r1_for (ds := (List.range (x.length + 1)).map fun i : Nat => D.int i) (fun i m σ' => m = Cat (Cat mine a) b ∧ i ≤ T.length ∧ ∃ (q : Int) (s : List Int × List D) (u1 u2 u3 u4 : Option V), Cuts x q (T.drop i) ∧ mok s (T.drop i) ∧ (T.drop i).foldl mst s = (π, N) ∧ s.1.length ≤ i ∧ s.2.length ≤ i ∧ σ' = [some (.val (.str x)), some (.own a (intD s.1)), some (.own b s.2), some (.val (.int q)), u1, u2, u3, u4]) rfl ?k4 (It.cast (it_range1 ?a4 ?s4 bb_range (by decide) ?k5) ?e4) ⟨rfl, Nat.zero_le _, 0, ([], []), none, none, none, none, hcut, hok, hm, Nat.le_refl _, Nat.le_refl _, rfl⟩ ?t4 ?f4)
  case' k4 => ktr_room
  case' a4 => ktr_rel
  case' k5 => ktr_room
  case' e4 => exact rng_nat _
  case' s4 => exact small_one (by decide) (by decide) (by (first | lia (splits := 0) | lia (splits := 4) | omega)) (by (first | lia (splits := 0) | lia (splits := 4) | omega))
  case f4 =>
    rintro m σ' ⟨_, hi, _⟩
    simp at hi
    (first | lia (splits := 0) | lia (splits := 4) | omega)
  case t4 =>
    rintro I i d m σ' hd ⟨rfl, hi, q, s, u1, u2, u3, u4, hcu, hmo, hfo, hs1, hs2, rfl⟩
    have c69 : ∀ W, Fn W (fd 69).name [.str x, .int q] (stepD (pieceOf x q)) 5 := fun W => f69 hx (hc q)
    refine ex_up (by k_upd) ?_
    refine' run_cons (r1_unpL2 ?k6 ?k7 (ev_call (i := 69) (c69 _) ?a6 (by decide) rfl (by decide) ?k8) ?u6 (run_cons (r1_assign (ev_bin ?a7 ?b7 opb_add) ?u7 ?k9 ?n7)))
    case' k6 => ktr_room
    case' k7 => ktr_room
    case' a6 => ktr_rel
    case' k8 => ktr_room
    case' u6 => k_upd
    case' a7 => ktr_rel
    case' b7 => ktr_rel
    case' u7 => k_upd
    case' k9 => ktr_room
    case n7 =>
    generalize hT' : T.drop i = T' at *
    cases hcu with
    | done hp =>
      rw [hp]
      have hs : s = (π, N) := by simpa using hfo
      subst hs
      have hN' : N[N.length - 1]? = some res := by rw [← List.getLast?_eq_getElem?]; exact hN
      refine' run_cons (r1_ift (tst_val (ev_call (i := 65) f65 ?a8 (by decide) rfl (by decide) ?k10) ?d8) ?h8 (run_cons (r1_return (ev_ownLast (ds := N) (d := res) ?l9 hN' ?z9) rfl)))
      case' a8 => ktr_rel
      case' h8 => rfl
      case' k10 => ktr_room
      case' l9 => refine' lkl_own ?m9
      case' m9 => k_mem
      case' d8 => trivial
      case' z9 => have h9 : N.length ≤ i := hs2
                  (first | lia (splits := 0) | lia (splits := 4) | omega)
      all_goals fold_lay
    | more hp h0 hcu' =>
      rename_i t w r
      rw [hp]
      have hti : T[i]? = some t := by
        have := congrArg (·[0]?) hT'
        simpa using this
      have hr : T.drop (i + 1) = r := by
        have : T.drop (i + 1) = (T.drop i).drop 1 := by rw [List.drop_drop]
        rw [this, hT']; rfl
      have hil : i < T.length := (List.getElem?_eq_some_iff.mp hti).1
      have ht := hpos i t hti
      have hfo' : r.foldl mst (mst s t) = (π, N) := hfo
      refine' run_cons (r1_iff (tst_val (ev_call (i := 65) f65 ?a11 (by decide) rfl (by decide) ?k11) ?d11) ?h11 (run_nil ?n11))
      case' a11 => ktr_rel
      case' k11 => ktr_room
      case' d11 => trivial
      case' h11 => exact beq_eq_false_iff_ne.mpr h0
      case n11 =>
      by_cases h8 : t = 8
      · subst h8
        obtain ⟨α, h, hs, h7, hl3, hlt⟩ := hmo.1 rfl
        have hlen : α.length + h.length + 1 ≤ i := by have := hs1; rw [hs] at this; simp at this; (first | lia (splits := 0) | lia (splits := 4) | omega)
        have e8 : mst s 8 = (α ++ [255 + ((s.2.length : Int) + 1)], s.2 ++ [build s.2 h]) := by
          have : s = (α ++ 7 :: h, s.2) := by rw [← hs]
          rw [this]; exact mst_close h7
        rw [hs]
        refine' run_cons (r1_ift (tst_cmp ?a32 ?b32 opc_eq) ?h32 (run_cons (r1_assign (ev_list evl_nil) ?u32 ?k32 (run_cons (f70while (α := α) (h := h) h7 ?l32 ?s32 ?f32)))))
        case' a32 => ktr_rel
        case' b32 => ktr_rel
        case' h32 => rfl
        case' u32 => k_upd
        case' k32 => ktr_room
        case l32 => simp; (first | lia (splits := 0) | lia (splits := 4) | omega)
        case s32 =>
          intro g k hgk
          refine ⟨?_, fun g' y hg => ?_⟩
          · refine' Tst.cast (tst_cmp (ev_ownLast (ds := intD (α ++ 7 :: g)) (d := .int ((7 :: g).getLast (by simp))) ?l33 ?d33 ?z33) ?b33 opc_ne) ?e33
            case' l33 => refine' lkl_own ?m33
            case' m33 => k_mem
            case' b33 => ktr_rel
            case d33 =>
              rw [List.length_map, List.getElem?_map, show α ++ 7 :: g = α ++ (7 :: g) from rfl, show (α ++ (7 :: g)).length - 1 = α.length + ((7 :: g).length - 1) by simp, List.getElem?_append_right (by (first | lia (splits := 0) | lia (splits := 4) | omega)), show α.length + ((7 :: g).length - 1) - α.length = (7 :: g).length - 1 by (first | lia (splits := 0) | lia (splits := 4) | omega), ← List.getLast?_eq_getElem?, List.getLast?_eq_some_getLast (by simp)]
              rfl
            case z33 => have := congrArg List.length hgk
                        simp at this ⊢; (first | lia (splits := 0) | lia (splits := 4) | omega)
            case e33 =>
              cases g with
              | nil => rfl
              | cons y g =>
                have : (7 :: y :: g).getLast (by simp) ∈ h := by
                  rw [List.getLast_cons (by simp)]
                  exact hgk ▸ List.mem_append_left _ (List.getLast_mem _)
                simp only [List.isEmpty_cons, Bool.not_false, bne_iff_ne, ne_eq]
                intro q
                exact h7 (q ▸ this)
          · subst hg
            rw [show intD (α ++ 7 :: (g' ++ [y])) = intD (α ++ 7 :: g') ++ [.int y] by simp]
            refine' run_cons (r1_popadd (a := a) (ds := intD (α ++ 7 :: g')) (d := .int y) rfl ?l34 ?u34 ?z34 ?b34 ?y34 ?v34 ?k34 (run_nil ⟨rfl, rfl, ?e34⟩))
            case' l34 => k_mem
            case' u34 => k_upd
            case' b34 => ktr_rel
            case' v34 => k_upd
            case' k34 => ktr_room
            case' e34 => rfl
            case z34 => have := congrArg List.length hgk
                        simp at this ⊢; (first | lia (splits := 0) | lia (splits := 4) | omega)
            case y34 => have := congrArg List.length hgk
                        simp at this ⊢; (first | lia (splits := 0) | lia (splits := 4) | omega)
        case f32 =>
          have hh : (intD h).length ≤ 3 := by simpa using hl3
          refine' run_cons (r1_pop (a := a) (ds := intD α) (d := .int 7) rfl ?l40 ?u40 ?z40 (run_cons (r1_append rfl ?l41 (Ev.cast (d' := build s.2 h) (ev_bin (ev_filter (ys := []) (l := h) (f := D.int) (g := D.int) (p := fun y => decide (y < 256)) (it_list ?a41) ?b41 ?ok41 ?t41 ?w41) (ev_filter (ys := ["parts"]) (l := h) (f := D.int) (g := fun y => s.2.getD (y - 256).toNat .none) (p := fun y => decide (256 ≤ y)) (it_list ?a42) ?b42 ?ok42 ?t42 ?w42) (opb_addl ?o42)) ?e42) ?u41 ?z41 (run_nil (run_cons (r1_append rfl ?l43 (ev_ift (tst_cmp ?a43 ?b43 (opc_in (c := true) ?c43 ?d43 ?e43 ?f43)) rfl (ev_bin ev_int (ev_ownLen (lkl_own ?m43) ?y43 bb_len (by decide) ?k43) opb_add)) ?u43 ?z43 (run_nil ?n43)))))))
          case l40 => rw [show intD α ++ [D.int 7] = intD (α ++ [7]) by simp]; k_mem
          case' u40 => k_upd
          case' l41 => k_mem
          case' a41 => ktr_rel
          case' ok41 => ktr_units
          case' a42 => ktr_rel
          case' ok42 => ktr_units
          case' u41 => k_upd
          case' l43 => k_mem
          case' a43 => ktr_rel
          case' b43 => ktr_rel
          case' c43 => rfl
          case' d43 => rfl
          case' e43 => exact Nat.le_refl 0
          case' f43 => rfl
          case' m43 => k_mem
          case' k43 => ktr_room
          case' u43 => k_upd
          case t41 =>
            intro I D C y hy
            refine' tst_val (ev_call (i := 63) f63 ?a44 (by decide) rfl (by decide) ?k44) ?d44
            case' a44 => ktr_rel
            case' k44 => ktr_room
            case' d44 => trivial
          case t42 =>
            intro I D C y hy
            refine' tst_val (ev_call (i := 64) f64 ?a45 (by decide) rfl (by decide) ?k45) ?d45
            case' a45 => ktr_rel
            case' k45 => ktr_room
            case' d45 => trivial
          case w41 =>
            intro I D C y hy hp
            ktr_rel
          case w42 =>
            intro I D C y hy hp
            have h6 : 256 ≤ y := of_decide_eq_true hp
            have h7 := hlt y hy h6
            refine' ev_ownItem (k := y - 256) ?a46 ?b46 ?c46 ?d46 ?e46 ?f46
            case' a46 => refine' lkl_ro ?g46
            case' g46 => k_mem
            case' b46 => ktr_rel
            case' f46 => intro _ _; rfl
            case' d46 => rw [List.getD_eq_getElem?_getD, List.getElem?_eq_getElem h7]; rfl
            all_goals fold_lay
          case o42 =>
            have h1 := List.length_filter_le (fun y => decide (y < 256)) h
            have h2 := List.length_filter_le (fun y => decide (256 ≤ y)) h
            rw [List.length_map, List.length_map]
            (first | lia (splits := 0) | lia (splits := 4) | omega)
          case e42 => rfl
          case n43 =>
            refine ⟨rfl, hil, q + w, mst s 8, some (.val d), some (.val (.int 8)), some (.val (.int w)), some (.val (.list (intD h))), by rw [hr]; exact hcu', by rw [hr]; exact hmo.2, by rw [hr]; exact hfo', ?_, ?_, ?_⟩
            · rw [e8]; simp; (first | lia (splits := 0) | lia (splits := 4) | omega)
            · rw [e8]; simp; (first | lia (splits := 0) | lia (splits := 4) | omega)
            · rw [e8]; simp [intD]
          all_goals first | (first | lia (splits := 0) | lia (splits := 4) | omega) | fold_lay
        all_goals fold_lay
      · by_cases h1 : t = 1
        · subst h1
          refine' run_cons (r1_iff (tst_cmp ?a22 ?b22 opc_eq) ?h22 (run_cons (r1_ift (tst_cmp ?a23 ?b23 opc_eq) ?h23 (run_cons (r1_append rfl ?l23 (ev_list evl_nil) ?u23 ?z23 (run_nil (run_nil (run_cons (r1_append rfl ?l24 (ev_ift (tst_cmp ?a24 ?b24 (opc_in (c := true) ?c24 ?d24 ?e24 ?f24)) rfl (ev_bin ev_int (ev_ownLen (lkl_own ?m24) ?y24 bb_len (by decide) ?k24) opb_add)) ?u24 ?z24 (run_nil ?n24))))))))))
          case' a22 => ktr_rel
          case' b22 => ktr_rel
          case' h22 => rfl
          case' a23 => ktr_rel
          case' b23 => ktr_rel
          case' h23 => rfl
          case' l23 => k_mem
          case' u23 => k_upd
          case' l24 => k_mem
          case' a24 => ktr_rel
          case' b24 => ktr_rel
          case' c24 => rfl
          case' d24 => rfl
          case' e24 => exact Nat.le_refl 0
          case' f24 => rfl
          case' m24 => k_mem
          case' k24 => ktr_room
          case' u24 => k_upd
          case' n24 =>
            have e1 : mst s 1 = (s.1 ++ [255 + ((s.2.length : Int) + 1)], s.2 ++ [.list []]) := by rw [mst, if_neg (by decide), if_pos rfl]
            refine ⟨rfl, hil, q + w, mst s 1, some (.val d), some (.val (.int 1)), some (.val (.int w)), u4, by rw [hr]; exact hcu', by rw [hr]; exact hmo.2, by rw [hr]; exact hfo', ?_, ?_, ?_⟩
            · rw [e1]; simp; (first | lia (splits := 0) | lia (splits := 4) | omega)
            · rw [e1]; simp; (first | lia (splits := 0) | lia (splits := 4) | omega)
            · rw [e1]; simp [intD]
          all_goals first | (first | lia (splits := 0) | lia (splits := 4) | omega) | fold_lay
        · refine' run_cons (r1_iff (tst_cmp ?a12 ?b12 opc_eq) ?h12 (run_cons (r1_iff (tst_cmp ?a13 ?b13 opc_eq) ?h13 (run_nil (run_nil (run_cons (r1_append rfl ?l14 (ev_iff (tst_cmp ?a14 ?b14 (opc_in (c := false) ?c14 ?d14 ?e14 ?f14)) rfl ?g14) ?u14 ?z14 (run_nil ?n14))))))))
          case' a12 => ktr_rel
          case' b12 => ktr_rel
          case' h12 => exact beq_eq_false_iff_ne.mpr h8
          case' a13 => ktr_rel
          case' b13 => ktr_rel
          case' h13 => exact beq_eq_false_iff_ne.mpr h1
          case' l14 => k_mem
          case' a14 => ktr_rel
          case' b14 => ktr_rel
          case' c14 => rfl
          case' d14 => rfl
          case' e14 => exact Nat.le_refl 0
          case' f14 => simp [pyL, D.py, PyData.eqv]; (first | lia (splits := 0) | lia (splits := 4) | omega)
          case' g14 => ktr_rel
          case' u14 => k_upd
          case' n14 =>
            refine ⟨rfl, hil, q + w, mst s t, some (.val d), some (.val (.int t)), some (.val (.int w)), u4, by rw [hr]; exact hcu', by rw [hr]; exact hmo.2, by rw [hr]; exact hfo', ?_, ?_, ?_⟩
            · rw [mst_sign h8 h1]; simp; (first | lia (splits := 0) | lia (splits := 4) | omega)
            · rw [mst_sign h8 h1]; exact Nat.le_succ_of_le hs2
            · rw [mst_sign h8 h1]; simp [intD]
          all_goals fold_lay
  all_goals fold_lay
noncomputable abbrev natD (l : List Nat) : List D := l.map fun k : Nat => .int (k : Int)
theorem rng_down (n : Nat) : rng (n : Int) 0 (-1) = (List.range n).map fun i : Nat => D.int ((n : Int) - i) := by
  unfold rng Builtin.Range.rangeSize
  rw [if_neg (by decide)]
  have : (if (n : Int) > 0 then ((n : Int) - 0 - 1) / (-(-1)) + 1 else 0).toNat = n := by
    rw [show (-(-1) : Int) = 1 by decide, Int.ediv_one]
    split <;> (first | lia (splits := 0) | lia (splits := 4) | omega)
  rw [this]
  exact List.map_congr_left fun i _ => congrArg D.int (by (first | lia (splits := 0) | lia (splits := 4) | omega))
theorem hts_get {s : List Stp} {k : Nat} (h : k ≤ s.length) : (intD (hts s))[k]? = some (.int (hAt s k)) := by
  unfold hts
  rw [List.getElem?_map, List.getElem?_map, List.getElem?_range (by (first | lia (splits := 0) | omega))]
  rfl
theorem hts_len {s : List Stp} : (hts s).length = s.length + 1 := by simp [hts]
theorem steps_get {s : List Stp} {k : Nat} {p : Stp} (h : s[k]? = some p) : (s.map stepD)[k]? = some (stepD p) := by rw [List.getElem?_map, h]; rfl
theorem nat_get {s : List Nat} {k a : Nat} (h : s[k]? = some a) : (natD s)[k]? = some (.int (a : Int)) := by rw [List.getElem?_map, h]; rfl
theorem flat_eq {x : D} : ∀ n, (List.replicate n [x]).flatten = List.replicate n x
  | 0 => rfl
  | n + 1 => by rw [List.replicate_succ, List.flatten_cons, flat_eq n]; rfl
theorem flat_len {x : D} {n : Nat} : (List.replicate n [x]).flatten.length = n := by rw [flat_eq, List.length_replicate]
theorem pick_last1 {l : List D} : pickL l (some (-1)) none none = l.drop (l.length - 1) := pick_last (k := 1) l (by decide)
theorem le_trans2 {l m : List D} {a b c : Nat} (h : l.length = a) (h' : m.length ≤ b) (h2 : a + b ≤ c) : (l.length + m.length ≤ c) := by (first | lia (splits := 0) | lia (splits := 4) | omega)
theorem run_seq {X : Cx} {n : Nat} {mine : MS} {σ : List (Option V)} {st : Stmt} {rest : List Stmt} {P : Post} {R : MS → List (Option V) → Prop} (a : Run1 X n mine σ st (fun fl m σ' => fl = .next ∧ R m σ')) (b : ∀ m σ', R m σ' → Run X n m σ' rest P) : Run X n mine σ (st :: rest) P :=
  run_cons fun A E s Q Ro S k => a A E s Q Ro S fun fl m σ' h' tk f p mv S' fr => by
    obtain ⟨rfl, r⟩ := p
    exact k .next m σ' h' tk f (b m σ' r) mv S' fr
noncomputable abbrev cutS (s : List Stp) (x y : Nat) : List Stp := (s.drop (x + 1)).take (y - 1 - (x + 1))
theorem pick_from1 {s : List Stp} {b : Nat} (h : b < s.length) : pickL (s.map stepD) (some ((b : Int) + 1)) none none = (s.drop (b + 1)).map stepD := by
  rw [pickL_map]; exact congrArg _ (pick_from (a := b + 1) s h)
theorem pick_to1 {s : List Stp} {a : Nat} (h1 : 1 ≤ a) (h : a ≤ s.length) : pickL (s.map stepD) none (some ((a : Int) - 1)) none = (s.take (a - 1)).map stepD := by
  rw [pickL_map, show (a : Int) - 1 = ((a - 1 : Nat) : Int) by (first | lia (splits := 0) | omega)]; exact congrArg _ (pick_to s (by (first | lia (splits := 0) | omega)))
theorem pick_cut {s : List Stp} {x y : Nat} (h : x < s.length) (h1 : 1 ≤ y) (hy : y ≤ s.length) : pickL (s.map stepD) (some ((x : Int) + 1)) (some ((y : Int) - 1)) none = (cutS s x y).map stepD := by
  rw [pickL_map, show (y : Int) - 1 = ((y - 1 : Nat) : Int) by (first | lia (splits := 0) | lia (splits := 4) | omega)]; exact congrArg _ (pick_run (a := x + 1) s h (by (first | lia (splits := 0) | lia (splits := 4) | omega)))
theorem sorted_at {p : Nat → Bool} {n j x y : Nat} {sp : List Nat} (h : (List.range n).filter p = sp) (hx : sp[j]? = some x) (hy : sp[j + 1]? = some y) : x < y := by
  have q : sp.Pairwise (· < ·) := h ▸ (List.pairwise_lt_range (n := n)).sublist List.filter_sublist
  obtain ⟨h1, rfl⟩ := List.getElem?_eq_some_iff.mp hx
  obtain ⟨h2, rfl⟩ := List.getElem?_eq_some_iff.mp hy
  exact List.pairwise_iff_getElem.mp q j (j + 1) h1 h2 (Nat.lt_succ_self j)
theorem f75 {W : Wd} {s sec : List Stp} {m mid : Int} {figs : List Int} {sp : List Nat} {a b : Nat} {T : Nat → D} {n : Nat}
    (hl : s.length ≤ 40) (hm : m ∈ hts s) (hx : ∀ x ∈ hts s, x ≤ m) (h5 : I2D W (m + 1) 1 figs (n + 8)) (hf : 1 ≤ figs.length) (hf2 : figs.length ≤ 100)
    (h6 : D2I W (List.replicate (figs.length - 1) 0 ++ figs.drop (figs.length - 1)) 1 (mid + 1) (n + 8))
    (hsp : (List.range (s.length + 1)).filter (fun k => hAt s k == mid) = sp) (h0 : sp[0]? = some a) (hb : sp[sp.length - 1]? = some b)
    (start : (mid ≤ 0 ∧ T (sp.length - 1) = .list []) ∨ (0 < mid ∧ 1 ≤ a ∧ ∃ p u v, s[b]? = some p ∧ (if hAt s s.length = 0 then tn (s.drop (b + 1)).reverse else s.drop (b + 1)) = sec ∧
      Fn W (fd 75).name [stepsD (s.take (a - 1))] u (n + 8) ∧ Fn W (fd 75).name [stepsD sec] v (n + 8) ∧ T (sp.length - 1) = .list [.int p.2, u, v]))
    (turn : ∀ j x y, sp[j]? = some x → sp[j + 1]? = some y → ∃ p, s[x]? = some p ∧ ((p.1 = 0 ∧ T j = .list [.int p.2, T (j + 1)]) ∨
      (p.1 = 1 ∧ ∃ u, Fn W (fd 75).name [stepsD (cutS s x y)] u (n + 8) ∧ T j = .list [.int p.2, T (j + 1), u]) ∨
      (p.1 ≠ 0 ∧ p.1 ≠ 1 ∧ ∃ u, Fn W (fd 75).name [stepsD (tn (cutS s x y))] u (n + 8) ∧ T j = .list [.int p.2, u, T (j + 1)]))) :
    Fn W (fd 75).name [stepsD s] (T 0) (n + 9) := by
  refine fn_of_run (vs := ["steps", "heights", "figures", "middle", "k", "spots", "tree", "second", "step", "inner"]) (wr := ["heights", "middle"]) (σ := [some (.val (stepsD s)), none, none, none, none, none, none, none, none, none]) ok75 (by decide) rfl (by decide) rfl fun env h₀ M₀ mine F => ?_
  have hhl : (intD (hts s)).length = s.length + 1 := by rw [List.length_map, hts_len]
  have hfl : (intD figs).length = figs.length := List.length_map _
  have hsl : sp.length ≤ 41 := by
    rw [← hsp]
    exact Nat.le_trans (List.length_filter_le _ _) (by rw [List.length_range]; (first | lia (splits := 0) | omega))
  have hsn : 0 < sp.length := by
    have := (List.getElem?_eq_some_iff.mp h0).1
    (first | lia (splits := 0) | omega)
  have hmem : ∀ k ∈ sp, k ≤ s.length := fun k hk => by
    rw [← hsp] at hk
    have := List.mem_range.mp (List.mem_filter.mp hk).1
    (first | lia (splits := 0) | omega)
  have ha := hmem a (List.mem_of_getElem? h0)
  have hbl := hmem b (List.mem_of_getElem? hb)
  refine' run_cons (r1_assign (ev_call (i := 74) (f74 (l := s) (by (first | lia (splits := 0) | omega))) ?a1 (by decide) rfl (by (first | lia (splits := 0) | omega)) ?k1) ?u1 ?j1 (run_cons (r1_assign (ev_call (i := 5) h5 (evl_cons (ev_bin (ev_blt (evl_cons ?a2 evl_nil) (opf_max hm hx) bb_max (by decide) ?k2) ev_int opb_add) (evl_cons ev_int evl_nil)) (by decide) rfl (by (first | lia (splits := 0) | omega)) ?k3) ?u2 ?j2 (run_cons (r1_assign (d := .int mid) (Ev.cast (ev_bin (ev_call (i := 6) h6 (evl_cons (Ev.cast (ev_bin (ev_bin ?a4 ?b4 (opb_mull ?c4 ?d4 ?e4)) (ev_slice ?f4 ?g4 ?h4 ?i4 ?j4 ?l4 ?m4) (opb_addl ?n4)) ?o4) (evl_cons ev_int evl_nil)) (by decide) rfl (by (first | lia (splits := 0) | omega)) ?k4) ev_int opb_sub) ?e3) ?u3 ?j3 ?n1)))))
  case' a1 => ktr_rel
  case' k1 => ktr_room
  case' u1 => k_upd
  case' j1 => ktr_room
  case' a2 => ktr_rel
  case' k2 => ktr_room
  case' k3 => ktr_room
  case' u2 => k_upd
  case' j2 => ktr_room
  case' a4 => ktr_rel
  case' b4 => ktr_rel
  case' f4 => ktr_rel
  case' g4 => ktr_rel
  case' h4 => ktr_rel
  case' i4 => ktr_rel
  case' k4 => ktr_room
  case' u3 => k_upd
  case' j3 => ktr_room
  case' m4 => intro _ _; rfl
  case' e3 => exact congrArg D.int (by (first | lia (splits := 0) | omega))
  case' c4 => exact Nat.le_refl 1
  case' j4 => intro q; cases q
  case' n4 => exact le_trans2 (by rw [flat_len]) (pick_len (hi := none)) (by rw [List.length_map]; (first | lia (splits := 0) | omega))
  case' o4 => rw [flat_eq, pick_last1, List.length_map, show ((figs.length : Int) - 1).toNat = figs.length - 1 by (first | lia (splits := 0) | omega), ← List.map_drop, ← List.map_replicate, ← List.map_append]
  case' d4 => (first | lia (splits := 0) | omega)
  case' e4 => (first | lia (splits := 0) | omega)
  case' l4 => (first | lia (splits := 0) | omega)
  case n1 =>
  refine' run_cons (r1_filter (ys := ["heights", "middle"]) (l := List.range (s.length + 1)) (f := fun k : Nat => .int (k : Int)) (g := fun k : Nat => .int (k : Int)) (p := fun k => hAt s k == mid) (It.cast (it_range1 ?a5 ?s5 bb_range (by decide) ?k5) ?e5) ?z5 ?ok5 ?t5 ?w5 ?u5 ?j5 ?n5 ?h5)
  case' a5 => ktr_rel
  case' k5 => ktr_room
  case' s5 => exact small_one (by decide) (by decide) (by rw [List.length_map, hts_len]; (first | lia (splits := 0) | omega)) (by rw [List.length_map, hts_len]; (first | lia (splits := 0) | omega))
  case' e5 => rw [List.length_map, hts_len]; exact rng_nat _
  case' ok5 => ktr_units
  case' u5 => rw [hsp]; k_upd
  case' j5 => ktr_room
  case' h5 => exact (swaps_scope (env' := envAt (fd 75).scope) F.sc).trans (by kernel_rfl)
  case' z5 => rw [List.length_range]; (first | lia (splits := 0) | omega)
  case t5 =>
    intro I D C k hk
    have hk' := List.mem_range.mp hk
    refine' tst_cmp (ev_item (d := .int (hAt s k)) ?a6 ?b6 ?c6 ?d6 ?e6 ?f6) ?g6 opc_eq
    case' a6 => ktr_rel
    case' b6 => ktr_rel
    case' f6 => intro _ _; rfl
    case' d6 => rw [Int.toNat_natCast]; exact hts_get (by (first | lia (splits := 0) | omega))
    case' g6 => ktr_rel
    all_goals (first | lia (splits := 0) | omega)
  case w5 =>
    intro I D C k hk hp
    ktr_rel
  case n5 =>
  refine' run_cons (r1_assign (ev_list evl_nil) ?u7 ?j7 (run_seq (R := fun m σ' => mine = m ∧ ∃ u, σ' = [some (.val (stepsD s)), some (.val (.list (intD (hts s)))), some (.val (.list (intD figs))), some (.val (.int mid)), none, some (.val (.list (natD sp))), some (.val (T (sp.length - 1))), u, none, none]) ?i7 ?n7))
  case' u7 => k_upd
  case' j7 => ktr_room
  case i7 =>
    rcases start with ⟨hm0, hT⟩ | ⟨hm0, ha1, p, u, v, hp, hsec, hu, hv, hT⟩
    · refine' r1_iff (tst_cmp ?a8 ?b8 opc_gt) (decide_eq_false (Int.not_lt.mpr hm0)) (run_nil ⟨rfl, rfl, none, ?e8⟩)
      case' a8 => ktr_rel
      case' b8 => ktr_rel
      case e8 => rw [hT]
    · have hbs : b < s.length := (List.getElem?_eq_some_iff.mp hp).1
      refine' r1_ift (tst_cmp ?a9 ?b9 opc_gt) (decide_eq_true hm0) (run_cons (r1_assign (d := stepsD sec) ?v9 ?u9 ?j9 (run_cons (r1_assign (d := .list [.int p.2, u, v]) (ev_list (evl_cons (ev_item (d := .int p.2) (ev_item (d := stepD p) ?a10 (ev_item_last (d := .int (b : Int)) ?b10 ?c10 ?d10) ?e10 ?f10 ?g10 ?h10) ev_int ?i10 rfl ?m10 ?o10) (evl_cons (ev_call (i := 75) hu (evl_cons (Ev.cast (ev_slice ?a11 ?b11 ?c11 ?d11 ?e11 ?f11 ?g11) ?h11) evl_nil) (by decide) rfl (by (first | lia (splits := 0) | omega)) ?k11) (evl_cons (ev_call (i := 75) hv (evl_cons ?a12 evl_nil) (by decide) rfl (by (first | lia (splits := 0) | omega)) ?k12) evl_nil))) ?z10) ?u10 ?j10 (run_nil ⟨rfl, rfl, some (.val (stepsD sec)), ?e9⟩)))))
      case' z10 => exact (by decide : 3 ≤ 1000000)
      case' a9 => ktr_rel
      case' b9 => ktr_rel
      case' u9 => k_upd
      case' j9 => ktr_room
      case' a10 => ktr_rel
      case' b10 => ktr_rel
      case' c10 => rw [List.length_map]; exact nat_get hb
      case' f10 => rw [Int.toNat_natCast]; exact steps_get hp
      case' h10 => intro _ _; rfl
      case' o10 => intro _ _; rfl
      case' a11 => ktr_rel
      case' b11 => ktr_rel
      case' c11 => refine' Prt.some (ev_bin (ev_item (d := .int (a : Int)) ?a14 ev_int ?b14 ?c14 ?d14 ?e14) ev_int opb_sub)
      case' a14 => ktr_rel
      case' c14 => exact nat_get h0
      case' e14 => intro _ _; rfl
      case' d11 => ktr_rel
      case' g11 => intro _ _; rfl
      case' h11 => exact congrArg D.list (pick_to1 ha1 ha)
      case' e11 => intro q; cases q
      case' k11 => ktr_room
      case' a12 => ktr_rel
      case' k12 => ktr_room
      case' u10 => k_upd
      case' j10 => ktr_room
      case e9 => rw [hT]
      case' v9 =>
        by_cases hz : hAt s s.length = 0
        · rw [if_pos hz] at hsec
          subst hsec
          refine' ev_ift (tst_cmp (ev_item_last (d := .int (hAt s s.length)) ?a16 ?b16 ?c16) ev_int opc_eq) ?d16 (ev_call (i := 71) (f71b (l := s.drop (b + 1)) ?e16) (evl_cons (Ev.cast (ev_slice ?a17 ?b17 ?c17 ?d17 ?e17 ?f17 ?g17) ?h17) (evl_cons ?i17 evl_nil)) (by decide) rfl (by (first | lia (splits := 0) | omega)) ?k17)
          case' a16 => ktr_rel
          case' b16 => rw [hhl]; exact hts_get (Nat.le_refl _)
          case' d16 => rw [hz]; rfl
          case' e16 => rw [List.length_drop]; (first | lia (splits := 0) | omega)
          case' a17 => ktr_rel
          case' b17 => refine' Prt.some (ev_bin (ev_item_last (d := .int (b : Int)) ?a18 ?b18 ?c18) ev_int opb_add)
          case' a18 => ktr_rel
          case' b18 => rw [List.length_map]; exact nat_get hb
          case' c17 => ktr_rel
          case' d17 => ktr_rel
          case' e17 => intro q; cases q
          case' g17 => intro _ _; rfl
          case' h17 => exact congrArg D.list (pick_from1 hbs)
          case' i17 => ktr_rel
          case' k17 => ktr_room
          all_goals first | (first | lia (splits := 0) | omega) | (rw [List.length_map]; (first | lia (splits := 0) | omega))
        · rw [if_neg hz] at hsec
          subst hsec
          refine' ev_iff (tst_cmp (ev_item_last (d := .int (hAt s s.length)) ?a19 ?b19 ?c19) ev_int opc_eq) ?d19 (Ev.cast (ev_slice ?a20 ?b20 ?c20 ?d20 ?e20 ?f20 ?g20) ?h20)
          case' a19 => ktr_rel
          case' b19 => rw [hhl]; exact hts_get (Nat.le_refl _)
          case' d19 => exact beq_eq_false_iff_ne.mpr hz
          case' a20 => ktr_rel
          case' b20 => refine' Prt.some (ev_bin (ev_item_last (d := .int (b : Int)) ?a21 ?b21 ?c21) ev_int opb_add)
          case' a21 => ktr_rel
          case' b21 => rw [List.length_map]; exact nat_get hb
          case' c20 => ktr_rel
          case' d20 => ktr_rel
          case' e20 => intro q; cases q
          case' g20 => intro _ _; rfl
          case' h20 => exact congrArg D.list (pick_from1 hbs)
          all_goals first | (first | lia (splits := 0) | omega) | (rw [List.length_map]; (first | lia (splits := 0) | omega))
      all_goals first | (first | lia (splits := 0) | omega) | (rw [List.length_map]; (first | lia (splits := 0) | omega))
  case n7 =>
    rintro _ _ ⟨rfl, u7, rfl⟩
    refine' run_cons (r1_for (ds := (List.range (sp.length - 1)).map fun i : Nat => D.int (((sp.length - 1 : Nat) : Int) - i)) (fun i m σ' => m = mine ∧ ∃ u4 u7 u8 u9, σ' = [some (.val (stepsD s)), some (.val (.list (intD (hts s)))), some (.val (.list (intD figs))), some (.val (.int mid)), u4, some (.val (.list (natD sp))), some (.val (T (sp.length - 1 - i))), u7, u8, u9]) rfl ?k22 (It.cast (it_range3 ?a22 ?s22 rfl bb_range (by decide) ?l22) ?e22) ⟨rfl, none, u7, none, none, rfl⟩ ?t22 ?f22)
    case' k22 => ktr_room
    case' a22 => ktr_rel
    case' s22 => exact small_down (by rw [List.length_map]; (first | lia (splits := 0) | omega)) (by rw [List.length_map]; (first | lia (splits := 0) | omega)) (by decide) (by decide)
    case' l22 => ktr_room
    case' e22 => rw [List.length_map, show ((sp.length : Int) - 1) = ((sp.length - 1 : Nat) : Int) by (first | lia (splits := 0) | omega)]; exact rng_down _
    case f22 =>
      rintro m σ' ⟨rfl, u4, u7, u8, u9, rfl⟩
      refine' run_cons (r1_return ?a23 ?p23)
      case' a23 => ktr_rel
      case' p23 => rw [List.length_map, List.length_range, Nat.sub_self]
    case t22 =>
      rintro I i d m σ' hd ⟨rfl, u4, u7, u8, u9, rfl⟩
      rw [List.getElem?_map] at hd
      have hi : i < sp.length - 1 := by
        rcases Nat.lt_or_ge i (sp.length - 1) with h | h
        · exact h
        · rw [List.getElem?_eq_none (by rw [List.length_range]; exact h)] at hd; cases hd
      rw [List.getElem?_range hi] at hd
      have hde : d = D.int (((sp.length - 1 : Nat) : Int) - i) := (Option.some.inj hd).symm
      obtain ⟨j, hj⟩ : ∃ j, sp.length - 1 - i = j + 1 := ⟨sp.length - 1 - i - 1, by (first | lia (splits := 0) | omega)⟩
      obtain ⟨x, hx⟩ : ∃ x, sp[j]? = some x := ⟨sp[j]'(by (first | lia (splits := 0) | omega)), List.getElem?_eq_getElem (by (first | lia (splits := 0) | omega))⟩
      obtain ⟨y, hy⟩ : ∃ y, sp[j + 1]? = some y := ⟨sp[j + 1]'(by (first | lia (splits := 0) | omega)), List.getElem?_eq_getElem (by (first | lia (splits := 0) | omega))⟩
      have hyl := hmem y (List.mem_of_getElem? hy)
      have hxy : x < y := sorted_at hsp hx hy
      obtain ⟨p, hp, hturn⟩ := turn j x y hx hy
      have hk : (((sp.length - 1 : Nat) : Int) - i) = ((j + 1 : Nat) : Int) := by clear hturn; (first | lia (splits := 0) | omega)
      rw [hk] at hde
      subst hde
      rw [hj, show sp.length - 1 - (i + 1) = j by clear hturn; (first | lia (splits := 0) | omega)]
      refine ex_up (by k_upd) ?_
      refine' run_cons (r1_tupS2 ?k25 ?l25 (eul_val (d := stepD p) (ev_item (d := stepD p) ?a25 (ev_item (d := .int (x : Int)) ?b25 (ev_bin ?c25 ev_int opb_sub) ?d25 ?e25 ?f25 ?g25) ?h25 ?i25 ?j25 ?m25) (eul_val (d := stepsD (cutS s x y)) (Ev.cast (ev_slice ?a26 ?b26 ?c26 ?d26 ?e26 ?f26 ?g26) ?h26) (eul_nil ⟨_, _, rfl, ex_ups ?u25 ?n25⟩))) ?w25)
      case' k25 => ktr_room
      case' l25 => ktr_room
      case' a25 => ktr_rel
      case' b25 => ktr_rel
      case' c25 => ktr_rel
      case' e25 => rw [show (((j + 1 : Nat) : Int) - 1).toNat = j by clear hturn; (first | lia (splits := 0) | omega)]; exact nat_get hx
      case' g25 => intro _ _; rfl
      case' i25 => rw [Int.toNat_natCast]; exact steps_get hp
      case' m25 => intro _ _; rfl
      case' a26 => ktr_rel
      case' b26 => refine' Prt.some (ev_bin (ev_item (d := .int (x : Int)) ?a27 (ev_bin ?b27 ev_int opb_sub) ?c27 ?d27 ?e27 ?f27) ev_int opb_add)
      case' a27 => ktr_rel
      case' b27 => ktr_rel
      case' d27 => rw [show (((j + 1 : Nat) : Int) - 1).toNat = j by clear hturn; (first | lia (splits := 0) | omega)]; exact nat_get hx
      case' f27 => intro _ _; rfl
      case' c26 => refine' Prt.some (ev_bin (ev_item (d := .int (y : Int)) ?a28 ?b28 ?c28 ?d28 ?e28 ?f28) ev_int opb_sub)
      case' a28 => ktr_rel
      case' b28 => ktr_rel
      case' d28 => rw [Int.toNat_natCast]; exact nat_get hy
      case' f28 => intro _ _; rfl
      case' d26 => ktr_rel
      case' e26 => intro q; cases q
      case' g26 => intro _ _; rfl
      case' h26 => exact congrArg D.list (pick_cut (by clear hturn; (first | lia (splits := 0) | omega)) (by clear hturn; (first | lia (splits := 0) | omega)) hyl)
      case' u25 => k_upd
      case' w25 => exact (swapped_scope (env' := envAt (fd 75).scope) F.sc).trans (by kernel_rfl)
      case n25 =>
        rcases hturn with ⟨h1, hT⟩ | ⟨h1, u, hu, hT⟩ | ⟨h1, h2, u, hu, hT⟩
        · refine' run_cons (r1_ift (tst_cmp ?a30 ?b30 opc_eq) ?h30 (run_cons (r1_assign ?c30 ?u30 ?j30 (run_nil (run_nil ?n30)))))
          case' a30 => ktr_rel
          case' b30 => ktr_rel
          case' h30 => rw [h1]; rfl
          case' c30 => ktr_rel
          case' u30 => k_upd
          case' j30 => ktr_room
          case' n30 => rw [hT]; exact ⟨rfl, _, _, _, _, rfl⟩
          all_goals first | rfl | decide
        · refine' run_cons (r1_iff (tst_cmp ?a31 ?b31 opc_eq) ?h31 (run_cons (r1_ift (tst_cmp ?c31 ?d31 opc_eq) ?e31 (run_cons (r1_assign (d := .list [.int p.2, T (j + 1), u]) (ev_list (evl_cons ?f31 (evl_cons ?g31 (evl_cons (ev_call (i := 75) hu (evl_cons ?i31 evl_nil) (by decide) rfl (by (first | lia (splits := 0) | omega)) ?k31) evl_nil))) ?l31) ?u31 ?j31 (run_nil (run_nil (run_nil ?n31))))))))
          case' a31 => ktr_rel
          case' b31 => ktr_rel
          case' h31 => rw [h1]; rfl
          case' c31 => ktr_rel
          case' d31 => ktr_rel
          case' e31 => rw [h1]; rfl
          case' f31 => ktr_rel
          case' g31 => ktr_rel
          case' i31 => ktr_rel
          case' k31 => ktr_room
          case' u31 => k_upd
          case' j31 => ktr_room
          case' l31 => exact (by decide : 3 ≤ 1000000)
          case' n31 => rw [hT]; exact ⟨rfl, _, _, _, _, rfl⟩
          all_goals first | rfl | decide
        · refine' run_cons (r1_iff (tst_cmp ?a32 ?b32 opc_eq) ?h32 (run_cons (r1_iff (tst_cmp ?c32 ?d32 opc_eq) ?e32 (run_cons (r1_assign (d := .list [.int p.2, u, T (j + 1)]) (ev_list (evl_cons ?f32 (evl_cons (ev_call (i := 75) hu (evl_cons (ev_call (i := 71) (f71a (l := cutS s x y) ?m32) ?i32 (by decide) rfl (by (first | lia (splits := 0) | omega)) ?o32) evl_nil) (by decide) rfl (by (first | lia (splits := 0) | omega)) ?k32) (evl_cons ?g32 evl_nil))) ?l32) ?u32 ?j32 (run_nil (run_nil (run_nil ?n32))))))))
          case' a32 => ktr_rel
          case' b32 => ktr_rel
          case' h32 => exact beq_eq_false_iff_ne.mpr h1
          case' c32 => ktr_rel
          case' d32 => ktr_rel
          case' e32 => exact beq_eq_false_iff_ne.mpr h2
          case' f32 => ktr_rel
          case' g32 => ktr_rel
          case' i32 => ktr_rel
          case' o32 => ktr_room
          case' k32 => ktr_room
          case' u32 => k_upd
          case' j32 => ktr_room
          case' l32 => exact (by decide : 3 ≤ 1000000)
          case' m32 => exact Nat.le_trans (List.length_take_le _ _) (by (first | lia (splits := 0) | omega))
          case' n32 => rw [hT]; exact ⟨rfl, _, _, _, _, rfl⟩
          all_goals first | rfl | decide
      all_goals first | (clear hturn; (first | lia (splits := 0) | omega)) | (first | lia (splits := 0) | omega) | (rw [List.length_map]; (first | lia (splits := 0) | omega))
  all_goals first | (first | lia (splits := 0) | omega) | (rw [hfl]; (first | lia (splits := 0) | omega))
noncomputable def FnX (f c' : Addr) (name qual : Str) (params : Arguments) (body : List Stmt) (scope : Scope) (cl : List (Str × Addr)) (h : Heap) : Prop :=
  (∃ doc pm ctv, h.get? f = some (fnMade name qual params body scope cl doc pm c' ctv)) ∧ h.CodeRec (.ref c') qual
section
variable {X : Cx} {mine : MS} {σ : List (Option V)} {n : Nat}
theorem FnX.rep {M : MS} {h : Heap} {f c' : Addr} {name qual : Str} {params : Arguments} {body : List Stmt} {scope : Scope} {cl : List (Str × Addr)} (x : FnX f c' name qual params body scope cl h) (mf : ¬ M f) (mc : ¬ M c') :
    ObRep M h [f, c'] (FnX f c' name qual params body scope cl) := by
  refine ⟨x, fun a ha => ?_, fun h₁ h₂ k x => ?_⟩
  · rcases List.mem_cons.mp ha with rfl | ha
    · obtain ⟨d, p, t, e⟩ := x.1
      exact ⟨mf, _, e⟩
    · rw [List.mem_singleton] at ha
      subst ha
      obtain ⟨c, o, vs, t, a, b, d, r⟩ := x.2
      cases a
      exact ⟨mc, o, b⟩
  · obtain ⟨⟨d, p, t, e⟩, c, o, vs, u, a, b, dd, r⟩ := x
    refine ⟨⟨d, p, t, (k f (.head _) _ e).get (by intro q; cases q)⟩, ?_⟩
    rcases k c' (.tail _ (.head _)) o (by cases a; exact b) with q | ⟨_, vs', more, d', q⟩
    · exact ⟨c', o, vs, u, rfl, q, dd, r⟩
    · rw [dd] at d'
      cases d'
      refine ⟨c', _, _, u, rfl, q, rfl, ?_⟩
      rw [Array.getElem?_append_left, r]
      cases hv : vs[1]? with
      | none => (first | exact (no_get r hv).elim | exact (no_get hv r).elim | (rw [r] at hv; cases hv))
      | some _ => exact (Array.getElem?_eq_some_iff.mp hv).1
theorem bat {W : Wd} {h : Heap} {P : Addr} (G : GS W h) (hP : ∃ ps, h.get? P = some (tabObj ps)) : h.BuiltinsAt W.mg P ∧ mainGlobals ≠ P := by
  have e4 : h.get? 4 = some (boot_o_4 W.w.params) := G.kin 4 _ rfl
  obtain ⟨ps, hP⟩ := hP
  refine ⟨⟨4, _, G.bm, by decide, by decide, fun q => ?_, e4, rfl, rfl, rfl⟩, fun q => ?_⟩
  · rw [← q, e4] at hP; cases hP
  · obtain ⟨o, es, ep, e, hd, _⟩ := G.g
    rw [q, hP] at e; cases e; cases hd
theorem hd_keep {h h' : Heap} {c P P' : Addr} (hx : ∀ b o, b ≠ P' → h.get? b = some o → h'.get? b = some o) (C : CodeHd h c P) (z : c ≠ P') : CodeHd h' c P :=
  let ⟨o, vs, f, tf, fl, tg, ib, n, tt, e, r⟩ := C; ⟨o, vs, f, tf, fl, tg, ib, n, tt, hx _ _ z e, r⟩
theorem r1_def {name : Str} {params : Arguments} {body : List Stmt} {scope : Scope} {pos : Pos} {q : Nest} {cl : List (Str × Addr)} {P : Post}
    (hq : q ∈ X.W.nest) (hd : ∀ q' ∈ X.W.nest, q'.P = q.P → q' = q) (hcode : X.env.code = .ref q.c) (hl : q.line = pos.line) (hc : q.col = pos.col) (hqual : qualnameIn X.env name name = q.qual)
    (hcl : ∀ h, St X mine σ h → closureFor scope X.env = pure cl) (d0 : params.defaults = []) (k0 : params.kw_defaults = []) (a0 : annTrees params none X.env = []) (hk : X.env.kindOf name = some .local ∨ name ∈ X.wr)
    (hP : ∀ f c', ∃ σ', Up X.vs σ name (.ob (.ref f) [f, c'] (FnX f c' name q.qual params body scope cl)) σ' ∧ P .next mine σ') : Run1 X n mine σ (.FunctionDef name params body [] none [] scope none name pos) P := fun A E s Q R S k => by
  obtain ⟨nc, nP, C, T⟩ := S.tb q hq
  have hT : ∃ ps, s.heap.get? q.P = some (tabObj ps) := by rcases T with e | ⟨_, _, e, _⟩ <;> exact ⟨_, e⟩
  obtain ⟨hb, hgP⟩ := bat S.gsAt hT
  have fin : ∀ (h' : Heap) (tk : Nat) (c' : Addr) (doc pm ctv : Value), Ext X.W.tabs s.heap h' → TB X.W (X.MM mine) h' → h'.CodeRec (.ref c') q.qual → ¬ X.MM mine c' → c' < h'.objs.size →
      wpAny X.W.M A (storeName X.env name (.ref h'.objs.size)) (fun _ s'' => Q .next s'') E { s with heap := h'.push (fnMade name q.qual params body scope cl doc pm c' ctv), toks := tk } := fun h' tk c' doc pm ctv kx tb cr mc lt => by
    have S' : St X mine σ (h'.push (fnMade name q.qual params body scope cl doc pm c' ctv)) := (S.step kx tb).sub (alloc_sub _ _)
    obtain ⟨σ', up, p⟩ := hP h'.objs.size c'
    obtain ⟨i, hx, rfl⟩ := up.index
    have fx : FnX h'.objs.size c' name q.qual params body scope cl (h'.push (fnMade name q.qual params body scope cl doc pm c' ctv)) := ⟨⟨doc, pm, ctv, Heap.get?_push_size _ rfl⟩, codeRec_sub cr (alloc_sub _ _)⟩
    refine store_var S' hx hk (u := .ob _ _ _) ⟨rfl, fx.rep ((S.step kx tb).live.none (alloc_none _)) mc⟩ (fun _ _ e => by cases e) (fun _ _ e => by cases e) fun h₂ t₂ mv S₂ => k _ _ _ h₂ t₂ _ p ((Mv.of (kx.trans (.of (alloc_sub _ _)))).tr mv) S₂ .next
  refine nestDef_K d0 k0 a0 ?_
  rw [hqual]
  rcases T with e | ⟨c', m3, e, cr⟩
  · refine makeFunction_K (hcl _ S) S.ok.gl S.gsAt.g hcode C e trivial rfl hgP hb fun c' ctv doc h' tk hx hge hlt hrec htb => ?_
    have fc : s.heap.get? c' = none := Heap.get?_none_of_le hge
    have kx : Ext X.W.tabs s.heap h' := fun b o e' => by
      by_cases z : b = q.P
      · subst z
        (first | exact (no_get e e').elim | exact (no_get e' e).elim | (rw [e] at e'; cases e'))
        exact .inr ⟨List.mem_map_of_mem hq, rfl, #[], _, rfl, htb⟩
      · exact .inl (hx b o z e')
    refine fin h' tk c' doc _ ctv kx (fun q' hq' => ?_) hrec (S.live.none fc) hlt
    obtain ⟨m1, m2, C', T'⟩ := S.tb q' hq'
    refine ⟨m1, m2, hd_keep hx C' (fun z => ?_), ?_⟩
    · rw [z] at C'
      obtain ⟨o, vs, f, tf, fl, tg, ib, n, tt, e', c, d, r⟩ := C'
      (first | exact (no_get e e').elim | exact (no_get e' e).elim | (rw [e] at e'; cases e')); cases c
    · by_cases z : q'.P = q.P
      · obtain rfl := hd q' hq' z
        exact .inr ⟨c', S.live.none fc, by rw [hl, hc]; exact htb, hrec⟩
      · refine T'.imp (hx _ _ z) fun ⟨c'', m3, e', r⟩ => ⟨c'', m3, hx _ _ z e', codeRec_at r fun o e2 => hx _ _ (fun zz => ?_) e2⟩
        subst zz
        obtain ⟨c3, o3, vs, t, a, b, d, rr⟩ := r
        cases a
        (first | exact (no_get e b).elim | exact (no_get b e).elim | (rw [e] at b; cases b)); cases d; cases rr
  · have hf : codeAmong pos (#[rawInt q.line, rawInt q.col, .ref c'] : Array Value).toList = some (.ref c') := by
      rw [hl, hc]
      show (if ((pos.line : Int) == pos.line && (pos.col : Int) == pos.col) = true then _ else _) = _
      rw [beq_self_eq_true, beq_self_eq_true]; rfl
    refine makeFunction_hit (hcl _ S) S.ok.gl S.gsAt.g hcode C e trivial hf hb fun ctv doc h' tk hk' hsz => ?_
    have kx : Sub s.heap h' := hk'
    have cr' := codeRec_sub cr kx
    refine fin h' tk c' doc _ ctv (.of kx) (S.tb.sub kx) cr' m3 ?_
    obtain ⟨c3, o3, vs, t, a, b, d, rr⟩ := cr'
    cases a
    exact Heap.lt_size b
end
inductive Fre (vs : List Str) (σ : List (Option V)) (D : MS) : List Str → List (Option V) → Prop
  | nil : Fre vs σ D [] []
  | cons {y : Str} {u : V} {ys : List Str} {us : List (Option V)} : Lk vs σ y u → (∀ a ds, u = .own a ds → D a) → (∀ a ds, u ≠ .ro a ds) → Fre vs σ D ys us → Fre vs σ D (y :: ys) (some u :: us)
theorem Fre.at {vs : List Str} {σ : List (Option V)} {D : MS} {ys : List Str} {us : List (Option V)} (c : Fre vs σ D ys us) : ∀ {j : Nat} {u : V}, us[j]? = some (some u) → ∃ y, ys[j]? = some y ∧ Lk vs σ y u ∧ (∀ a ds, u = .own a ds → D a) ∧ ∀ a ds, u ≠ .ro a ds := by
  induction c with
  | nil => intro j u h; simp at h
  | cons a b d r ih =>
    intro j u h
    cases j with
    | zero => simp at h; subst h; exact ⟨_, rfl, a, b, d⟩
    | succ j => simpa using ih (j := j) (by simpa using h)
structure ClOk (X : Cx) (name qual : Str) (params : Arguments) (body : List Stmt) (scope : Scope) (cl : List (Str × Addr)) (ps ms ys : List Str) : Prop where
  kind : scope.kind = .function
  co : scope.isCoroutine = false
  gen : scope.isGenerator = false
  nodup : (ps ++ (ms ++ ys)).Nodup
  nodbg : ∀ x ∈ ps ++ (ms ++ ys), (x == ("__debug__" : Str)) = false
  nocell : ∀ x ∈ scope.names, x.2 ≠ .cell
  pk : ∀ x ∈ ps, scope.names.lookup x = some .local
  fk : ∀ y ∈ ys, scope.names.lookup y = some .free ∧ (y == ("__classdict__" : Str)) = false
  cell : ∀ y ∈ ys, X.env.kindOf y ≠ some .local ∧ ∀ c, X.env.cells.lookup y = some c → cl.lookup y = some c
  clo : (∀ x ∈ X.wr, ∃ c, X.env.cells.lookup x = some c) → ∀ x c, cl.lookup x = some c → ∃ y, X.env.cells.lookup y = some c
  bind : ∀ doc pm c' ctv (l : List Value), l.length = ps.length → bindArgs (fnX name qual params body scope cl .none .none doc pm none (.ref c') ctv) ⟨l, []⟩ = pure (ps.zip l)
noncomputable abbrev Cx.clo (X : Cx) (mine : MS) (D : MS) (qual : Str) (scope : Scope) (L f c' : Addr) (cl : List (Str × Addr)) (vs : List Str) : Cx :=
  ⟨X.W, envX qual scope L f (.ref c') cl, vs, X.h₀, fun b => X.MM mine b ∧ ¬ D b, [], true⟩
theorem lookup_zip : ∀ {xs : List Str} {vs : List Value} {i : Nat} {x : Str} {v : Value}, xs.Nodup → xs[i]? = some x → vs[i]? = some v → (xs.zip vs).reverse.lookup x = some v
  | [], _, _, _, _, _, h, _ => by simp at h
  | _ :: _, [], _, _, _, _, _, h => by simp at h
  | a :: xs, b :: vs, 0, x, v, nd, h1, h2 => by
    simp at h1 h2
    subst h1; subst h2
    rw [List.zip_cons_cons, List.reverse_cons, List.lookup_append]
    have : (xs.zip vs).reverse.lookup a = none := by
      rw [List.lookup_eq_none_iff]
      intro p hp
      have h := (List.of_mem_zip (a := p.1) (b := p.2) (List.mem_reverse.mp hp)).1
      exact bne_iff_ne.mpr fun q => (List.nodup_cons.mp nd).1 (by rw [← q] at h; exact h)
    rw [this]
    simp
  | a :: xs, b :: vs, i + 1, x, v, nd, h1, h2 => by
    rw [List.zip_cons_cons, List.reverse_cons, List.lookup_append, lookup_zip (List.nodup_cons.mp nd).2 (by simpa using h1) (by simpa using h2)]
    rfl
section
variable {X : Cx} {mine : MS} {σ : List (Option V)} {n : Nat}
theorem VRepL.at {M mine : MS} {h : Heap} {vals : List Value} {us : List V} (r : VRepL M mine h vals us) : ∀ {j : Nat} {u : V}, us[j]? = some u → ∃ val, vals[j]? = some val ∧ VRep M mine h val u := by
  induction r with
  | nil => intro j u e; simp at e
  | cons a r ih =>
    intro j u e
    cases j with
    | zero => simp at e; subst e; exact ⟨_, rfl, a⟩
    | succ j => simpa using ih (j := j) (by simpa using e)
theorem clo_enter {vs : List Str} {σ₀ : List (Option V)} {f c' : Addr} {name qual : Str} {params : Arguments} {body : List Stmt} {scope : Scope} {cl : List (Str × Addr)} {ps ms ys : List Str} {us : List V} {frees : List (Option V)} {D : MS}
    {A : Around} {s : Shared} {R : Result → Shared → Prop} {vals : List Value}
    (S : St X mine σ s.heap) (Ro : Room A (n + 1)) (fx : FnX f c' name qual params body scope cl s.heap) (ok : ClOk X name qual params body scope cl ps ms ys) (ra : VRepL (X.MM mine) mine s.heap vals us) (hl : us.length = ps.length)
    (hu : (∀ a ds, V.own a ds ∉ us) ∧ ∀ a ds, V.ro a ds ∉ us)
    (hD : ∀ a, D a → mine a ∧ ∃ o, s.heap.get? a = some o) (fr : Fre X.vs σ D ys frees) (hdist : ∀ (i j : Nat) a ds es, frees[i]? = some (some (V.own a ds)) → frees[j]? = some (some (V.own a es)) → i = j)
    (hvs : vs = ps ++ (ms ++ ys)) (hσ : σ₀ = us.map some ++ (ms.map (fun _ => none) ++ frees))
    (k : ∀ L h₁ tk A' E', s.heap.get? L = none → Sub s.heap h₁ → Room A' n → St (X.clo mine D qual scope L f c' cl vs) (fun b => b = L ∨ D b) σ₀ h₁ →
      wpAny X.W.M A' (execs body (envX qual scope L f (.ref c') cl)) (fun fw s' => R (.ok (.ret (match fw with | .ret v => v | _ => .none))) s') E' { s with heap := h₁, toks := tk }) :
    codeAny X.W.M A (.call (.ref f) ⟨vals, []⟩) R s := by
  subst hvs
  subst hσ
  obtain ⟨⟨doc, pm, ctv, ho⟩, hcd⟩ := fx
  have hvl : vals.length = ps.length := ra.length.trans hl
  have nd : ps.Nodup := (List.nodup_append.mp ok.nodup).1
  refine codeAny_call_def Ro.d ho rfl S.gsAt.nolimit hcd rfl (BindsTo.of_eq (ok.bind doc pm c' ctv vals hvl)) ok.nocell (fun y hy => ok.pk y.1 (List.of_mem_zip hy).1) (fun h₁ hns hk => ?_) ok.co ok.gen ok.kind
  generalize hL : s.heap.objs.size = L at hns ⊢
  have fL : s.heap.get? L = none := hL ▸ alloc_none s.heap
  have sub : Sub s.heap h₁ := hk
  have old : ∀ b o, s.heap.get? b = some o → (X.clo mine D qual scope L f c' cl (ps ++ (ms ++ ys))).MM (fun b => b = L ∨ D b) b → X.MM mine b := fun b o e z => by
    rcases z with z | rfl | z
    · exact z.1
    · (first | exact (no_get fL e).elim | exact (no_get e fL).elim | (rw [fL] at e; cases e))
    · exact .inr (hD b z).1
  have S' : St (X.clo mine D qual scope L f c' cl (ps ++ (ms ++ ys))) (fun b => b = L ∨ D b) (us.map some ++ (ms.map (fun _ => none) ++ frees)) h₁ := {
    ok := ⟨ok.kind, rfl, rfl, ok.nodup, ok.nodbg, fun q => absurd rfl q⟩
    gs := S.gs
    ext := S.ext.trans (.of sub)
    tb := S.tb.but (fun b o _ e => sub b o e) old
    disj := fun a z q => q.elim (fun q => by subst q; exact S.live.none fL z.1) z.2
    live := fun a z => by
      rcases z with z | rfl | z
      · obtain ⟨o, e⟩ := S.live a z.1; exact ⟨o, sub _ _ e⟩
      · obtain ⟨o, _, _, e, _⟩ := hns; exact ⟨o, e⟩
      · obtain ⟨_, e⟩ := (hD a z).2; exact ⟨_, sub _ _ e⟩
    fresh := fun a z => z.elim (fun z => by subst z; exact S.fresh0 fL) fun z => S.fresh a (hD a z).1
    ns := ⟨.inl rfl, _, hns⟩
    cells := fun x hx => by cases hx
    var := fun j v e => by
      by_cases h1 : j < us.length
      · rw [List.getElem?_append_left (by simpa using h1), List.getElem?_map] at e
        have hd' : us[j]? = some v := by
          cases q : us[j]? with
          | none => (first | exact (no_get q e).elim | exact (no_get e q).elim | (rw [q] at e; cases e))
          | some d => rw [q] at e; simp at e; rw [e]
        obtain ⟨val, hval, hr⟩ := ra.at hd'
        have hx : ps[j]? = some (ps[j]'(by (first | lia (splits := 0) | lia (splits := 4) | omega))) := List.getElem?_eq_getElem _
        refine ⟨_, val, by rw [List.getElem?_append_left (by (first | lia (splits := 0) | lia (splits := 4) | omega))]; exact hx, .inl ⟨ok.pk _ (List.mem_of_getElem? hx), _, hns, lookup_zip nd hx hval⟩, ?_⟩
        have hm := List.mem_of_getElem? hd'
        cases v with
        | val d => exact Rep.mono hr (fun b vs n _ => ⟨sub _ _, sub _ _⟩) old
        | own a ds => exact absurd hm (hu.1 a ds)
        | ro a ds => exact absurd hm (hu.2 a ds)
        | ob u L' F => exact ⟨hr.1, hr.2.mono (fun a o _ _ e => .inl (sub _ _ e)) old⟩
      · rw [List.getElem?_append_right (by simpa using h1), List.length_map] at e
        by_cases h2 : j - us.length < ms.length
        · rw [List.getElem?_append_left (by simpa using h2), List.getElem?_map] at e
          cases q : ms[j - us.length]? with
          | none => (first | exact (no_get q e).elim | exact (no_get e q).elim | (rw [q] at e; cases e))
          | some d => (first | exact (no_get q e).elim | exact (no_get e q).elim | (rw [q] at e; cases e))
        · rw [List.getElem?_append_right (by simpa using h2), List.length_map] at e
          obtain ⟨y, hy, lk, how, hro⟩ := fr.at e
          obtain ⟨i, val, _, _, va, vr⟩ := lk.at S
          have hym := List.mem_of_getElem? hy
          refine ⟨y, val, by rw [List.getElem?_append_right (by (first | lia (splits := 0) | lia (splits := 4) | omega)), List.getElem?_append_right (by (first | lia (splits := 0) | lia (splits := 4) | omega)), ← hl]; exact hy, .inr ⟨.inr (ok.fk y hym), ?_⟩, ?_⟩
          · rcases va with ⟨q, _⟩ | ⟨_, c, hc, hv⟩
            · exact absurd q (ok.cell y hym).1
            · exact ⟨c, (ok.cell y hym).2 c hc, cell_ext (T := []) hv (.of sub)⟩
          · cases v with
            | val d => exact Rep.mono vr (fun b vs n _ => ⟨sub _ _, sub _ _⟩) old
            | own a ds => obtain ⟨e1, z, n1, vs, g, r⟩ := vr; exact ⟨e1, .inr (how a ds rfl), n1, vs, sub _ _ g, r.mono (fun b vs n _ => ⟨sub _ _, sub _ _⟩) old⟩
            | ro a ds => exact absurd rfl (hro a ds)
            | ob u L' F => exact ⟨vr.1, vr.2.mono (fun a o _ _ e => .inl (sub _ _ e)) old⟩
    dist := fun i j a ds es e1 e2 => by
      have g : ∀ {i : Nat} {ds}, (us.map some ++ (ms.map (fun _ => none) ++ frees))[i]? = some (some (V.own a ds)) → ∃ t, i = us.length + (ms.length + t) ∧ frees[t]? = some (some (V.own a ds)) := fun {i ds} e => by
        by_cases h1 : i < us.length
        · rw [List.getElem?_append_left (by simpa using h1), List.getElem?_map] at e
          cases q : us[i]? with
          | none => (first | exact (no_get q e).elim | exact (no_get e q).elim | (rw [q] at e; cases e))
          | some d => rw [q] at e; simp at e; exact absurd (List.mem_of_getElem? (e ▸ q)) (hu.1 _ _)
        · rw [List.getElem?_append_right (by simpa using h1), List.length_map] at e
          by_cases h2 : i - us.length < ms.length
          · rw [List.getElem?_append_left (by simpa using h2), List.getElem?_map] at e
            cases q : ms[i - us.length]? with
            | none => (first | exact (no_get q e).elim | exact (no_get e q).elim | (rw [q] at e; cases e))
            | some d => (first | exact (no_get q e).elim | exact (no_get e q).elim | (rw [q] at e; cases e))
          · rw [List.getElem?_append_right (by simpa using h2), List.length_map] at e
            exact ⟨_, by (first | lia (splits := 0) | lia (splits := 4) | omega), e⟩
      obtain ⟨t, rfl, q1⟩ := g e1
      obtain ⟨u, rfl, q2⟩ := g e2
      rw [hdist t u a ds es q1 q2]
    noro := fun _ j a ds e => by
      by_cases h1 : j < us.length
      · rw [List.getElem?_append_left (by simpa using h1), List.getElem?_map] at e
        cases q : us[j]? with
        | none => (first | exact (no_get q e).elim | exact (no_get e q).elim | (rw [q] at e; cases e))
        | some d => rw [q] at e; simp at e; exact absurd (List.mem_of_getElem? (e ▸ q)) (hu.2 _ _)
      · rw [List.getElem?_append_right (by simpa using h1), List.length_map] at e
        by_cases h2 : j - us.length < ms.length
        · rw [List.getElem?_append_left (by simpa using h2), List.getElem?_map] at e
          cases q : ms[j - us.length]? with
          | none => (first | exact (no_get q e).elim | exact (no_get e q).elim | (rw [q] at e; cases e))
          | some d => (first | exact (no_get q e).elim | exact (no_get e q).elim | (rw [q] at e; cases e))
        · rw [List.getElem?_append_right (by simpa using h2), List.length_map] at e
          obtain ⟨_, _, _, _, hro⟩ := fr.at e
          exact hro a ds rfl
    cl := fun x c e => by
      obtain ⟨y, hy⟩ := ok.clo (fun z hz => let ⟨_, c, q, _⟩ := S.cells z hz; ⟨c, q⟩) x c e
      obtain ⟨v, q⟩ := S.cl y c hy
      exact ⟨v, cell_ext (T := []) q (.of sub)⟩ }
  exact k L h₁ _ (A.deeper (envX qual scope L f (.ref c') cl)) _ fL sub Ro.deeper S'
theorem clo_wp {vs : List Str} {σ₀ : List (Option V)} {f c' : Addr} {name qual : Str} {params : Arguments} {body : List Stmt} {scope : Scope} {cl : List (Str × Addr)} {ps ms ys : List Str} {us : List V} {frees : List (Option V)} {D : MS} {P : Post}
    {A : Around} {E : Value → Shared → Prop} {s : Shared} {Q : Value → Shared → Prop} {vals : List Value}
    (S : St X mine σ s.heap) (R : Room A (n + 1)) (fx : FnX f c' name qual params body scope cl s.heap) (ok : ClOk X name qual params body scope cl ps ms ys) (ra : VRepL (X.MM mine) mine s.heap vals us) (hl : us.length = ps.length)
    (hu : (∀ a ds, V.own a ds ∉ us) ∧ ∀ a ds, V.ro a ds ∉ us)
    (hD : ∀ a, D a → mine a ∧ ∃ o, s.heap.get? a = some o) (fr : Fre X.vs σ D ys frees) (hdist : ∀ (i j : Nat) a ds es, frees[i]? = some (some (V.own a ds)) → frees[j]? = some (some (V.own a es)) → i = j)
    (hvs : vs = ps ++ (ms ++ ys)) (hσ : σ₀ = us.map some ++ (ms.map (fun _ => none) ++ frees))
    (run : ∀ L, s.heap.get? L = none → Run (X.clo mine D qual scope L f c' cl vs) n (fun b => b = L ∨ D b) σ₀ body P)
    (k : ∀ L fl m σ'' h' tk fw, s.heap.get? L = none → P fl m σ'' → (∀ b o, s.heap.get? b = some o → ¬ D b → h'.get? b = some o ∨ (b ∈ X.W.tabs ∧ o.cls = .none ∧ ∃ vs more, o.data = .fields vs ∧ h'.get? b = some { o with data := .fields (vs ++ more) })) →
      St (X.clo mine D qual scope L f c' cl vs) m σ'' h' → FlowRep ((X.clo mine D qual scope L f c' cl vs).MM m) h' fl fw → Q (match fw with | .ret v => v | _ => .none) { s with heap := h', toks := tk }) :
    wpAny X.W.M A (call (.ref f) vals) Q E s :=
  wpAny_call (clo_enter (R := fun r s' => match r with | .ok (.ret v) => Q v s' | .ok _ => False | .error e => E e s') S R fx ok ra hl hu hD fr hdist hvs hσ fun L h₁ tk A' E' fL sub R' S' =>
    run L fL A' E' { s with heap := h₁, toks := tk } _ R' S' fun fl m σ'' h' tk fw p mv S'' fr =>
      k L fl m σ'' h' tk fw fL p (fun b o e nD => mv.keep b o (sub b o e) fun z => z.elim (fun z => by subst z; (first | exact (no_get fL e).elim | exact (no_get e fL).elim | (rw [fL] at e; cases e))) nD) S'' fr)
end
noncomputable def FnS (X : Cx) (mine : MS) (σ : List (Option V)) (f : Addr) (args : List D) (res : D) (n : Nat) : Prop :=
  ∀ (A : Around) (E : Value → Shared → Prop) (s : Shared) (Q : Value → Shared → Prop) (vals : List Value), Room A n → St X mine σ s.heap → RepL (X.MM mine) s.heap vals args →
    (∀ v h' tk, Ext X.W.tabs s.heap h' → St X mine σ h' → Rep (X.MM mine) h' v res → Q v { s with heap := h', toks := tk }) → wpAny X.W.M A (call (.ref f) vals) Q E s
section
variable {X : Cx} {mine : MS} {σ : List (Option V)} {n : Nat}
theorem Lk.fnx {f c' : Addr} {x name qual : Str} {params : Arguments} {body : List Stmt} {scope : Scope} {cl : List (Str × Addr)} {h : Heap} (lk : Lk X.vs σ x (.ob (.ref f) [f, c'] (FnX f c' name qual params body scope cl))) (S : St X mine σ h) : FnX f c' name qual params body scope cl h := by
  obtain ⟨i, val, _, _, _, r⟩ := lk.at S
  exact r.2.1
theorem ev_callv {f c' : Addr} {x name qual : Str} {params : Arguments} {body : List Stmt} {scope : Scope} {cl : List (Str × Addr)} {p p' : Pos} {e : PySem.Expr} {es : List PySem.Expr} {ds : List D} {res : D} {m : Nat}
    (lk : Lk X.vs σ x (.ob (.ref f) [f, c'] (FnX f c' name qual params body scope cl))) (a : EvL X mine σ n (e :: es) ds) (hf : FnS X mine σ f ds res m) (hm : m ≤ n)
    (he : starEach (e :: es) X.env = (false, eval e X.env) :: starEach es X.env := by rfl) (hplain : (backTo p' (starEach es X.env)).any (·.1) = false := by rfl)
    (hc : eval (.Call (.Name x p) (e :: es) [] p') X.env = (do callWith p' (← eval (.Name x p) X.env) [] (backTo p' (starEach (e :: es) X.env)) (backToKw p' (keywordEach [] X.env))) := by rfl) :
    Ev X mine σ n (.Call (.Name x p) (e :: es) [] p') res := fun A E s Q R S h => by
  obtain ⟨i, val, hx, _, va, r⟩ := lk.at S
  obtain rfl : val = .ref f := r.1
  have nb := S.ok.nodbg x (List.mem_of_getElem? hx)
  have fa : ∀ {h}, St X mine σ h → FnAt f h := fun S => let ⟨⟨_, _, _, e⟩, _⟩ := lk.fnx S; ⟨_, _, _, _, e⟩
  refine Call_ (wpAny_Name (load_var S.kind va ?_) nb) hc
  refine callWith_F (fa S) (a A E s _ _ R S fun vs h' tk k S' r => ⟨fa S', ?_⟩) he hplain
  exact hf A E _ Q vs (R.less hm) S' r fun v h'' tk' k' S'' r' => h v h'' tk' (k.trans k') S'' r'
end
noncomputable def nestT : List Nest := [⟨41, 37, 35, 4, "_int2digits.<locals>.inner", 5⟩, ⟨48, 44, 50, 4, "_digits2int.<locals>.inner", 6⟩]
theorem nest_apart {q q' : Nest} (h : q ∈ nestT) (h' : q' ∈ nestT) (e : q'.P = q.P) : q' = q := by
  simp only [nestT, List.mem_cons, List.not_mem_nil, or_false] at h h'
  rcases h with rfl | rfl <;> rcases h' with rfl | rfl <;> first | rfl | exact absurd e (by decide)
theorem qual_in {env : Env} {W : Wd} {i : Nat} (F : Frm env W i) {x : Str} (h : (fd i).scope.names.lookup x = some .cell) : qualnameIn env x x = (fd i).name ++ ".<locals>." ++ x := by
  unfold qualnameIn
  rw [F.kind h, F.qual]
  rfl
theorem clos_of {X : Cx} {mine : MS} {σ : List (Option V)} {scope : Scope} {h : Heap} (S : St X mine σ h) (hw : ∀ p ∈ scope.names, p.2 = .free → p.1 ∈ X.wr) : closureFor scope X.env = pure (capt X.env scope.names []) :=
  closureFor_capt fun p hp hf => let ⟨_, c, hc, _⟩ := S.cells _ (hw p hp hf); ⟨c, hc⟩
theorem clok_outer {X : Cx} {name qual : Str} {params : Arguments} {body : List Stmt} {scope : Scope} {ps ms ys : List Str} (kind : scope.kind = .function) (co : scope.isCoroutine = false) (gen : scope.isGenerator = false)
    (nodup : (ps ++ (ms ++ ys)).Nodup) (nodbg : ∀ x ∈ ps ++ (ms ++ ys), (x == ("__debug__" : Str)) = false) (nocell : ∀ x ∈ scope.names, x.2 ≠ .cell) (pk : ∀ x ∈ ps, scope.names.lookup x = some .local)
    (fk : ∀ y ∈ ys, scope.names.lookup y = some .free ∧ (y == ("__classdict__" : Str)) = false) (hw : ∀ p ∈ scope.names, p.2 = .free → p.1 ∈ X.wr) (hk : ∀ y ∈ ys, X.env.kindOf y = some .cell)
    (bind : ∀ cl doc pm c' ctv (l : List Value), l.length = ps.length → bindArgs (fnX name qual params body scope cl .none .none doc pm none (.ref c') ctv) ⟨l, []⟩ = pure (ps.zip l)) : ClOk X name qual params body scope (capt X.env scope.names []) ps ms ys where
  kind := kind
  co := co
  gen := gen
  nodup := nodup
  nodbg := nodbg
  nocell := nocell
  pk := pk
  fk := fk
  cell := fun y hy => ⟨(by rw [hk y hy]; intro q; cases q), fun c e => capt_some e _ _ (mem_of_lookupA (fk y hy).1)⟩
  clo := fun h x c e => by
    rcases capt_lookup _ _ e with q | ⟨p, hp, hf, rfl, q⟩
    · cases q
    · obtain ⟨c', hc'⟩ := h _ (hw p hp hf)
      rw [hc'] at q
      exact ⟨p.1, by rw [hc']; exact congrArg some q⟩
  bind := bind _
noncomputable def dval (k : Nat) : List Int → Int
  | [] => 0
  | d :: r => d + 2 ^ k * dval k r
theorem dval_app (k : Nat) : ∀ a b : List Int, dval k (a ++ b) = dval k a + 2 ^ (k * a.length) * dval k b
  | [], b => by simp [dval]
  | d :: a, b => by
    rw [List.cons_append, dval, dval, dval_app k a b, List.length_cons, Nat.mul_add, Nat.mul_one, Nat.add_comm, Int.pow_add, Int.mul_add, Int.mul_assoc]
    (first | lia (splits := 0) | omega)
noncomputable def Figs (k : Nat) (ds : List Int) : Prop := ∀ d ∈ ds, 0 ≤ d ∧ d < 2 ^ k
theorem two_pos (k : Nat) : (0 : Int) < 2 ^ k := Int.pow_pos (by decide)
theorem dval_bd {k : Nat} : ∀ {ds : List Int}, Figs k ds → 0 ≤ dval k ds ∧ dval k ds < 2 ^ (k * ds.length)
  | [], _ => by simp [dval]
  | d :: r, h => by
    have h1 := h d List.mem_cons_self
    have h2 := dval_bd fun x hx => h x (List.mem_cons_of_mem _ hx)
    have p := two_pos k
    rw [dval, List.length_cons, Nat.mul_add, Nat.mul_one, Nat.add_comm, Int.pow_add]
    have a : 0 ≤ 2 ^ k * dval k r := Int.mul_nonneg (Int.le_of_lt p) h2.1
    have b : 2 ^ k * dval k r ≤ 2 ^ k * (2 ^ (k * r.length) - 1) := Int.mul_le_mul_of_nonneg_left (by (first | lia (splits := 0) | omega)) (Int.le_of_lt p)
    rw [Int.mul_sub, Int.mul_one] at b
    (first | lia (splits := 0) | omega)
noncomputable def part (ds : List Int) (L R : Nat) : List Int := (ds.drop L).take (R - L)
theorem part_split {ds : List Int} {L M R : Nat} (h1 : L ≤ M) (h2 : M ≤ R) : part ds L R = part ds L M ++ part ds M R := by
  unfold part
  rw [show R - L = (M - L) + (R - M) by (first | lia (splits := 0) | lia (splits := 4) | omega), List.take_add, List.drop_drop, show L + (M - L) = M by (first | lia (splits := 0) | lia (splits := 4) | omega)]
theorem part_len {ds : List Int} {L R : Nat} (h : R ≤ ds.length) (h1 : L ≤ R) : (part ds L R).length = R - L := by
  unfold part
  rw [List.length_take, List.length_drop]
  (first | lia (splits := 0) | lia (splits := 4) | omega)
theorem part_one {ds : List Int} {L : Nat} {d : Int} (h : ds[L]? = some d) : part ds L (L + 1) = [d] := by
  unfold part
  obtain ⟨h1, rfl⟩ := List.getElem?_eq_some_iff.mp h
  rw [show L + 1 - L = 1 by (first | lia (splits := 0) | omega), List.drop_eq_getElem_cons h1]
  rfl
theorem Figs.part {k : Nat} {ds : List Int} (h : Figs k ds) (L R : Nat) : Figs k (part ds L R) := fun d hd => h d (List.mem_of_mem_drop (List.mem_of_mem_take hd))
theorem half (L R : Nat) : (((L : Int) + R).fdiv (2 ^ (1 : Int).toNat)) = (((L + R) / 2 : Nat) : Int) := by
  rw [show ((2 : Int) ^ (1 : Int).toNat) = 2 from rfl, Int.fdiv_eq_ediv_of_nonneg _ (by decide)]
  (first | lia (splits := 0) | omega)
theorem bits_le {x : Int} {m : Nat} (h0 : 0 ≤ x) (h : x < 2 ^ m) : (Builtin.Int.intBits x : Int) ≤ m := by
  have e : ((2 ^ m : Nat) : Int) = (2 : Int) ^ m := Int.natCast_pow 2 m
  have := (PySem.intBits_le_iff (x := x) (m := m)).mpr (by (first | lia (splits := 0) | lia (splits := 4) | omega))
  (first | lia (splits := 0) | lia (splits := 4) | omega)
theorem mul_ok {a b : Int} (h : -1000 ≤ a) (h' : a ≤ 1000) : IntMulOk a b := IntMulOk.of_left (Nat.le_trans (PySem.intBits_le_iff (m := 10).mpr (by (first | lia (splits := 0) | lia (splits := 4) | omega))) (by decide))
noncomputable def nd6 : Fd := fdOf ((fd 6).body.getD 0 (.Pass ⟨0, 0, 0, 0⟩))
noncomputable abbrev q6 : Str := "_digits2int.<locals>.inner"
noncomputable abbrev fn6 (f c' : Addr) (cl : List (Str × Addr)) : V := .ob (.ref f) [f, c'] (FnX f c' "inner" q6 nd6.params nd6.body nd6.scope cl)
noncomputable abbrev ClOk6 (X : Cx) (cl : List (Str × Addr)) : Prop := ClOk X "inner" q6 nd6.params nd6.body nd6.scope cl ["L", "R"] ["mid", "shift"] ["digits", "n", "inner"]
theorem inner6 {k : Nat} {ds : List Int} (hk : 1 ≤ k) (hk2 : k ≤ 30) (hl : ds.length ≤ 60) (hF : Figs k ds) : ∀ (m L R : Nat), R - L = m + 1 → R ≤ ds.length → ∀ {X : Cx} {mine : MS} {σ : List (Option V)} {f c' : Addr} {cl : List (Str × Addr)},
    ClOk6 X cl → Lk X.vs σ "digits" (.val (.list (intD ds))) → Lk X.vs σ "n" (.val (.int (k : Int))) → Lk X.vs σ "inner" (fn6 f c' cl) →
    FnS X mine σ f [.int (L : Int), .int (R : Int)] (.int (dval k (part ds L R))) (m + 1) := by
  intro m
  induction m using Nat.strongRecOn with
  | ind m ih =>
  intro L R hLR hR X mine σ f c' cl ok l1 l2 l3 A E s Q vals Ro S ra kk
  refine clo_wp (vs := ["L", "R", "mid", "shift", "digits", "n", "inner"]) (σ₀ := [some (.val (.int (L : Int))), some (.val (.int (R : Int))), none, none, some (.val (.list (intD ds))), some (.val (.int (k : Int))), some (fn6 f c' cl)])
    (P := fun fl _ _ => fl = .ret (.int (dval k (part ds L R)))) (D := fun _ => False) S Ro (l3.fnx S) ok (vrepL_val ra) rfl ⟨fun _ _ => not_own_val, fun _ _ => not_ro_val⟩ (fun _ z => z.elim) (.cons l1 (fun _ _ q => by cases q) (fun _ _ q => by cases q) (.cons l2 (fun _ _ q => by cases q) (fun _ _ q => by cases q) (.cons l3 (fun _ _ q => by cases q) (fun _ _ q => by cases q) .nil))) (fun i j a ds es e => ?_) rfl rfl (fun L' fL => ?_) fun L' fl m' σ'' h' tk fw fL p keep S' fr => ?_
  · match i, e with
    | 0, e => simp at e
    | 1, e => simp at e
    | 2, e => simp at e
  · have ok' : ClOk6 (X.clo mine (fun _ => False) q6 nd6.scope L' f c' cl ["L", "R", "mid", "shift", "digits", "n", "inner"]) cl :=
      { ok with cell := fun y hy => ⟨fun q => (by have := (ok.fk y hy).1; have e : nd6.scope.names.lookup y = some .local := q; (first | exact (no_get this e).elim | exact (no_get e this).elim | (rw [this] at e; cases e))), fun c e => e⟩, clo := fun _ x c e => ⟨x, e⟩ }
    by_cases h1 : m = 0
    · subst h1
      have hLd : ds[L]? = some (ds[L]'(by (first | lia (splits := 0) | lia (splits := 4) | omega))) := List.getElem?_eq_getElem _
      have hR1 : R = L + 1 := by (first | lia (splits := 0) | lia (splits := 4) | omega)
      refine' run_cons (r1_ift (tst_cmp ?a1 ?b1 opc_eq) ?h1 (run_cons (r1_return (ev_item (d := .int (ds[L]'(by (first | lia (splits := 0) | lia (splits := 4) | omega)))) ?c1 ?d1 ?e1 ?f1 ?g1 ?i1) ?p1)))
      case' a1 => ktr_rel
      case' b1 => ktr_rel
      case' h1 => rw [hR1]; exact beq_self_eq_true _
      case' c1 => ktr_rel
      case' d1 => ktr_rel
      case' i1 => intro _ _; rfl
      case' f1 => rw [Int.toNat_natCast, List.getElem?_map, hLd]; rfl
      case' p1 => exact congrArg (fun z => FlowD.ret (.int z)) (by subst hR1; rw [part_one hLd, dval, dval, Int.mul_zero, Int.add_zero])
      all_goals (first | lia (splits := 0) | lia (splits := 4) | omega)
    · obtain ⟨M, hM⟩ : ∃ M, M = (L + R) / 2 := ⟨_, rfl⟩
      have hb1 := dval_bd (hF.part M R)
      have hb2 := dval_bd (hF.part L M)
      rw [part_len hR (by (first | lia (splits := 0) | lia (splits := 4) | omega))] at hb1
      have hkm : k * (M - L) ≤ 30 * 60 := Nat.mul_le_mul hk2 (by (first | lia (splits := 0) | lia (splits := 4) | omega))
      have hkr : k * (R - M) ≤ 30 * 60 := Nat.mul_le_mul hk2 (by (first | lia (splits := 0) | lia (splits := 4) | omega))
      refine' run_cons (r1_iff (tst_cmp ?a2 ?b2 opc_eq) ?h2 (run_nil (run_cons (r1_assign (d := .int (M : Int)) (Ev.cast (ev_bin ?a3 ev_int (opb_shr ?b3)) ?c3) ?u3 ?k3 (run_cons (r1_assign (d := .int ((k * (M - L) : Nat) : Int)) (Ev.cast (ev_bin ?a4 ?b4 (opb_mul ?c4)) ?d4) ?u4 ?k4 (run_cons (r1_return (Ev.cast (ev_bin (ev_bin (ev_callv (m := R - M - 1 + 1) ?l5 ?a5 (ih (R - M - 1) (by (first | lia (splits := 0) | lia (splits := 4) | omega)) M R (by (first | lia (splits := 0) | lia (splits := 4) | omega)) hR ok' ?v5 ?w5 ?x5) (by (first | lia (splits := 0) | lia (splits := 4) | omega))) ?b5 (opb_shl ?c5 ?d5)) (ev_callv (m := M - L - 1 + 1) ?l6 ?a6 (ih (M - L - 1) (by (first | lia (splits := 0) | lia (splits := 4) | omega)) L M (by (first | lia (splits := 0) | lia (splits := 4) | omega)) (by (first | lia (splits := 0) | lia (splits := 4) | omega)) ok' ?v6 ?w6 ?x6) (by (first | lia (splits := 0) | lia (splits := 4) | omega))) opb_add) ?e6) ?p6))))))))
      case' a2 => ktr_rel
      case' b2 => ktr_rel
      case' h2 => exact beq_eq_false_iff_ne.mpr (by (first | lia (splits := 0) | lia (splits := 4) | omega))
      case' a3 => ktr_rel
      case' b3 => decide
      case' c3 => rw [half, ← hM]
      case' u3 => k_upd
      case' k3 => exact .inl (by kernel_rfl)
      case' a4 => ktr_rel
      case' b4 => ktr_rel
      case' u4 => k_upd
      case' k4 => exact .inl (by kernel_rfl)
      case' l5 => k_mem
      case' a5 => ktr_rel
      case' v5 => k_mem
      case' w5 => k_mem
      case' x5 => k_mem
      case' b5 => ktr_rel
      case' l6 => k_mem
      case' a6 => ktr_rel
      case' v6 => k_mem
      case' w6 => k_mem
      case' x6 => k_mem
      case' p6 => rfl
      case' c4 => exact mul_ok (by (first | lia (splits := 0) | lia (splits := 4) | omega)) (by (first | lia (splits := 0) | lia (splits := 4) | omega))
      case' d4 => exact congrArg D.int (by rw [Int.natCast_mul, Int.natCast_sub (by (first | lia (splits := 0) | lia (splits := 4) | omega)), Int.mul_comm])
      case' c5 => exact Int.natCast_nonneg _
      case' d5 =>
        have := bits_le hb1.1 hb1.2
        (first | lia (splits := 0) | lia (splits := 4) | omega)
      case' e6 => exact congrArg D.int (by rw [part_split (L := L) (M := M) (R := R) (by (first | lia (splits := 0) | lia (splits := 4) | omega)) (by (first | lia (splits := 0) | lia (splits := 4) | omega)), dval_app, part_len (by (first | lia (splits := 0) | lia (splits := 4) | omega)) (by (first | lia (splits := 0) | lia (splits := 4) | omega)), Int.toNat_natCast, Int.mul_comm, Int.add_comm])
  · subst p
    cases fr with
    | ret r => exact kk _ h' tk (fun b o e => keep b o e id) (S.step (fun b o e => keep b o e id) (S'.tb.anti fun b z => .inl ⟨z, id⟩)) (r.anti fun b z => .inl ⟨z, id⟩)
theorem f6 {W : Wd} {k : Nat} {ds : List Int} (hW : W.nest = nestT) (hk : 1 ≤ k) (hk2 : k ≤ 30) (hl : ds.length ≤ 60) (hF : Figs k ds) : D2I W ds (k : Int) (dval k ds) (ds.length + 3) := by
  refine fn_of_run (vs := ["digits", "n", "inner"]) (wr := ["digits", "n", "inner"]) (σ := [some (.val (.list (intD ds))), some (.val (.int (k : Int))), none]) ok6 (by decide) rfl (by decide) rfl fun env h₀ M₀ mine F => ?_
  have hq : (⟨48, 44, 50, 4, "_digits2int.<locals>.inner", 6⟩ : Nest) ∈ W.nest := by rw [hW]; exact .tail _ (.head _)
  have hw : ∀ p ∈ nd6.scope.names, p.2 = .free → p.1 ∈ (["digits", "n", "inner"] : List Str) := by decide +kernel
  refine' run_cons (r1_def (params := nd6.params) (body := nd6.body) (scope := nd6.scope) hq (fun q' h e => nest_apart (hW ▸ hq) (hW ▸ h) e) (F.code _ hq rfl) rfl rfl ((qual_in F (x := "inner") (by kernel_rfl)).trans (by kernel_rfl)) (fun h S => clos_of S hw) (by kernel_rfl) (by kernel_rfl) (by kernel_rfl) ?k1 fun f c' => ex_up (by k_upd) ?n1)
  case' k1 => ktr_room
  case n1 =>
  have ok : ClOk6 ⟨W, env, ["digits", "n", "inner"], h₀, M₀, ["digits", "n", "inner"], true⟩ (capt env nd6.scope.names []) :=
    clok_outer (by kernel_rfl) (by kernel_rfl) (by kernel_rfl) (by decide +kernel) (by decide +kernel) (by decide +kernel) (by decide +kernel) (by decide +kernel) hw
      (fun y hy => F.kind ((by decide +kernel : ∀ y ∈ (["digits", "n", "inner"] : List Str), (fd 6).scope.names.lookup y = some .cell) y hy))
      (fun cl doc pm c' ctv l h => by match l, h with | [a, b], _ => rfl)
  cases hd : ds with
  | nil =>
    refine' run_cons (r1_return (ev_iff (tst_val ?a1 ?b1) ?c1 ev_int) rfl)
    case' a1 => ktr_rel
    case' b1 => exact Nat.zero_le _
    case' c1 => rfl
  | cons d r =>
    rw [← hd]
    have h1 : 1 ≤ ds.length := by rw [hd]; exact Nat.succ_le_succ (Nat.zero_le _)
    have hp : part ds 0 ds.length = ds := by unfold part; simp
    refine' run_cons (r1_return (Ev.cast (ev_ift (tst_val ?a2 ?b2) ?c2 (ev_callv (m := ds.length - 1 + 1) ?l2 ?d2 (inner6 hk hk2 hl hF (ds.length - 1) 0 ds.length (by (first | lia (splits := 0) | lia (splits := 4) | omega)) (Nat.le_refl _) ok ?e2 ?f2 ?g2) (by (first | lia (splits := 0) | lia (splits := 4) | omega)))) ?h2) rfl)
    case' a2 => ktr_rel
    case' b2 => exact Nat.le_trans (Nat.le_of_eq (List.length_map _)) (by (first | lia (splits := 0) | lia (splits := 4) | omega))
    case' c2 => rw [hd]; rfl
    case' l2 => k_mem
    case' d2 => refine' evl_cons ev_int (evl_cons (Ev.cast ?i2 ?j2) evl_nil)
    case' i2 => ktr_rel
    case' j2 => exact congrArg (fun z : Nat => D.int z) (List.length_map _)
    case' e2 => k_mem
    case' f2 => k_mem
    case' g2 => k_mem
    case' h2 => rw [hp]
    all_goals first | (first | lia (splits := 0) | lia (splits := 4) | omega) | (rw [List.length_map]; (first | lia (splits := 0) | lia (splits := 4) | omega))
noncomputable def digs (k : Nat) : Nat → Int → List Int
  | 0, _ => []
  | m + 1, x => x % 2 ^ k :: digs k m (x / 2 ^ k)
theorem digs_len (k : Nat) : ∀ m x, (digs k m x).length = m
  | 0, _ => rfl
  | m + 1, x => congrArg (· + 1) (digs_len k m _)
theorem digs_figs (k : Nat) : ∀ m x, Figs k (digs k m x)
  | 0, _, d, h => by cases h
  | m + 1, x, d, h => by
    rcases List.mem_cons.mp h with rfl | h
    · exact ⟨Int.emod_nonneg _ (Int.ne_of_gt (two_pos k)), Int.emod_lt_of_pos _ (two_pos k)⟩
    · exact digs_figs k m _ d h
theorem digs_app (k : Nat) : ∀ a b x, digs k (a + b) x = digs k a x ++ digs k b (x / 2 ^ (k * a))
  | 0, b, x => by rw [Nat.zero_add, Nat.mul_zero, Int.pow_zero, Int.ediv_one]; rfl
  | a + 1, b, x => by
    rw [show a + 1 + b = (a + b) + 1 by (first | lia (splits := 0) | omega), digs, digs, digs_app k a b, List.cons_append, Int.ediv_ediv_of_nonneg (Int.le_of_lt (two_pos k)), ← Int.pow_add, show k + k * a = k * (a + 1) by rw [Nat.mul_add]; (first | lia (splits := 0) | omega)]
theorem digs_mod (k : Nat) : ∀ a x, digs k a (x % 2 ^ (k * a)) = digs k a x
  | 0, x => rfl
  | a + 1, x => by
    have e : (2 : Int) ^ (k * (a + 1)) = 2 ^ k * 2 ^ (k * a) := by rw [Nat.mul_add, Nat.mul_one, Nat.add_comm, Int.pow_add]
    have p := two_pos k
    have e1 : x % (2 ^ k * 2 ^ (k * a)) % 2 ^ k = x % 2 ^ k := Int.emod_emod_of_dvd x (Int.dvd_mul_right _ _)
    have e2 : x % (2 ^ k * 2 ^ (k * a)) / 2 ^ k = x / 2 ^ k % 2 ^ (k * a) := by
      rw [Int.emod_def x, Int.emod_def (x / 2 ^ k), Int.ediv_ediv_of_nonneg (Int.le_of_lt p), Int.mul_assoc, Int.sub_eq_add_neg, ← Int.mul_neg, Int.add_mul_ediv_left _ _ (Int.ne_of_gt p)]
      rfl
    rw [digs, digs, e, e1, e2, digs_mod k a]
theorem dval_digs (k : Nat) : ∀ m x, 0 ≤ x → x < 2 ^ (k * m) → dval k (digs k m x) = x
  | 0, x, h, h' => by simp at h'; rw [digs, dval]; (first | lia (splits := 0) | omega)
  | m + 1, x, h, h' => by
    rw [Nat.mul_add, Nat.mul_one, Nat.add_comm, Int.pow_add] at h'
    rw [digs, dval, dval_digs k m _ (Int.ediv_nonneg h (Int.le_of_lt (two_pos k))) (Int.ediv_lt_of_lt_mul (two_pos k) (by rw [Int.mul_comm]; exact h'))]
    rw [Int.add_comm]
    exact Int.mul_ediv_add_emod x _
theorem nat_xor (x s : Nat) : x &&& (x / 2 ^ s * 2 ^ s) = x / 2 ^ s * 2 ^ s := by
  refine Nat.eq_of_testBit_eq fun i => ?_
  rw [Nat.testBit_and, Nat.testBit_mul_two_pow, Nat.testBit_div_two_pow]
  by_cases h : s ≤ i
  · rw [show i - s + s = i by (first | lia (splits := 0) | lia (splits := 4) | omega)]
    cases x.testBit i <;> simp
  · simp [h]
theorem low_bits {x : Int} {s : Nat} (h : 0 ≤ x) : Builtin.bitXor x (x / 2 ^ s * 2 ^ s) = x % 2 ^ s := by
  obtain ⟨n, rfl⟩ := Int.eq_ofNat_of_zero_le h
  have e : ((n : Int) / 2 ^ s * 2 ^ s) = ((n / 2 ^ s * 2 ^ s : Nat) : Int) := by rw [Int.natCast_mul, Int.natCast_ediv, Int.natCast_pow]; rfl
  rw [bitXor_and, e, bitAnd_pp (Int.natCast_nonneg _) (Int.natCast_nonneg _), Int.toNat_natCast, Int.toNat_natCast, nat_xor, ← e]
  have := Int.emod_add_ediv_mul (n : Int) (2 ^ s)
  (first | lia (splits := 0) | omega)
section
variable {X : Cx} {mine : MS} {σ : List (Option V)} {n : Nat} {h h' : Heap}
theorem St.setOwnX {i : Nat} {a : Addr} {ds ds' : List D} {vs : Array Value} {nn : Nat} (S : St X mine σ h) (hf : X.fn = true) (hx : σ[i]? = some (some (.own a ds)))
    (k : ∀ b o, h.get? b = some o → b ≠ a → h'.get? b = some o ∨ (b ∈ X.W.tabs ∧ o.cls = .none ∧ ∃ vs more, o.data = .fields vs ∧ h'.get? b = some { o with data := .fields (vs ++ more) })) (e : h'.get? a = some (lob vs nn))
    (r : RepL (X.MM mine) h' vs.toList ds') (tb : TB X.W (X.MM mine) h') : St X mine (σ.set i (some (.own a ds'))) h' := by
  obtain ⟨hL, n₀, vs₀, e₀, r₀⟩ := S.own hx
  have kc : ∀ b o, h.get? b = some o → b ≠ a → (∀ vs, o.data ≠ .fields vs) → h'.get? b = some o := fun b o e nb hc => (k b o e nb).elim id fun ⟨_, _, vs, _, d, _⟩ => absurd d (hc vs)
  have nol : X.env.locals ≠ a := fun q => by obtain ⟨m, o, es, ep, e', d, _⟩ := S.ns.2; rw [q, e₀] at e'; cases e'; cases d
  have nsk : ∀ m, h.Ns X.env.locals m → h'.Ns X.env.locals m := fun m ⟨o, es, ep, e, d, r⟩ => ⟨o, es, ep, kc _ _ e nol (fun vs q => by (first | exact (no_get d q).elim | exact (no_get q d).elim | (rw [d] at q; cases q))), d, r⟩
  have ck : ∀ c v, h.IsCell c v → h'.IsCell c v := fun c v ⟨o, e', d⟩ => ⟨o, kc c o e' (fun q => by subst q; (first | exact (no_get e₀ e').elim | exact (no_get e' e₀).elim | (rw [e₀] at e'; cases e')); cases d) (fun vs q => by (first | exact (no_get d q).elim | exact (no_get q d).elim | (rw [d] at q; cases q))), d⟩
  have hi : i < σ.length := (List.getElem?_eq_some_iff.mp hx).1
  have rk : ∀ b vs n, ¬ X.MM mine b → (h.get? b = some (lob vs n) → h'.get? b = some (lob vs n)) ∧ (h.get? b = some (tob vs n) → h'.get? b = some (tob vs n)) := fun b vs n nm =>
    ⟨fun e => kc b _ e (fun q => nm (.inr (q ▸ hL))) (fun vs q => by cases q), fun e => kc b _ e (fun q => nm (.inr (q ▸ hL))) (fun vs q => by cases q)⟩
  have cv : ∀ {j b ds1}, (σ.set i (some (V.own a ds')))[j]? = some (some (V.own b ds1)) → ∃ ds2, σ[j]? = some (some (V.own b ds2)) := fun {j b ds1} q => by
    rw [List.getElem?_set] at q
    split at q
    · rename_i hq
      cases q
      exact ⟨_, hq ▸ hx⟩
    · exact ⟨_, q⟩
  exact {
    ok := S.ok
    gs := S.gs
    ext := fun b o e1 => by
      have nb : b ≠ a := fun q => by subst q; rw [S.fresh b hL] at e1; cases e1
      rcases S.ext b o e1 with q | ⟨t, c, vs, more, d, q⟩
      · exact k b o q nb
      · rcases k b _ q nb with q' | ⟨_, _, vs', more', d', q'⟩
        · exact .inr ⟨t, c, vs, more, d, q'⟩
        · cases d'
          exact .inr ⟨t, c, vs, more ++ more', d, by rw [q', Array.append_assoc]⟩
    tb := tb
    disj := S.disj
    live := fun b z => by
      by_cases q : b = a
      · exact ⟨_, q ▸ e⟩
      · obtain ⟨o, e1⟩ := S.live b z
        exact (k b o e1 q).elim (fun q => ⟨_, q⟩) fun ⟨_, _, _, _, _, q⟩ => ⟨_, q⟩
    fresh := S.fresh
    ns := ⟨S.ns.1, let ⟨m, q⟩ := S.ns.2; ⟨m, nsk m q⟩⟩
    cells := fun x hx => let ⟨q, c, b, d, v, e⟩ := S.cells x hx; ⟨q, c, b, d, v, ck c v e⟩
    var := fun j w q => by
      have vk : ∀ {x val}, VarAt X.env h x val → VarAt X.env h' x val := fun b => b.imp (fun ⟨p, m, q, r⟩ => ⟨p, m, nsk m q, r⟩) fun ⟨p, c', q, r⟩ => ⟨p, c', q, ck c' _ r⟩
      by_cases qq : i = j
      · subst qq
        rw [List.getElem?_set, if_pos rfl, if_pos hi] at q
        cases q
        obtain ⟨x, val, p, b, ev, _⟩ := S.var i _ hx
        exact ⟨x, val, p, vk b, ev, hL, nn, vs, e, r⟩
      · rw [List.getElem?_set, if_neg qq] at q
        obtain ⟨x, val, p, b, c⟩ := S.var j w q
        refine ⟨x, val, p, vk b, ?_⟩
        cases w with
        | val d => exact Rep.mono c rk fun _ _ _ => id
        | own b ds2 => obtain ⟨ev, z, n, vs, g, r⟩ := c; exact ⟨ev, z, n, vs, kc _ _ g (fun z => by subst z; exact qq (S.dist i j b _ _ hx q)) (fun vs q => by cases q), r.mono rk fun _ _ _ => id⟩
        | ro b ds2 => exact absurd q (S.noro hf j b ds2)
        | ob u L F => exact ⟨c.1, c.2.mono (fun b o _ nm e => (k b o e (fun q => nm (.inr (q ▸ hL)))).imp id fun q => q.2) fun _ _ _ => id⟩
    dist := fun j1 j2 b ds1 ds2 q1 q2 => by
      obtain ⟨_, z1⟩ := cv q1
      obtain ⟨_, z2⟩ := cv q2
      exact S.dist _ _ _ _ _ z1 z2
    noro := fun hf j b ds1 q => by
      rw [List.getElem?_set] at q
      split at q
      · cases q
      · exact S.noro hf j b ds1 q
    cl := fun x c q => let ⟨v, q⟩ := S.cl x c q; ⟨v, ck c v q⟩ }
noncomputable def FnM (X : Cx) (mine : MS) (σ σ' : List (Option V)) (f : Addr) (args : List D) (n : Nat) : Prop :=
  ∀ (A : Around) (E : Value → Shared → Prop) (s : Shared) (Q : Value → Shared → Prop) (vals : List Value), Room A n → St X mine σ s.heap → RepL (X.MM mine) s.heap vals args →
    (∀ v h' tk, Mv X mine s.heap mine h' → St X mine σ' h' → Q v { s with heap := h', toks := tk }) → wpAny X.W.M A (call (.ref f) vals) Q E s
theorem r1_callm {σ' : List (Option V)} {f c' : Addr} {x name qual : Str} {params : Arguments} {body : List Stmt} {scope : Scope} {cl : List (Str × Addr)} {p p' sp : Pos} {e : PySem.Expr} {es : List PySem.Expr} {ds : List D} {m : Nat} {P : Post}
    (lk : Lk X.vs σ x (.ob (.ref f) [f, c'] (FnX f c' name qual params body scope cl))) (a : EvL X mine σ n (e :: es) ds) (hf : FnM X mine σ σ' f ds m) (hm : m ≤ n) (h : P .next mine σ')
    (he : starEach (e :: es) X.env = (false, eval e X.env) :: starEach es X.env := by rfl) (hplain : (backTo p' (starEach es X.env)).any (·.1) = false := by rfl)
    (hc : eval (.Call (.Name x p) (e :: es) [] p') X.env = (do callWith p' (← eval (.Name x p) X.env) [] (backTo p' (starEach (e :: es) X.env)) (backToKw p' (keywordEach [] X.env))) := by rfl) :
    Run1 X n mine σ (.Expr (.Call (.Name x p) (e :: es) [] p') sp) P := fun A E s Q R S k => by
  obtain ⟨i, val, hx, _, va, r⟩ := lk.at S
  obtain rfl : val = .ref f := r.1
  have nb := S.ok.nodbg x (List.mem_of_getElem? hx)
  have fa : ∀ {h}, St X mine σ h → FnAt f h := fun S => let ⟨⟨_, _, _, e⟩, _⟩ := lk.fnx S; ⟨_, _, _, _, e⟩
  refine wpAny_Expr_any (Call_ (wpAny_Name (load_var S.kind va ?_) nb) hc) (inter S.kind)
  refine callWith_F (fa S) (a A _ s _ _ R S fun vs h' tk kx S' r => ⟨fa S', ?_⟩) he hplain
  exact hf A _ _ _ vs (R.less hm) S' r fun v h'' tk' mv S'' => k .next mine σ' h'' tk' .next h ((Mv.of kx).tr mv) S'' .next
theorem r1_return0 {p : Pos} {P : Post} (h : P (.ret .none) mine σ) : Run1 X n mine σ (.Return none p) P := fun A E s Q R S k =>
  wpAny_Return_none (k _ _ _ s.heap s.toks _ h (.of (Ext.refl _ _)) S (.ret .none))
end
noncomputable def nd5 : Fd := fdOf ((fd 5).body.getD 1 (.Pass ⟨0, 0, 0, 0⟩))
noncomputable abbrev q5 : Str := "_int2digits.<locals>.inner"
noncomputable abbrev fn5 (f c' : Addr) (cl : List (Str × Addr)) : V := .ob (.ref f) [f, c'] (FnX f c' "inner" q5 nd5.params nd5.body nd5.scope cl)
noncomputable abbrev ClOk5 (X : Cx) (cl : List (Str × Addr)) : Prop := ClOk X "inner" q5 nd5.params nd5.body nd5.scope cl ["x", "L", "R"] ["mid", "shift", "upper", "lower"] ["a_digits", "n", "inner"]
noncomputable def putd (ds l : List Int) (L R : Nat) : List Int := ds.take L ++ (l ++ ds.drop R)
theorem putd_len {ds l : List Int} {L R : Nat} (h : R ≤ ds.length) (h1 : L + l.length = R) : (putd ds l L R).length = ds.length := by
  unfold putd
  rw [List.length_append, List.length_append, List.length_take, List.length_drop]
  (first | lia (splits := 0) | lia (splits := 4) | omega)
theorem putd_two {ds l l' : List Int} {L M R : Nat} (h : R ≤ ds.length) (h1 : L + l.length = M) (h2 : M + l'.length = R) : putd (putd ds l L M) l' M R = putd ds (l ++ l') L R := by
  unfold putd
  have hl : (ds.take L).length = L := by rw [List.length_take]; (first | lia (splits := 0) | lia (splits := 4) | omega)
  have e : (ds.take L ++ l).length = M := by rw [List.length_append, hl, h1]
  rw [← List.append_assoc (List.take L ds) l (List.drop M ds), List.take_left' e, List.drop_append, List.drop_of_length_le (by (first | lia (splits := 0) | lia (splits := 4) | omega)), List.nil_append, List.drop_drop, e, show M + (R - M) = R by (first | lia (splits := 0) | lia (splits := 4) | omega), List.append_assoc, List.append_assoc]
theorem putd_one {ds : List Int} {L : Nat} {x : Int} (h : L < ds.length) : (intD ds).set L (.int x) = intD (putd ds [x] L (L + 1)) := by
  unfold putd
  rw [← List.map_set, List.set_eq_take_append_cons_drop, if_pos h]
  rfl
theorem inner5 {k : Nat} (hk : 1 ≤ k) (hk2 : k ≤ 30) : ∀ (m L R : Nat) (x : Int), R - L = m + 1 → 0 ≤ x → x < 2 ^ (k * (R - L)) → ∀ {X : Cx} {mine : MS} {σ σ' : List (Option V)} {f c' a : Addr} {cl : List (Str × Addr)} {ds : List Int},
    ds.length ≤ 60 → R ≤ ds.length → ClOk5 X cl → X.fn = true → Lk X.vs σ "a_digits" (.own a (intD ds)) → Lk X.vs σ "n" (.val (.int (k : Int))) → Lk X.vs σ "inner" (fn5 f c' cl) →
    Up X.vs σ "a_digits" (.own a (intD (putd ds (digs k (R - L) x) L R))) σ' → FnM X mine σ σ' f [.int x, .int (L : Int), .int (R : Int)] (m + 1) := by
  intro m
  induction m using Nat.strongRecOn with
  | ind m ih =>
  intro L R x hLR hx0 hx1 X mine σ σ' f c' a cl ds hl hR ok hf l1 l2 l3 up A E s Q vals Ro S ra kk
  obtain ⟨i, hxi, hs, rfl⟩ := lk_up l1 up S.ok.nodup
  obtain ⟨hma, nn, vs, e₀, _⟩ := S.own hs
  refine clo_wp (vs := ["x", "L", "R", "mid", "shift", "upper", "lower", "a_digits", "n", "inner"]) (σ₀ := [some (.val (.int x)), some (.val (.int (L : Int))), some (.val (.int (R : Int))), none, none, none, none, some (.own a (intD ds)), some (.val (.int (k : Int))), some (fn5 f c' cl)])
    (P := fun _ _ σ'' => σ''[7]? = some (some (.own a (intD (putd ds (digs k (R - L) x) L R))))) (D := fun b => b = a) S Ro (l3.fnx S) ok (vrepL_val ra) rfl ⟨fun _ _ => not_own_val, fun _ _ => not_ro_val⟩ (fun b z => by subst z; exact ⟨hma, _, e₀⟩) (.cons l1 (fun _ _ q => by cases q; rfl) (fun _ _ q => by cases q) (.cons l2 (fun _ _ q => by cases q) (fun _ _ q => by cases q) (.cons l3 (fun _ _ q => by cases q) (fun _ _ q => by cases q) .nil))) (fun i j b ts es e e' => ?_) rfl rfl (fun L' fL => ?_) fun L' fl m' σ'' h' tk fw fL p keep S' fr => ?_
  · have g : ∀ (t : Nat) b ts, ([some (.own a (intD ds)), some (.val (.int (k : Int))), some (fn5 f c' cl)] : List (Option V))[t]? = some (some (.own b ts)) → t = 0 := fun t b ts q => match t, q with
      | 0, _ => rfl
      | 1, q => by simp at q
      | 2, q => by simp at q
    rw [g i _ _ e, g j _ _ e']
  · have ok' : ClOk5 (X.clo mine (fun b => b = a) q5 nd5.scope L' f c' cl ["x", "L", "R", "mid", "shift", "upper", "lower", "a_digits", "n", "inner"]) cl :=
      { ok with cell := fun y hy => ⟨fun q => (by have := (ok.fk y hy).1; have e : nd5.scope.names.lookup y = some .local := q; (first | exact (no_get this e).elim | exact (no_get e this).elim | (rw [this] at e; cases e))), fun c e => e⟩, clo := fun _ x c e => ⟨x, e⟩ }
    by_cases h1 : m = 0
    · subst h1
      have hR1 : R = L + 1 := by (first | lia (splits := 0) | lia (splits := 4) | omega)
      subst hR1
      have hd : digs k (L + 1 - L) x = [x] := by
        rw [show L + 1 - L = 1 by (first | lia (splits := 0) | lia (splits := 4) | omega), Nat.mul_one] at hx1
        rw [show L + 1 - L = 1 by (first | lia (splits := 0) | lia (splits := 4) | omega), digs, digs, Int.emod_eq_of_lt hx0 hx1]
      rw [hd]
      refine' run_cons (r1_ift (tst_cmp ?a1 ?b1 opc_eq) ?h1 (run_cons (r1_setItem (a := a) (ds := intD ds) (d := .int x) (k := (L : Int)) rfl ?l1 ?c1 ?d1 ?e1 ?f1 ?g1 ?u1 (run_cons (r1_return0 ?p1)))))
      case' a1 => ktr_rel
      case' b1 => ktr_rel
      case' h1 => exact beq_self_eq_true _
      case' l1 => k_mem
      case' c1 => ktr_rel
      case' d1 => ktr_rel
      case' u1 => k_upd
      case' p1 => exact congrArg (fun z => some (some (V.own a z))) (by rw [Int.toNat_natCast, putd_one (by (first | lia (splits := 0) | lia (splits := 4) | omega))])
      all_goals first | (first | lia (splits := 0) | lia (splits := 4) | omega) | (rw [List.length_map]; (first | lia (splits := 0) | lia (splits := 4) | omega))
    · obtain ⟨M, hM⟩ : ∃ M, M = (L + R) / 2 := ⟨_, rfl⟩
      have hkm : k * (M - L) ≤ 30 * 60 := Nat.mul_le_mul hk2 (by (first | lia (splits := 0) | lia (splits := 4) | omega))
      have hkr : k * (R - M) ≤ 30 * 60 := Nat.mul_le_mul hk2 (by (first | lia (splits := 0) | lia (splits := 4) | omega))
      have pM := two_pos (k * (M - L))
      obtain ⟨y, hy⟩ : ∃ y, y = x / 2 ^ (k * (M - L)) := ⟨_, rfl⟩
      obtain ⟨z, hz⟩ : ∃ z, z = x % 2 ^ (k * (M - L)) := ⟨_, rfl⟩
      have hy0 : 0 ≤ y := hy ▸ Int.ediv_nonneg hx0 (Int.le_of_lt pM)
      have hy1 : y < 2 ^ (k * (R - M)) := by
        rw [hy]
        refine Int.ediv_lt_of_lt_mul pM ?_
        rw [← Int.pow_add, ← Nat.mul_add, show R - M + (M - L) = R - L by (first | lia (splits := 0) | lia (splits := 4) | omega)]
        exact hx1
      have hz0 : 0 ≤ z := hz ▸ Int.emod_nonneg _ (Int.ne_of_gt pM)
      have hz1 : z < 2 ^ (k * (M - L)) := hz ▸ Int.emod_lt_of_pos _ pM
      have hdz : digs k (M - L) z = digs k (M - L) x := by rw [hz, digs_mod]
      have hd2 : digs k (R - L) x = digs k (M - L) z ++ digs k (R - M) y := by rw [hdz, hy, ← digs_app, show M - L + (R - M) = R - L by (first | lia (splits := 0) | lia (splits := 4) | omega)]
      have pl := putd_len (ds := ds) (l := digs k (M - L) z) (L := L) (R := M) (by (first | lia (splits := 0) | lia (splits := 4) | omega)) (by rw [digs_len]; (first | lia (splits := 0) | lia (splits := 4) | omega))
      refine' run_cons (r1_iff (tst_cmp ?a2 ?b2 opc_eq) ?h2 (run_nil (run_cons (r1_assign (d := .int (M : Int)) (Ev.cast (ev_bin ?a3 ev_int (opb_shr ?b3)) ?c3) ?u3 ?k3 (run_cons (r1_assign (d := .int ((k * (M - L) : Nat) : Int)) (Ev.cast (ev_bin ?a4 ?b4 (opb_mul ?c4)) ?d4) ?u4 ?k4 ?n4))))))
      case' a2 => ktr_rel
      case' b2 => ktr_rel
      case' h2 => exact beq_eq_false_iff_ne.mpr (by (first | lia (splits := 0) | lia (splits := 4) | omega))
      case' a3 => ktr_rel
      case' b3 => decide
      case' c3 => rw [half, ← hM]
      case' u3 => k_upd
      case' k3 => exact .inl (by kernel_rfl)
      case' a4 => ktr_rel
      case' b4 => ktr_rel
      case' c4 => exact mul_ok (by (first | lia (splits := 0) | lia (splits := 4) | omega)) (by (first | lia (splits := 0) | lia (splits := 4) | omega))
      case' d4 => exact congrArg D.int (by rw [Int.natCast_mul, Int.natCast_sub (by (first | lia (splits := 0) | lia (splits := 4) | omega)), Int.mul_comm])
      case' u4 => k_upd
      case' k4 => exact .inl (by kernel_rfl)
      case n4 =>
      refine' run_cons (r1_assign (d := .int y) (Ev.cast (ev_bin ?a5 ?b5 (opb_shr ?c5)) ?d5) ?u5 ?k5 (run_cons (r1_assign (d := .int z) (Ev.cast (ev_bin ?a6 (ev_bin ?b6 ?c6 (opb_shl ?d6 ?e6)) opb_xor) ?f6) ?u6 ?k6 ?n6)))
      case' a5 => ktr_rel
      case' b5 => ktr_rel
      case' c5 => exact Int.natCast_nonneg _
      case' d5 => exact congrArg D.int (by rw [Int.toNat_natCast, Int.fdiv_eq_ediv_of_nonneg _ (Int.le_of_lt pM), hy])
      case' u5 => k_upd
      case' k5 => exact .inl (by kernel_rfl)
      case' a6 => ktr_rel
      case' b6 => ktr_rel
      case' c6 => ktr_rel
      case' d6 => exact Int.natCast_nonneg _
      case' e6 =>
        have := bits_le hy0 hy1
        (first | lia (splits := 0) | lia (splits := 4) | omega)
      case' f6 => exact congrArg D.int (by rw [Int.toNat_natCast, hy, low_bits hx0, hz])
      case' u6 => k_upd
      case' k6 => exact .inl (by kernel_rfl)
      case n6 =>
      refine' run_cons (r1_callm (m := M - L - 1 + 1) ?l7 ?a7 (ih (M - L - 1) (by (first | lia (splits := 0) | lia (splits := 4) | omega)) L M z (by (first | lia (splits := 0) | lia (splits := 4) | omega)) hz0 hz1 (ds := ds) hl (by (first | lia (splits := 0) | lia (splits := 4) | omega)) ok' rfl ?b7 ?c7 ?d7 ?u7) (by (first | lia (splits := 0) | lia (splits := 4) | omega)) ?n7)
      case' l7 => k_mem
      case' a7 => ktr_rel
      case' b7 => k_mem
      case' c7 => k_mem
      case' d7 => k_mem
      case' u7 => k_upd
      case n7 =>
      refine' run_cons (r1_callm (m := R - M - 1 + 1) ?l8 ?a8 (ih (R - M - 1) (by (first | lia (splits := 0) | lia (splits := 4) | omega)) M R y (by (first | lia (splits := 0) | lia (splits := 4) | omega)) hy0 hy1 (ds := putd ds (digs k (M - L) z) L M) (by (first | lia (splits := 0) | lia (splits := 4) | omega)) (by (first | lia (splits := 0) | lia (splits := 4) | omega)) ok' rfl ?b8 ?c8 ?d8 ?u8) (by (first | lia (splits := 0) | lia (splits := 4) | omega)) (run_nil ?n8))
      case' l8 => k_mem
      case' a8 => ktr_rel
      case' b8 => k_mem
      case' c8 => k_mem
      case' d8 => k_mem
      case' u8 => k_upd
      case' n8 => exact congrArg (fun z => some (some (V.own a z))) (by rw [putd_two hR (by rw [digs_len]; (first | lia (splits := 0) | lia (splits := 4) | omega)) (by rw [digs_len]; (first | lia (splits := 0) | lia (splits := 4) | omega)), hd2])
  · obtain ⟨hm, n2, vs2, e2, r2⟩ := S'.own p
    have an : ∀ b, X.MM mine b → (X.clo mine (fun b => b = a) q5 nd5.scope L' f c' cl ["x", "L", "R", "mid", "shift", "upper", "lower", "a_digits", "n", "inner"]).MM m' b := fun b z => by
      by_cases q : b = a
      · exact .inr (q ▸ hm)
      · exact .inl ⟨z, q⟩
    exact kk _ h' tk ⟨fun b o e nm => keep b o e fun q => nm (q ▸ hma), fun _ => .inl⟩ (S.setOwnX hf hs (fun b o e nb => keep b o e nb) e2 (r2.anti an) (S'.tb.anti an))
theorem Ev_castN {X : Cx} {mine : MS} {σ : List (Option V)} {n : Nat} {e : PySem.Expr} {d d' : List D} (a : EvN X mine σ n e d) (h : d = d') : EvN X mine σ n e d' := h ▸ a
theorem lt_bits {a : Int} {m : Nat} (h : Builtin.Int.intBits a ≤ m) : a < 2 ^ m := by
  have e : ((2 ^ m : Nat) : Int) = (2 : Int) ^ m := Int.natCast_pow 2 m
  have := (PySem.intBits_le_iff (x := a) (m := m)).mp h
  (first | lia (splits := 0) | omega)
theorem f5 {W : Wd} {k len : Nat} {a : Int} (hW : W.nest = nestT) (hk : 1 ≤ k) (hk2 : k ≤ 30) (ha : 0 ≤ a) (hlen : (Builtin.Int.intBits a + k - 1) / k = len) (h60 : len ≤ 60) : I2D W a (k : Int) (digs k len a) (len + 3) := by
  refine fn_of_run (vs := ["a", "n", "a_digits", "inner"]) (wr := ["n", "a_digits", "inner"]) (σ := [some (.val (.int a)), some (.val (.int (k : Int))), none, none]) ok5 (by decide) rfl (by decide) rfl fun env h₀ M₀ mine F => ?_
  have hq : (⟨41, 37, 35, 4, "_int2digits.<locals>.inner", 5⟩ : Nest) ∈ W.nest := by rw [hW]; exact .head _
  have hw : ∀ p ∈ nd5.scope.names, p.2 = .free → p.1 ∈ (["n", "a_digits", "inner"] : List Str) := by decide +kernel
  have hb : Builtin.Int.intBits a ≤ k * len := by
    rw [← hlen]
    have h1 := Nat.div_add_mod (Builtin.Int.intBits a + k - 1) k
    have h2 := Nat.mod_lt (Builtin.Int.intBits a + k - 1) (show 0 < k by (first | lia (splits := 0) | lia (splits := 4) | omega))
    (first | lia (splits := 0) | lia (splits := 4) | omega)
  have hfd : ((Builtin.Int.intBits a : Int) + k - 1).fdiv k = len := by
    rw [Int.fdiv_eq_ediv_of_nonneg _ (by (first | lia (splits := 0) | lia (splits := 4) | omega)), ← hlen, Int.natCast_ediv]
    congr 1
    (first | lia (splits := 0) | lia (splits := 4) | omega)
  refine' run_cons (r1_new (Ev_castN (d' := intD (List.replicate len 0)) (evn_mul ?a1 (ev_bin (ev_bin (ev_bin (ev_bitlen ?b1) ?c1 opb_add) ev_int opb_sub) ?d1 (opb_fdiv ?e1 ?f1)) ?g1 ?h1 ?i1) ?j1) ?k1 fun aD => ex_up (by k_upd) ?n1)
  case' a1 => ktr_rel
  case' b1 => ktr_rel
  case' c1 => ktr_rel
  case' d1 => ktr_rel
  case' k1 => ktr_room
  case' e1 => (first | lia (splits := 0) | lia (splits := 4) | omega)
  case' f1 => (first | lia (splits := 0) | lia (splits := 4) | omega)
  case' g1 => exact Nat.le_refl 1
  case' h1 => rw [hfd]; (first | lia (splits := 0) | lia (splits := 4) | omega)
  case' i1 => rw [hfd]; (first | lia (splits := 0) | lia (splits := 4) | omega)
  case' j1 => rw [flat_eq, hfd, Int.toNat_natCast]; exact List.map_replicate.symm
  case n1 =>
  refine' run_cons (r1_def (params := nd5.params) (body := nd5.body) (scope := nd5.scope) hq (fun q' h e => nest_apart (hW ▸ hq) (hW ▸ h) e) (F.code _ hq rfl) rfl rfl ((qual_in F (x := "inner") (by kernel_rfl)).trans (by kernel_rfl)) (fun h S => clos_of S hw) (by kernel_rfl) (by kernel_rfl) (by kernel_rfl) ?k2 fun f c' => ex_up (by k_upd) ?n2)
  case' k2 => ktr_room
  case n2 =>
  have ok : ClOk5 ⟨W, env, ["a", "n", "a_digits", "inner"], h₀, M₀, ["n", "a_digits", "inner"], true⟩ (capt env nd5.scope.names []) :=
    clok_outer (by kernel_rfl) (by kernel_rfl) (by kernel_rfl) (by decide +kernel) (by decide +kernel) (by decide +kernel) (by decide +kernel) (by decide +kernel) hw
      (fun y hy => F.kind ((by decide +kernel : ∀ y ∈ (["a_digits", "n", "inner"] : List Str), (fd 5).scope.names.lookup y = some .cell) y hy))
      (fun cl doc pm c' ctv l h => by match l, h with | [a, b, c], _ => rfl)
  refine' run_seq (R := fun m σ' => Cat mine aD = m ∧ σ' = [some (.val (.int a)), some (.val (.int (k : Int))), some (.own aD (intD (digs k len a))), some (fn5 f c' (capt env nd5.scope.names []))]) ?i3 ?n3
  case n3 =>
    rintro m _ ⟨rfl, rfl⟩
    refine run_freeze rfl (x := "a_digits") (by k_mem) (by k_upd) ?_
    refine' run_cons (r1_return ?a4 rfl)
    case' a4 => ktr_rel
  case i3 =>
  by_cases h0 : a = 0
  · have hl0 : len = 0 := by
      have e : Builtin.Int.intBits a = 0 := by rw [h0]; decide +kernel
      rw [← hlen, e]
      exact Nat.div_eq_of_lt (by (first | lia (splits := 0) | lia (splits := 4) | omega))
    refine' r1_iff (tst_val ?a5 ?b5) ?c5 (run_nil ⟨rfl, rfl, ?d5⟩)
    case' a5 => ktr_rel
    case' b5 => trivial
    case' c5 => rw [h0]; rfl
    case' d5 => rw [hl0]; rfl
  · have hl1 : 1 ≤ len := by
      have e : 0 < Builtin.Int.intBits a := by
        rcases Nat.eq_zero_or_pos (Builtin.Int.intBits a) with q | q
        · have := lt_bits (a := a) (m := 0) (by (first | lia (splits := 0) | lia (splits := 4) | omega))
          simp at this
          (first | lia (splits := 0) | lia (splits := 4) | omega)
        · exact q
      rw [← hlen]
      exact (Nat.le_div_iff_mul_le (by (first | lia (splits := 0) | lia (splits := 4) | omega))).mpr (by (first | lia (splits := 0) | lia (splits := 4) | omega))
    refine' r1_ift (tst_val ?a6 ?b6) ?c6 (run_cons (r1_callm (m := len - 1 + 1) ?l6 ?d6 (inner5 hk hk2 (len - 1) 0 len a (by (first | lia (splits := 0) | lia (splits := 4) | omega)) ha ?e6 (ds := List.replicate len 0) ?f6 ?g6 ok rfl ?h6 ?i6 ?j6 ?u6) (by (first | lia (splits := 0) | lia (splits := 4) | omega)) (run_nil ⟨rfl, rfl, ?n6⟩)))
    case' a6 => ktr_rel
    case' b6 => trivial
    case' c6 => exact bne_iff_ne.mpr h0
    case' l6 => k_mem
    case' d6 => refine' evl_cons ?o6 (evl_cons ev_int (evl_cons (Ev.cast (ev_ownLen (lkl_own ?p6) ?q6 bb_len (by decide) ?r6) ?s6) evl_nil))
    case' o6 => ktr_rel
    case' p6 => k_mem
    case' r6 => ktr_room
    case' s6 => exact congrArg (fun z : Nat => D.int z) (by rw [List.length_map, List.length_replicate])
    case' e6 => exact lt_bits hb
    case' f6 => rw [List.length_replicate]; exact h60
    case' g6 => rw [List.length_replicate]; exact Nat.le_refl _
    case' h6 => k_mem
    case' i6 => k_mem
    case' j6 => k_mem
    case' u6 => k_upd
    case' n6 => rw [putd, List.take_zero, List.drop_of_length_le (by rw [List.length_replicate]; exact Nat.le_refl _), Nat.sub_zero, List.append_nil]; rfl
    case' q6 => rw [List.length_map, List.length_replicate]; (first | lia (splits := 0) | lia (splits := 4) | omega)
noncomputable def sign (c : Nat) : Str := ⟨#[c]⟩
noncomputable abbrev signsD (x : Str) : List D := x.cps.toList.map fun c => .str (sign c)
section
variable {X : Cx} {mine : MS} {σ : List (Option V)} {n : Nat}
theorem it_str {e : PySem.Expr} {x : Str} (a : Ev X mine σ n e (.str x)) : It X mine σ n e (signsD x) := fun A E s Q R S h =>
  a A E s _ R S fun v h₁ t₁ k₁ S₁ r => by
    obtain ⟨t, rfl⟩ := r.iStr
    have len : (signsD x).length = x.cps.size := by simp
    have sg : ∀ i v, SignAt x i v → ∃ d, (signsD x)[i]? = some d ∧ Rep (X.MM mine) h₁ v d := fun i v ⟨c, u, e, q⟩ => by
      subst q
      refine ⟨.str (sign c), ?_, .str _ _⟩
      rw [List.getElem?_map, Array.getElem?_toList, e]
      rfl
    have one : ∀ b ∈ [h₁.objs.size], b ≠ h₁.objs.size → ¬ mine b ∧ ∃ o, h₁.get? b = some o ∧ o.cls ≠ .none := fun b hb nb => absurd (List.mem_singleton.mp hb) nb
    cases ha : x.cps.all (· < 128) with
    | true => exact wpAny_pyIter_ascii ha (h h₁.objs.size h₁ _ t₁ [h₁.objs.size] (SignAt x) (fun i h => h.IsStrIter h₁.objs.size "str_ascii_iterator" x t i) k₁ S₁ (alloc_none h₁) (alloc_sub _ _) ⟨_, Heap.get?_push_size _ rfl, rfl, rfl⟩ (len ▸ Walks.strAscii R.handled _ x t) sg
        (fun i h ⟨o, q, c, _⟩ => ⟨o, q, by rw [c]; intro z; cases z⟩) one)
    | false => exact wpAny_pyIter_wide ha (h h₁.objs.size h₁ _ t₁ [h₁.objs.size] (SignAt x) (fun i h => h.IsStrIter h₁.objs.size "str_iterator" x t i) k₁ S₁ (alloc_none h₁) (alloc_sub _ _) ⟨_, Heap.get?_push_size _ rfl, rfl, rfl⟩ (len ▸ Walks.strWide R.handled _ x t) sg
        (fun i h ⟨o, q, c, _⟩ => ⟨o, q, by rw [c]; intro z; cases z⟩) one)
end
section
variable {P : Params}
theorem k_makes : makesIn (KK P) 125 = true := by kernel_rfl
theorem k_init : findIn (KK P) (.ref 125) "__init__" = some (some (.ref 80)) := by kernel_rfl
theorem k_fn80 : typeIn (KK P) (.ref 80) = some (.type "function") := by kernel_rfl
theorem k_fn94 : typeIn (KK P) (.ref 94) = some (.type "function") := by kernel_rfl
theorem k_level : findIn (KK P) (.ref 125) "indent_level" = some (some (.ref 94)) := by kernel_rfl
theorem k_get : plainGet (KK P) 125 "n" = true := by kernel_rfl
theorem k_dict : hasDictIn (KK P) 125 = true := by kernel_rfl
theorem k_set : findIn (KK P) (.ref 125) "__setattr__" = some (some (.builtin "object.__setattr__")) := by kernel_rfl
theorem k_over : plainOver (KK P) 125 = true := by kernel_rfl
theorem k_none : ∀ x ∈ (["raw", "n", "nt", "norm", "is_simple"] : List Str), findIn (KK P) (.ref 125) x = some none := by
  intro x hx
  simp only [List.mem_cons, List.not_mem_nil, or_false] at hx
  rcases hx with rfl | rfl | rfl | rfl | rfl <;> kernel_rfl
theorem k_S : findCls (KK P) (.ref 125) (.type "type") "S" = some (.val (.str " " 291)) := by kernel_rfl
theorem k_T : findCls (KK P) (.ref 125) (.type "type") "T" = some (.val (.str "\t" 292)) := by kernel_rfl
theorem k_reads : readsIn (KK P) 125 (.type "type") = true := by kernel_rfl
end
theorem ws_room {A : Around} {n : Nat} {v : Value} (R : Room A (n + 1)) : Room (A.under (.builtin "type.__call__" ⟨[.ref 125, v], []⟩)) n := by
  have hw : (Code.builtin "type.__call__" ⟨[.ref 125, v], []⟩).weight = 1 := by kernel_rfl
  have hu : (Code.builtin "type.__call__" ⟨[.ref 125, v], []⟩).cUnits = 1 := by kernel_rfl
  refine ⟨R.handled, ?_, ?_⟩
  · have := R.depth
    show A.depth + _ + n < _
    (first | lia (splits := 0) | omega)
  · have := R.units
    show A.units + _ + 8 * n < _
    (first | lia (splits := 0) | omega)
noncomputable def Ins (x dx : Addr) (fs : List (Str × (Value → Prop))) (h : Heap) : Prop :=
  h.get? x = some (instObj 125 dx) ∧ ∃ (es : List DictEntry) (k : Nat), h.get? dx = some (dictOf es k) ∧ es.length ≤ fs.length ∧ (∀ f ∈ fs, ∃ v, getL f.1 es = some (some v) ∧ f.2 v ∧ handedIn v = true) ∧ (∀ y : Str, y ∉ fs.map (·.1) → getL y es = some none)
theorem Ins.at {x dx : Addr} {fs : List (Str × (Value → Prop))} {h : Heap} (i : Ins x dx fs h) : ∃ es k, h.get? dx = some (dictOf es k) ∧ InstAt h x (instObj 125 dx) 125 (some (dictOf es k)) ∧ es.length ≤ fs.length ∧ (∀ f ∈ fs, ∃ v, getL f.1 es = some (some v) ∧ f.2 v ∧ handedIn v = true) ∧ ∀ y : Str, y ∉ fs.map (·.1) → getL y es = some none := by
  obtain ⟨a, es, k, b, r⟩ := i
  exact ⟨es, k, b, ⟨a, rfl, rfl, b⟩, r⟩
section
variable {W : Wd} {A : Around} {E : Value → Shared → Prop} {s : Shared} {x dx : Addr} {fs : List (Str × (Value → Prop))}
theorem ins_get {y : Str} {p : Value → Prop} {b : Bool} {Q : Value → Shared → Prop} (G : GS W s.heap) (i : Ins x dx fs s.heap) (hy : y ∈ (["raw", "n", "nt", "norm", "is_simple"] : List Str)) (hf : (y, p) ∈ fs) (h : ∀ v, p v → Q v { s with toks := s.toks + 1 }) :
    wpAny W.M A (getAttr (.ref x) y b) Q E s := by
  obtain ⟨es, k, _, I, _, hv, _⟩ := i.at
  obtain ⟨v, e, pv, hh⟩ := hv _ hf
  exact get_value G.kin I (plainGet_of k_get).1 (findObj_own k_dict (k_none y hy) rfl e) hh (h v pv)
theorem getL_cons {z : Str} {e : DictEntry} {l : List DictEntry} (h : e.refKey = false) : getL z (e :: l) = if e.key.isStr z then some (some e.val) else getL z l := by
  unfold getL
  rw [List.find?_cons, List.any_cons, h, Bool.false_or]
  cases e.key.isStr z <;> rfl
theorem getL_none {z : Str} {e : DictEntry} {l : List DictEntry} (h : getL z (e :: l) = some none) : e.refKey = false ∧ e.key.isStr z = false ∧ getL z l = some none := by
  unfold getL at h
  rw [List.find?_cons] at h
  cases he : e.key.isStr z with
  | true => (first | exact (no_get he h).elim | exact (no_get h he).elim | (rw [he] at h; cases h))
  | false =>
    rw [he] at h
    unfold getL
    revert h
    cases l.find? (·.key.isStr z) with
    | some _ => intro h; cases h
    | none =>
      intro h
      rw [List.any_cons] at h
      cases hr : e.refKey with
      | true => (first | exact (no_get hr h).elim | exact (no_get h hr).elim | (rw [hr] at h; cases h))
      | false =>
        rw [hr, Bool.false_or] at h
        exact ⟨rfl, rfl, h⟩
theorem getL_put {y : Str} {hs : Int} {t : Tok} {v : Value} : ∀ {es : List DictEntry}, getL y es = some none → (∀ z : Str, z ≠ y → getL z (putL y hs (.str y t) v es) = getL z es) ∧ getL y (putL y hs (.str y t) v es) = some (some v) ∧ (putL y hs (.str y t) v es).length = es.length + 1
  | [], _ => by
    have r : (⟨hs, .str y t, v⟩ : DictEntry).refKey = false := rfl
    refine ⟨fun z hz => ?_, ?_, rfl⟩
    · rw [putL, getL_cons r, if_neg]
      show ¬ ((y == z) = true)
      exact fun q => hz (eq_of_beq q).symm
    · rw [putL, getL_cons r, if_pos]
      exact beq_self_eq_true y
  | e :: r, h => by
    obtain ⟨h1, h2, h3⟩ := getL_none h
    obtain ⟨a, b, c⟩ := getL_put (hs := hs) (t := t) (v := v) h3
    have e1 : putL y hs (.str y t) v (e :: r) = e :: putL y hs (.str y t) v r := by rw [putL, h2]; rfl
    rw [e1]
    refine ⟨fun z hz => ?_, ?_, congrArg (· + 1) c⟩
    · rw [getL_cons h1, getL_cons h1, a z hz]
    · rw [getL_cons h1, h2, b]; rfl
theorem ins_set {y : Str} {p : Value → Prop} {v : Value} {Q : Unit → Shared → Prop} (G : GS W s.heap) (i : Ins x dx fs s.heap) (hy : y ∈ (["raw", "n", "nt", "norm", "is_simple"] : List Str)) (hn : y ∉ fs.map (·.1)) (hl : fs.length ≤ 10) (pv : p v) (hh : handedIn v = true)
    (h : ∀ h', (∀ b, b ≠ dx → h'.get? b = s.heap.get? b) → Ins x dx ((y, p) :: fs) h' → Q () { s with heap := h', toks := s.toks + 2 }) :
    wpAny W.M A (setAttr (.ref x) y v) Q E s := by
  obtain ⟨hh', gg, dr, tk, os⟩ := s
  obtain ⟨es, k, D, I, hes, hv, ho⟩ := i.at
  have ht : takerIn (KK W.w.params) 125 y = some none := by unfold takerIn; rw [k_none y hy]; rfl
  obtain ⟨cd, hc, hd⟩ := any_some (show (clsIn (KK W.w.params) 125).any (·.hasDict) = true from k_dict)
  refine set_plain G.kin I k_set (osa_open (s := ⟨hh', gg, dr, tk + 1, os⟩) G.kin I k_over ht fun b => ?_)
  refine wpAny_bind (wpAny_pure (wpAny_bind (wpAny_bind (wpAny_loadPart I.at_ (wpAny_bind ((looks_clsIn G.kin hc).at ?_))))))
  rw [hd]
  refine wpAny_pure (a := some dx) (wpAny_bind (wpAny_pure (wpAny_bind ?_)))
  unfold nsSet
  refine wpAny_bind (wpAny_bind (wpAny_askSetting (wpAny_pure (wpAny_bind (wpAny_mkText (wpAny_bind (wpAny_loadPart D ?_)))))))
  have hz := getL_put (hs := PyData.keyHash W.w.params y) (t := tk + 1) (v := v) (ho y hn)
  have c : (!es.toArray.any (·.key.isStr y) && es.toArray.any (·.refKey)) = false := by
    rw [← Array.any_toList, ← Array.any_toList]
    have := ho y hn
    unfold getL at this
    split at this
    · cases this
    · split at this
      · cases this
      · rename_i q; rw [Bool.not_eq_true] at q; rw [q, Bool.and_false]
  dsimp only
  rw [aRefKeyMayBeTheName_at, c]
  have D' : (hh'.update dx (Obj.putName y (PyData.keyHash W.w.params y) (.str y (tk + 1)) v)).get? dx = some (dictOf (putL y (PyData.keyHash W.w.params y) (.str y (tk + 1)) v es) (putN y es k)) := by
    rw [← putName_dict]
    exact Heap.get?_update_self _ D (by rw [putName_dict]; rfl)
  refine wpAny_updatePart D (wpAny_bind (wpAny_lookBehind D' (pastItsLine_dict (by rw [List.size_toArray, hz.2.2, sizeLine_eq]; (first | lia (splits := 0) | omega))) ?_))
  have nx : x ≠ dx := fun q => by have := I.at_; rw [q] at this; (first | exact (no_get D this).elim | exact (no_get this D).elim | (rw [D] at this; cases this))
  refine wpAny_pure (h _ (fun b nb => Heap.get?_update_ne _ _ _ _ nb) ⟨(Heap.get?_update_ne _ _ _ _ nx).trans I.at_, _, _, D', ?_, fun f hf => ?_, fun z hz' => ?_⟩)
  · rw [hz.2.2]; exact Nat.succ_le_succ hes
  · rcases List.mem_cons.mp hf with rfl | hf
    · exact ⟨v, hz.2.1, pv, hh⟩
    · obtain ⟨u, e, r⟩ := hv f hf
      exact ⟨u, (hz.1 _ fun q => hn (q ▸ List.mem_map_of_mem hf)).trans e, r⟩
  · rw [List.map_cons, List.mem_cons, not_or] at hz'
    exact (hz.1 z hz'.1).trans (ho z hz'.2)
end
section
variable {X : Cx} {mine : MS} {σ : List (Option V)} {n : Nat}
theorem opf_lent {W : Wd} {ds : List D} (hz : ds.length ≤ 1000000) : OpF W n (.builtin "len") [.tup ds] (.int ds.length) := fun M A E s Q vs R L r h => by
  obtain ⟨v, rfl, a⟩ := rep1 r
  cases a with
  | tup e m r =>
    have l := r.length
    simp only [Array.length_toList] at l
    refine P.len_tuple e (by (first | lia (splits := 0) | omega)) ?_
    rw [l]
    exact h _ s.heap _ (Sub.refl _) (.int _ _)
theorem ev_itemT {value slice : PySem.Expr} {p : Pos} {ds : List D} {k : Int} {d : D} (a : Ev X mine σ n value (.tup ds)) (b : Ev X mine σ n slice (.int k)) (h0 : 0 ≤ k) (hd : ds[k.toNat]? = some d) (hf : k < 2 ^ 63)
    (hs : ∀ o i, subscripted slice false o i = operate [o, i] (getItem o i) := by intro _ _; rfl) : Ev X mine σ n (.Subscript value slice p) d := fun A E s Q R S h =>
  Subscript_ (a A E s _ R S fun va h₁ t₁ k₁ S₁ r₁ => b A E _ _ R S₁ fun vb h₂ t₂ k₂ S₂ r₂ => by
    obtain ⟨_, rfl⟩ := r₂.iInt
    have r := r₁.ext k₂
    clear r₁
    obtain ⟨a', nn, vs, rfl, e, m, r⟩ := r.iTup
    obtain ⟨x, hx, q⟩ := r.get hd
    have hl := (List.getElem?_eq_some_iff.mp hd).1
    have len := r.length
    rw [Array.length_toList] at len
    have hk : seqIndex? k vs.size = some k.toNat := by
      have e1 : ¬ k < 0 := by (first | lia (splits := 0) | lia (splits := 4) | omega)
      have e2 : k < vs.size := by (first | lia (splits := 0) | lia (splits := 4) | omega)
      simp [seqIndex?, e1, h0, e2]
    exact tail_any (s := { s with heap := h₂, toks := t₂ }) ⟨_, e, rfl⟩ F.slot_tuple_getitem.lookup (P.getItem_tuple e (by (first | lia (splits := 0) | lia (splits := 4) | omega)) hf hk (by simpa using hx) (h x h₂ t₂ (k₁.trans k₂) S₂ q)) (hs _ _))
noncomputable def WsF (x dx t t2 : Addr) (n nt b : Int) (cnt : List Int) (h : Heap) : Prop :=
  Ins x dx [("is_simple", fun _ => True), ("norm", fun v => v = .ref t), ("nt", fun v => ∃ u, v = .int nt u), ("n", fun v => ∃ u, v = .int n u), ("raw", fun _ => True)] h ∧
    (∃ k u, h.get? t = some (tob #[.ref t2, .int b u] k)) ∧ ∃ (k : Nat) (xs : List (Int × Tok)), h.get? t2 = some (tob (xs.map fun p => Value.int p.1 p.2).toArray k) ∧ xs.map (·.1) = cnt
noncomputable abbrev wsV (x dx t t2 : Addr) (n nt b : Int) (cnt : List Int) : V := .ob (.ref x) [x, dx, t, t2] (WsF x dx t t2 n nt b cnt)
theorem WsF.rep {M : MS} {h : Heap} {x dx t t2 : Addr} {n nt b : Int} {cnt : List Int} (w : WsF x dx t t2 n nt b cnt h) (m : ∀ a ∈ [x, dx, t, t2], ¬ M a) : ObRep M h [x, dx, t, t2] (WsF x dx t t2 n nt b cnt) := by
  refine ⟨w, fun a ha => ⟨m a ha, ?_⟩, fun h₁ h₂ k w => ?_⟩
  · obtain ⟨⟨e1, es, k, e2, _⟩, ⟨k3, u, e3⟩, k4, xs, e4, _⟩ := w
    simp only [List.mem_cons, List.not_mem_nil, or_false] at ha
    rcases ha with rfl | rfl | rfl | rfl
    · exact ⟨_, e1⟩
    · exact ⟨_, e2⟩
    · exact ⟨_, e3⟩
    · exact ⟨_, e4⟩
  · obtain ⟨⟨e1, es, k2, e2, r⟩, ⟨k3, u, e3⟩, k4, xs, e4, r4⟩ := w
    exact ⟨⟨(k x (by simp) _ e1).get (by intro q; cases q), es, k2, (k dx (by simp) _ e2).get (by intro q; cases q), r⟩, ⟨k3, u, (k t (by simp) _ e3).get (by intro q; cases q)⟩, k4, xs, (k t2 (by simp) _ e4).get (by intro q; cases q), r4⟩
theorem ints_rep {M : MS} {h : Heap} : ∀ xs : List (Int × Tok), RepL M h (xs.map fun p => Value.int p.1 p.2) (intD (xs.map (·.1)))
  | [] => .nil
  | p :: xs => .cons (.int _ _) (ints_rep xs)
theorem ev_field {y z : Str} {px ap : Pos} {x dx : Addr} {fs : List (Str × (Value → Prop))} {L : List Addr} {F : Heap → Prop} {p : Value → Prop} {d : D} (lk : Lk X.vs σ z (.ob (.ref x) L F)) (hF : ∀ h, F h → Ins x dx fs h) (hy : y ∈ (["raw", "n", "nt", "norm", "is_simple"] : List Str)) (hf : (y, p) ∈ fs)
    (hd : ∀ (M : MS) h v, (∀ a ∈ L, ¬ M a) → F h → p v → Rep M h v d)
    (he : eval (.Attribute (.Name z px) y ap) X.env = (do
      let o ← eval (.Name z px) X.env
      standAt ap.atName
      let r ← holding [o] (getAttr o y true)
      letTemporaryGo (.Name z px) o r
      pure r) := by with_unfolding_all rfl) : Ev X mine σ n (.Attribute (.Name z px) y ap) d := fun A E s Q R S h => by
  obtain ⟨i, val, hx, _, va, rfl, r⟩ := lk.at S
  refine Attribute_Name_ (wpAny_Name (load_var S.kind va ?_) (S.ok.nodbg z (List.mem_of_getElem? hx))) he
  exact ins_get S.gsAt (hF _ r.1) hy hf fun v pv => h v s.heap _ (Ext.refl _ _) S (hd _ _ _ (fun a ha => (r.2.1 a ha).1) r.1 pv)
theorem ev_fn {z : Str} {px ap : Pos} {x dx t t2 : Addr} {m nt b : Int} {cnt : List Int} (lk : Lk X.vs σ z (wsV x dx t t2 m nt b cnt)) (he : eval (.Attribute (.Name z px) "n" ap) X.env = (do
      let o ← eval (.Name z px) X.env
      standAt ap.atName
      let r ← holding [o] (getAttr o "n" true)
      letTemporaryGo (.Name z px) o r
      pure r) := by with_unfolding_all rfl) : Ev X mine σ n (.Attribute (.Name z px) "n" ap) (.int m) := ev_field (p := fun v => ∃ u, v = .int m u) lk (fun _ w => w.1) (by decide) (by simp) (fun M h v _ _ ⟨u, q⟩ => q ▸ .int m u) he
theorem ev_fnt {z : Str} {px ap : Pos} {x dx t t2 : Addr} {m nt b : Int} {cnt : List Int} (lk : Lk X.vs σ z (wsV x dx t t2 m nt b cnt)) (he : eval (.Attribute (.Name z px) "nt" ap) X.env = (do
      let o ← eval (.Name z px) X.env
      standAt ap.atName
      let r ← holding [o] (getAttr o "nt" true)
      letTemporaryGo (.Name z px) o r
      pure r) := by with_unfolding_all rfl) : Ev X mine σ n (.Attribute (.Name z px) "nt" ap) (.int nt) := ev_field (p := fun v => ∃ u, v = .int nt u) lk (fun _ w => w.1) (by decide) (by simp) (fun M h v _ _ ⟨u, q⟩ => q ▸ .int nt u) he
theorem ev_fnorm {z : Str} {px ap : Pos} {x dx t t2 : Addr} {m nt b : Int} {cnt : List Int} (lk : Lk X.vs σ z (wsV x dx t t2 m nt b cnt)) (he : eval (.Attribute (.Name z px) "norm" ap) X.env = (do
      let o ← eval (.Name z px) X.env
      standAt ap.atName
      let r ← holding [o] (getAttr o "norm" true)
      letTemporaryGo (.Name z px) o r
      pure r) := by with_unfolding_all rfl) : Ev X mine σ n (.Attribute (.Name z px) "norm" ap) (.tup [.tup (intD cnt), .int b]) := ev_field (p := fun v => v = .ref t) lk (fun _ w => w.1) (by decide) (by simp) (fun M h v hm w q => by
  obtain ⟨_, ⟨k3, u, e3⟩, k4, xs, e4, rfl⟩ := w
  subst q
  exact .tup e3 (hm t (by simp)) (.cons (.tup e4 (hm t2 (by simp)) (by simpa using ints_rep xs)) (.cons (.int _ _) .nil))) he
end
noncomputable def FnU (X : Cx) (mine : MS) (σ : List (Option V)) (f : Addr) (us : List V) (res : D) (n : Nat) : Prop :=
  ∀ (A : Around) (E : Value → Shared → Prop) (s : Shared) (Q : Value → Shared → Prop) (vals : List Value), Room A n → St X mine σ s.heap → VRepL (X.MM mine) mine s.heap vals us →
    (∀ v h' tk, Ext X.W.tabs s.heap h' → St X mine σ h' → Rep (X.MM mine) h' v res → Q v { s with heap := h', toks := tk }) → wpAny X.W.M A (call (.ref f) vals) Q E s
noncomputable def ilp (cnt : List Int) (size : Nat) (j : Nat) : Int := ((List.range j).map fun i : Nat => (((size + i) / size : Nat) : Int) * cnt.getD (size + i) 0).sum
noncomputable def lvl (cnt : List Int) (size : Nat) (b nt : Int) : Int := b + size * (ilp cnt size (cnt.length - size) + nt)
theorem ilp_succ (cnt : List Int) (size j : Nat) : ilp cnt size (j + 1) = ilp cnt size j + (((size + j) / size : Nat) : Int) * cnt.getD (size + j) 0 := by
  unfold ilp
  rw [List.range_succ, List.map_append, List.sum_append]
  simp
noncomputable abbrev qL : Str := "Whitespace.indent_level"
theorem fx94 {W : Wd} {h : Heap} (G : GS W h) : FnX 94 93 "indent_level" qL (md 3).params (md 3).body (md 3).scope [] h :=
  ⟨⟨.none, _, .none, (G.kin 94 _ rfl).trans (congrArg some (show o94 W.w.params = fnMade "indent_level" qL (md 3).params (md 3).body (md 3).scope [] .none (.str t114 276) 93 .none by kernel_rfl))⟩, ⟨93, _, _, 318, rfl, G.kin 93 _ rfl, rfl, by kernel_rfl⟩⟩
theorem ok94 {X : Cx} : ClOk X "indent_level" qL (md 3).params (md 3).body (md 3).scope [] ["self", "tabsize"] ["count", "trailing", "il", "i"] [] where
  kind := by kernel_rfl
  co := by kernel_rfl
  gen := by kernel_rfl
  nodup := by decide +kernel
  nodbg := by decide +kernel
  nocell := by decide +kernel
  pk := by decide +kernel
  fk := fun y hy => by cases hy
  cell := fun y hy => by cases hy
  clo := fun _ x c e => by cases e
  bind := fun doc pm c' ctv l h => by match l, h with | [a, b], _ => rfl
theorem fd_nat (a b : Nat) : (a : Int).fdiv (b : Int) = ((a / b : Nat) : Int) := by rw [Int.fdiv_eq_ediv_of_nonneg _ (Int.natCast_nonneg b)]; rfl
theorem rng_from (a n : Nat) : rng (a : Int) (n : Int) 1 = (List.range (n - a)).map fun i : Nat => D.int ((a : Int) + (i : Nat)) := by
  unfold rng Builtin.Range.rangeSize
  rw [if_pos (by decide)]
  have : (if (a : Int) < n then ((n : Int) - a - 1) / 1 + 1 else 0).toNat = n - a := by
    rw [Int.ediv_one]
    split <;> (first | lia (splits := 0) | lia (splits := 4) | omega)
  rw [this]
  exact List.map_congr_left fun i _ => congrArg D.int (by (first | lia (splits := 0) | lia (splits := 4) | omega))
theorem f10l {X : Cx} {mine : MS} {σ : List (Option V)} {x dx t t2 : Addr} {n nt b : Int} {cnt : List Int} {size : Nat} (hs : 2 ≤ size) (hs4 : size ≤ 4) (hc : cnt.length ≤ 1000) :
    FnU X mine σ 94 [wsV x dx t t2 n nt b cnt, .val (.int (size : Int))] (.int (lvl cnt size b nt)) 3 := by
  intro A E s Q vals Ro S ra kk
  refine clo_wp (vs := ["self", "tabsize", "count", "trailing", "il", "i"]) (σ₀ := [some (wsV x dx t t2 n nt b cnt), some (.val (.int (size : Int))), none, none, none, none]) (frees := []) (P := fun fl _ _ => fl = .ret (.int (lvl cnt size b nt))) (D := fun _ => False)
    S Ro (fx94 S.gsAt) ok94 ra rfl ⟨fun a ds => by simp, fun a ds => by simp⟩ (fun _ z => z.elim) .nil (fun i j a ds es e => by simp at e) rfl rfl (fun L' fL => ?_) fun L' fl m' σ'' h' tk fw fL p keep S' fr => ?_
  · refine' run_cons (r1_unpT2 (d₁ := .tup (intD cnt)) (d₂ := .int b) ?k1 ?k2 (ev_fnorm ?l1) ?u1 (run_cons (r1_assign ev_int ?u2 ?k3 ?n2)))
    case' k1 => exact .inl (by kernel_rfl)
    case' k2 => exact .inl (by kernel_rfl)
    case' l1 => k_mem
    case' u1 => k_upd
    case' u2 => k_upd
    case' k3 => exact .inl (by kernel_rfl)
    case n2 =>
    refine' run_cons (r1_for (ds := (List.range (cnt.length - size)).map fun i : Nat => D.int ((size : Int) + (i : Nat))) (fun i m σ' => m = (fun b => b = L' ∨ False) ∧ ∃ u, σ' = [some (wsV x dx t t2 n nt b cnt), some (.val (.int (size : Int))), some (.val (.tup (intD cnt))), some (.val (.int b)), some (.val (.int (ilp cnt size i))), u]) rfl (.inl (by kernel_rfl)) (It.cast (it_range2 (evl_cons ?a3 (evl_cons (ev_blt (evl_cons ?b3 evl_nil) (opf_lent ?c3) bb_len (by decide) ?d3) evl_nil)) ?e3 bb_range (by decide) ?f3) ?g3) ⟨rfl, none, rfl⟩ ?s3 ?n3)
    case' a3 => ktr_rel
    case' b3 => ktr_rel
    case' d3 => kernel_rfl
    case' f3 => kernel_rfl
    case' e3 => exact small_one (by (first | lia (splits := 0) | omega)) (by (first | lia (splits := 0) | omega)) (by rw [List.length_map]; (first | lia (splits := 0) | omega)) (by rw [List.length_map]; (first | lia (splits := 0) | omega))
    case' g3 => rw [List.length_map]; exact rng_from size cnt.length
    case n3 =>
      rintro m _ ⟨rfl, u, rfl⟩
      refine' run_cons (r1_return (Ev.cast (ev_bin ?a4 (ev_bin ?b4 (ev_bin ?c4 (ev_fnt ?d4) opb_add) (opb_mul ?e4)) opb_add) ?f4) ?p4)
      case' a4 => ktr_rel
      case' b4 => ktr_rel
      case' c4 => ktr_rel
      case' d4 => k_mem
      case' e4 => exact mul_ok (by (first | lia (splits := 0) | omega)) (by (first | lia (splits := 0) | omega))
      case' p4 => rfl
      case' f4 => rw [List.length_map, List.length_range]; rfl
    case s3 =>
      rintro I i d m _ hd ⟨rfl, u, rfl⟩
      rw [List.getElem?_map] at hd
      have hi : i < cnt.length - size := by
        rcases Nat.lt_or_ge i (cnt.length - size) with h | h
        · exact h
        · rw [List.getElem?_eq_none (by rw [List.length_range]; exact h)] at hd; cases hd
      rw [List.getElem?_range hi] at hd
      have hde : d = D.int ((size + i : Nat) : Int) := (Option.some.inj hd).symm
      subst hde
      have hg : cnt[size + i]? = some (cnt.getD (size + i) 0) := by rw [List.getD_eq_getElem?_getD, List.getElem?_eq_getElem (by (first | lia (splits := 0) | omega))]; rfl
      refine ex_up (by k_upd) ?_
      refine' run_cons (r1_assign (d := .int (ilp cnt size (i + 1))) (Ev.cast (ev_bin ?a5 (ev_bin (ev_bin ?b5 ?c5 (opb_fdiv ?d5 ?e5)) (ev_itemT (d := .int (cnt.getD (size + i) 0)) ?f5 ?g5 ?h5 ?i5 ?j5) (opb_mul ?l5)) opb_add) ?m5) ?u5 (.inl (by kernel_rfl)) (run_nil ⟨rfl, _, rfl⟩))
      case' a5 => ktr_rel
      case' b5 => ktr_rel
      case' c5 => ktr_rel
      case' f5 => ktr_rel
      case' g5 => ktr_rel
      case' u5 => k_upd
      case' i5 => rw [Int.toNat_natCast, List.getElem?_map, hg]; rfl
      case' l5 => rw [fd_nat]; exact mul_ok (Int.le_trans (by decide) (Int.natCast_nonneg _)) (by have := Nat.div_le_self (size + i) size; (first | lia (splits := 0) | omega))
      case' m5 => rw [fd_nat, ilp_succ]
      all_goals (first | lia (splits := 0) | omega)
    all_goals (rw [List.length_map]; (first | lia (splits := 0) | omega))
  · subst p
    cases fr with
    | ret r => exact kk _ h' tk (fun b o e => keep b o e id) (S.step (fun b o e => keep b o e id) (S'.tb.anti fun b z => .inl ⟨z, id⟩)) (r.anti fun b z => .inl ⟨z, id⟩)
section
variable {X : Cx} {mine : MS} {σ : List (Option V)} {n : Nat} {h h' : Heap}
theorem St.setV {i : Nat} {u : Value} {L L' : List Addr} {F F' : Heap → Prop} (S : St X mine σ h) (hx : σ[i]? = some (some (.ob u L F))) (r : ObRep (X.MM mine) h L' F') : St X mine (σ.set i (some (.ob u L' F'))) h := by
  have hi : i < σ.length := (List.getElem?_eq_some_iff.mp hx).1
  have cv : ∀ {j : Nat} {w : V}, (∀ L F, w ≠ .ob u L F) → (σ.set i (some (.ob u L' F')))[j]? = some (some w) → σ[j]? = some (some w) := fun {j w} hw q => by
    by_cases z : i = j
    · subst z
      rw [List.getElem?_set, if_pos rfl, if_pos hi] at q
      cases q; exact absurd rfl (hw _ _)
    · rwa [List.getElem?_set, if_neg z] at q
  exact { S with
    var := fun j w q => by
      by_cases qq : i = j
      · subst qq
        rw [List.getElem?_set, if_pos rfl, if_pos hi] at q
        cases q
        obtain ⟨x, val, a, b, c⟩ := S.var i _ hx
        exact ⟨x, val, a, b, c.1, r⟩
      · rw [List.getElem?_set, if_neg qq] at q
        exact S.var j w q
    dist := fun j k a ds es q1 q2 => S.dist j k a ds es (cv (fun _ _ e => by cases e) q1) (cv (fun _ _ e => by cases e) q2)
    noro := fun hf j a ds q => S.noro hf j a ds (cv (fun _ _ e => by cases e) q) }
theorem Ins.rep {M : MS} {h : Heap} {x dx : Addr} {fs : List (Str × (Value → Prop))} (i : Ins x dx fs h) (mx : ¬ M x) (md : ¬ M dx) : ObRep M h [x, dx] (Ins x dx fs) := by
  refine ⟨i, fun a ha => ?_, fun h₁ h₂ k i => ?_⟩
  · obtain ⟨e1, es, k, e2, _⟩ := i
    rcases List.mem_cons.mp ha with rfl | ha
    · exact ⟨mx, _, e1⟩
    · rw [List.mem_singleton] at ha
      subst ha
      exact ⟨md, _, e2⟩
  · obtain ⟨e1, es, k2, e2, r⟩ := i
    exact ⟨(k x (by simp) _ e1).get (by intro q; cases q), es, k2, (k dx (by simp) _ e2).get (by intro q; cases q), r⟩
theorem St.turnIns {i : Nat} {x dx : Addr} {fs fs' : List (Str × (Value → Prop))} (S : St X mine σ h) (hx : σ[i]? = some (some (.ob (.ref x) [x, dx] (Ins x dx fs)))) (ho : ∀ j u L F, σ[j]? = some (some (.ob u L F)) → j = i) (h0 : X.h₀.get? dx = none)
    (k : ∀ b, b ≠ dx → h'.get? b = h.get? b) (i' : Ins x dx fs' h') : St X mine (σ.set i (some (.ob (.ref x) [x, dx] (Ins x dx fs')))) h' := by
  obtain ⟨_, _, _, _, _, r⟩ := S.var i _ hx
  have mx := (r.2.1 x (by simp)).1
  have md := (r.2.1 dx (by simp)).1
  obtain ⟨_, es, kk, ed, _⟩ := r.1
  have hi : i < σ.length := (List.getElem?_eq_some_iff.mp hx).1
  have S1 := S.setV hx (L' := []) (F' := fun _ => True) ⟨trivial, fun a ha => (by cases ha), fun _ _ _ _ => trivial⟩
  have S2 : St X mine (σ.set i (some (.ob (.ref x) [] fun _ => True))) h' := S1.other (C := dx) (fun j u L F q => by
    by_cases z : i = j
    · subst z
      rw [List.getElem?_set, if_pos rfl, if_pos hi] at q
      cases q
      exact List.not_mem_nil
    · rw [List.getElem?_set, if_neg z] at q
      exact absurd (ho j u L F q).symm z) ⟨_, _, _, ed, rfl⟩ h0 md k
  have := S2.setV (i := i) (by rw [List.getElem?_set, if_pos rfl, if_pos hi]) (i'.rep mx md)
  rwa [List.set_set] at this
theorem Rep.off {M : MS} {v : Value} {d : _root_.Mine.D} {dx : Addr} {es : List DictEntry} {kk : Nat} (r : Rep M h v d) (ed : h.get? dx = some (dictOf es kk)) (k : ∀ b, b ≠ dx → h'.get? b = h.get? b) : Rep M h' v d :=
  r.mono (fun b vs n _ => ⟨fun e => (k b fun q => by subst q; rw [ed] at e; cases congrArg Obj.data (Option.some.inj e)).trans e, fun e => (k b fun q => by subst q; rw [ed] at e; cases congrArg Obj.data (Option.some.inj e)).trans e⟩) fun _ _ _ => id
theorem r_set {A : Around} {E : Value → Shared → Prop} {s : Shared} {Q : Flow → Shared → Prop} {x dx : Addr} {fs : List (Str × (Value → Prop))} {y z : Str} {zp ap pos : Pos} {e : PySem.Expr} {d : D} {i : Nat} (Ro : Room A n) (S : St X mine σ s.heap)
    (hz : X.vs[i]? = some z) (hx : σ[i]? = some (some (.ob (.ref x) [x, dx] (Ins x dx fs)))) (ho : ∀ j u L F, σ[j]? = some (some (.ob u L F)) → j = i) (h0 : X.h₀.get? dx = none) (a : Ev X mine σ n e d) (hd : ∀ M h v, Rep M h v d → handedIn v = true)
    (hy : y ∈ (["raw", "n", "nt", "norm", "is_simple"] : List Str)) (hn : y ∉ fs.map (·.1)) (hl : fs.length ≤ 10)
    (k : ∀ v h' tk, (∀ b o, s.heap.get? b = some o → b ≠ dx → h'.get? b = some o ∨ (b ∈ X.W.tabs ∧ o.cls = .none ∧ ∃ vs more, o.data = .fields vs ∧ h'.get? b = some { o with data := .fields (vs ++ more) })) → Rep (X.MM mine) h' v d →
      St X mine (σ.set i (some (.ob (.ref x) [x, dx] (Ins x dx ((y, fun u => u = v) :: fs))))) h' → Q .next { s with heap := h', toks := tk })
    (hs : swapsWith e (some (.Attribute (.Name z zp) y ap)) pos.line X.env = pure false := by rfl) : wpAny X.W.M A (exec (.Assign [.Attribute (.Name z zp) y ap] e pos) X.env) Q E s := by
  refine plainObj_wpAny_Assign_Attribute (a A E s _ Ro S fun v h₁ t₁ k₁ S₁ r => ?_) hs
  obtain ⟨z', val, hz', va, rfl, ob⟩ := S₁.var i _ hx
  rw [hz] at hz'
  cases hz'
  refine wpAny_Name (load_var S₁.kind va ?_) (S.ok.nodbg z (List.mem_of_getElem? hz))
  obtain ⟨_, es, kk, ed, _⟩ := ob.1
  refine ins_set (p := fun u => u = v) (s := { s with heap := h₁, toks := t₁ }) S₁.gsAt ob.1 hy hn hl rfl (hd _ _ _ r) fun h' same i' => ?_
  exact k v h' _ (fun b o e nb => by rw [same b nb]; exact k₁ b o e) (r.off ed same) (S₁.turnIns hx ho h0 same i')
end
structure Sc where
  cnt : List Int
  b : Nat
  n : Nat
  nt : Nat
noncomputable def extc (c : List Int) (b : Nat) : List Int := if c.length ≤ b then c ++ List.replicate (b - c.length + 1) 0 else c
noncomputable def Sc.step (s : Sc) (c : Nat) : Sc :=
  if c = 32 then ⟨s.cnt, s.b + 1, s.n + 1, s.nt⟩ else ⟨(extc s.cnt s.b).set s.b ((extc s.cnt s.b).getD s.b 0 + 1), 0, s.n + 1, s.nt + 1⟩
noncomputable def blank (c : Nat) : Bool := c == 32 || c == 9
noncomputable def sc0 : Sc := ⟨[], 0, 0, 0⟩
noncomputable def scan (l : List Nat) : Sc := (l.takeWhile blank).foldl Sc.step sc0
theorem extc_len (c : List Int) (b : Nat) : (extc c b).length = max c.length (b + 1) := by
  unfold extc
  split
  · rw [List.length_append, List.length_replicate]; (first | lia (splits := 0) | lia (splits := 4) | omega)
  · (first | lia (splits := 0) | lia (splits := 4) | omega)
theorem step_bound (s : Sc) (c : Nat) : (s.step c).cnt.length + (s.step c).b ≤ s.cnt.length + s.b + 1 := by
  unfold Sc.step
  split
  · simp; (first | lia (splits := 0) | lia (splits := 4) | omega)
  · simp [extc_len]; (first | lia (splits := 0) | lia (splits := 4) | omega)
theorem steps_bound : ∀ (l : List Nat) (s : Sc), (l.foldl Sc.step s).cnt.length + (l.foldl Sc.step s).b ≤ s.cnt.length + s.b + l.length
  | [], s => by simp
  | c :: l, s => by
    have := steps_bound l (s.step c)
    have := step_bound s c
    simp only [List.foldl_cons, List.length_cons]
    (first | lia (splits := 0) | omega)
theorem take_succ_of {l : List Nat} {i c : Nat} (h : l[i]? = some c) : l.take (i + 1) = l.take i ++ [c] := by
  obtain ⟨hi, rfl⟩ := List.getElem?_eq_some_iff.mp h
  rw [List.take_succ_eq_append_getElem hi]
theorem scan_stop {l : List Nat} {i c : Nat} (h : l[i]? = some c) (hb : ∀ x ∈ l.take i, blank x = true) (hc : blank c = false) : scan l = (l.take i).foldl Sc.step sc0 := by
  unfold scan
  congr 1
  obtain ⟨hi, rfl⟩ := List.getElem?_eq_some_iff.mp h
  conv => lhs; rw [← List.take_append_drop i l, List.drop_eq_getElem_cons hi]
  rw [List.takeWhile_append_of_pos hb, List.takeWhile_cons, hc]
  simp
theorem scan_all {l : List Nat} (hb : ∀ x ∈ l, blank x = true) : scan l = l.foldl Sc.step sc0 := by
  unfold scan
  have := List.takeWhile_append_of_pos (l₂ := []) hb
  rw [List.append_nil, List.takeWhile_nil, List.append_nil] at this
  rw [this]
section
variable {X : Cx} {mine : MS} {σ : List (Option V)} {n : Nat} {h h' : Heap}
theorem ev_cls {y x : Str} {t : Nat} {p ap : Pos} (e : ∀ P, findCls (KK P) (.ref 125) (.type "type") y = some (.val (.str x t))) (hk : X.env.kindOf "Whitespace" = some .globalImplicit)
    (he : eval (.Attribute (.Name "Whitespace" p) y ap) X.env = (do
      let o ← eval (.Name "Whitespace" p) X.env
      standAt ap.atName
      let r ← holding [o] (getAttr o y true)
      letTemporaryGo (.Name "Whitespace" p) o r
      pure r) := by with_unfolding_all rfl) : Ev X mine σ n (.Attribute (.Name "Whitespace" p) y ap) (.str x) := fun A E s Q R S h =>
  Attribute_Name_ (load_glob S S.gsAt.ws hk (by decide +kernel) (cls_value S.gsAt.kin k_reads (e _) rfl (h _ s.heap _ (Ext.refl _ _) S (.str x t)))) he
theorem only0 {o : Option V} {τ : List (Option V)} (h : ∀ v ∈ τ, ∀ u L F, v ≠ some (.ob u L F)) : ∀ j u L F, (o :: τ)[j]? = some (some (.ob u L F)) → j = 0 := fun j u L F q => by
  cases j with
  | zero => rfl
  | succ j => exact absurd rfl (h _ (List.mem_of_getElem? (by simpa using q)) u L F)
theorem Mv.cat {m m' : MS} {dx : Addr} (a : Mv X m h m' h') : Mv X (Cat m dx) h (Cat m' dx) h' := ⟨fun b o e nm => a.keep b o e fun z => nm (.inl z), fun b z => by
  rcases z with z | rfl
  · exact (a.grow b z).imp .inl id
  · exact .inl (.inr rfl)⟩
theorem step_run {st : Stmt} {rest : List Stmt} {A : Around} {E : Value → Shared → Prop} {s : Shared} {Q : Flow → Shared → Prop} {R : MS → List (Option V) → Prop} (Ro : Room A n) (S : St X mine σ s.heap) (a : Run1 X n mine σ st (fun fl m σ' => fl = .next ∧ R m σ'))
    (k : ∀ m σ' h' tk, R m σ' → Mv X mine s.heap m h' → St X m σ' h' → wpAny X.W.M A (execs rest X.env) Q E { s with heap := h', toks := tk }) : wpAny X.W.M A (execs (st :: rest) X.env) Q E s :=
  wpAny_execs_cons (a A E s _ Ro S fun fl m σ' h' tk f p mv S' fr => by
    obtain ⟨rfl, r⟩ := p
    cases fr
    exact k m σ' h' tk r mv S')
theorem step_set {rest : List Stmt} {A : Around} {E : Value → Shared → Prop} {s : Shared} {Q : Flow → Shared → Prop} {x dx : Addr} {fs : List (Str × (Value → Prop))} {τ : List (Option V)} {y z : Str} {zs : List Str} {zp ap pos : Pos} {e : PySem.Expr} {d : D} (Ro : Room A n)
    (S : St X mine (some (.ob (.ref x) [x, dx] (Ins x dx fs)) :: τ) s.heap)
    (hz : X.vs = z :: zs) (hτ : ∀ v ∈ τ, ∀ u L F, v ≠ some (.ob u L F)) (h0 : X.h₀.get? dx = none) (a : Ev X mine (some (.ob (.ref x) [x, dx] (Ins x dx fs)) :: τ) n e d) (hd : ∀ M h v, Rep M h v d → handedIn v = true)
    (hy : y ∈ (["raw", "n", "nt", "norm", "is_simple"] : List Str)) (hn : y ∉ fs.map (·.1)) (hl : fs.length ≤ 10)
    (k : ∀ v h' tk, Mv X (Cat mine dx) s.heap (Cat mine dx) h' → (∀ u d, Rep (X.MM mine) s.heap u d → Rep (X.MM mine) h' u d) → Rep (X.MM mine) h' v d →
      St X mine (some (.ob (.ref x) [x, dx] (Ins x dx ((y, fun u => u = v) :: fs))) :: τ) h' → wpAny X.W.M A (execs rest X.env) Q E { s with heap := h', toks := tk })
    (hs : swapsWith e (some (.Attribute (.Name z zp) y ap)) pos.line X.env = pure false := by rfl) : wpAny X.W.M A (execs (.Assign [.Attribute (.Name z zp) y ap] e pos :: rest) X.env) Q E s := by
  obtain ⟨_, _, _, _, _, ob⟩ := S.var 0 _ rfl
  obtain ⟨_, es, kk, ed, _⟩ := ob.1
  refine wpAny_execs_cons (r_set (i := 0) Ro S (by rw [hz]; rfl) rfl (only0 hτ) h0 a hd hy hn hl (fun v h' tk kp r S' => ?_) hs)
  refine k v h' tk ⟨fun b o e nm => kp b o e fun q => nm (.inr q), fun _ => .inl⟩ (fun u d r' => ?_) r S'
  refine r'.mono (fun b vs nn _ => ⟨fun e => ?_, fun e => ?_⟩) fun _ _ _ => id
  · exact (kp b _ e fun q => by subst q; rw [ed] at e; cases congrArg Obj.data (Option.some.inj e)).resolve_right fun q => by cases q.2.1
  · exact (kp b _ e fun q => by subst q; rw [ed] at e; cases congrArg Obj.data (Option.some.inj e)).resolve_right fun q => by cases q.2.1
theorem ints_of {M : MS} {h : Heap} : ∀ {vs : List Value} {cnt : List Int}, RepL M h vs (intD cnt) → ∃ xs : List (Int × Tok), vs = xs.map (fun p => Value.int p.1 p.2) ∧ xs.map (·.1) = cnt
  | _, [], r => by obtain rfl := r.nil_inv; exact ⟨[], rfl, rfl⟩
  | _, c :: cnt, r => by
    obtain ⟨_, _, rfl, a, r'⟩ := r.iCons
    obtain ⟨xs, rfl, rfl⟩ := ints_of r'
    obtain ⟨t, rfl⟩ := a.iInt
    exact ⟨(c, t) :: xs, rfl, rfl⟩
theorem Ins.imp {x dx : Addr} {fs fs' : List (Str × (Value → Prop))} {h : Heap} (i : Ins x dx fs h) (hn : fs'.map (·.1) = fs.map (·.1)) (hf : ∀ f ∈ fs', ∃ p, (f.1, p) ∈ fs ∧ ∀ v, p v → f.2 v) : Ins x dx fs' h := by
  obtain ⟨a, es, k, b, c, d, e⟩ := i
  have hl : fs'.length = fs.length := by have := congrArg List.length hn; simpa using this
  refine ⟨a, es, k, b, by (first | lia (splits := 0) | omega), fun f hf' => ?_, fun y hy => e y (by rw [← hn]; exact hy)⟩
  obtain ⟨p, hp, q⟩ := hf f hf'
  obtain ⟨v, g, pv, hv⟩ := d _ hp
  exact ⟨v, g, q v pv, hv⟩
end
noncomputable abbrev qI : Str := "Whitespace.__init__"
theorem fxI {W : Wd} {h : Heap} (G : GS W h) : FnX 80 79 "__init__" qI (md 1).params (md 1).body (md 1).scope [] h :=
  ⟨⟨.none, _, .none, (G.kin 80 _ rfl).trans (congrArg some (show o80 W.w.params = fnMade "__init__" qI (md 1).params (md 1).body (md 1).scope [] .none (.str t114 276) 79 .none by kernel_rfl))⟩, ⟨79, _, _, 296, rfl, G.kin 79 _ rfl, rfl, by kernel_rfl⟩⟩
theorem okI {X : Cx} : ClOk X "__init__" qI (md 1).params (md 1).body (md 1).scope [] ["self", "ws"] ["S", "T", "count", "b", "n", "nt", "ch"] [] where
  kind := by kernel_rfl
  co := by kernel_rfl
  gen := by kernel_rfl
  nodup := by decide +kernel
  nodbg := by decide +kernel
  nocell := by decide +kernel
  pk := by decide +kernel
  fk := fun y hy => by cases hy
  cell := fun y hy => by cases hy
  clo := fun _ x c e => by cases e
  bind := fun doc pm c' ctv l h => by match l, h with | [a, b], _ => rfl
noncomputable abbrev σI (o : Option V) (line : Str) (a : Addr) (s : Sc) (u : Option V) : List (Option V) :=
  [o, some (.val (.str line)), some (.val (.str " ")), some (.val (.str "\t")), some (.own a (intD s.cnt)), some (.val (.int (s.b : Int))), some (.val (.int (s.n : Int))), some (.val (.int (s.nt : Int))), u]
theorem sign_eq (c k : Nat) (s : Str) (h : s = sign k := by rfl) : ((sign c).cps.toList == s.cps.toList) = decide (c = k) := by
  subst h
  show ([c] == [k]) = _
  by_cases q : c = k
  · subst q; simp
  · simp [q]
noncomputable abbrev vsI : List Str := ["self", "ws", "S", "T", "count", "b", "n", "nt", "ch"]
noncomputable abbrev rawO (x dx : Addr) (line : Str) (t : Tok) : V := .ob (.ref x) [x, dx] (Ins x dx [("raw", fun u => u = .str line t)])
theorem sc_bound (l : List Nat) (i : Nat) : ((l.take i).foldl Sc.step sc0).cnt.length + ((l.take i).foldl Sc.step sc0).b ≤ i := by
  have := steps_bound (l.take i) sc0
  rw [List.length_take] at this
  simp only [sc0, List.length_nil] at this ⊢
  (first | lia (splits := 0) | lia (splits := 4) | omega)
noncomputable abbrev XI (X : Cx) (mine D : MS) (L I : Addr) : Cx := (X.clo mine D qI (md 1).scope L 80 79 [] vsI).hold I
noncomputable abbrev loopS : Stmt := (md 1).body.getD 4 (.Pass ⟨0, 0, 0, 0⟩)
noncomputable abbrev loopB : List Stmt := match loopS with | .For _ _ b _ _ => b | _ => []
noncomputable abbrev σJ (o : Option V) (line : Str) (a : Addr) (S : Sc) (c : Nat) : List (Option V) := σI o line a S (some (.val (.str (sign c))))
section
variable {X : Cx} {n : Nat} {mine D : MS} {L I : Addr} {m : MS} {x dx a : Addr} {line : Str} {o : Option V} {S : Sc} {P : Post} {c : Nat}
theorem r1_break {σ : List (Option V)} {p : Pos} (h : P .brk m σ) : Run1 X n m σ (.Break p) P := fun A E s Q R S k =>
  wpAny_Break (k _ _ _ s.heap s.toks _ h (.of (Ext.refl _ _)) S .brk)
theorem loop_sp (n1 : ∀ a, P .next m (σJ o line a ⟨S.cnt, S.b + 1, S.n + 1, S.nt⟩ 32)) : Run (XI X mine D L I) n m (σJ o line a S 32) loopB P := by
  refine' run_cons (r1_ift (tst_cmp ?a1 ?b1 opc_eqs) ?h1 (run_cons (r1_assign (ev_bin ?a2 ev_int opb_add) ?u2 ?k2 (run_cons (r1_assign (ev_bin ?a3 ev_int opb_add) ?u3 ?k3 (run_nil (run_nil ?e3)))))))
  case' a1 => ktr_rel
  case' b1 => ktr_rel
  case' h1 => exact (sign_eq 32 32 " ").trans (by decide)
  case' a2 => ktr_rel
  case' u2 => k_upd
  case' k2 => exact .inl (by kernel_rfl)
  case' a3 => ktr_rel
  case' u3 => k_upd
  case' k3 => exact .inl (by kernel_rfl)
  case' e3 => exact n1 a
theorem loop_no (h32 : c ≠ 32) (h9 : c ≠ 9) (n1 : P .brk m (σJ o line a S c)) : Run (XI X mine D L I) n m (σJ o line a S c) loopB P := by
  refine' run_cons (r1_iff (tst_cmp ?a1 ?b1 opc_eqs) ?h1 (run_cons (r1_iff (tst_cmp ?a4 ?b4 opc_eqs) ?h4 (run_cons (r1_break n1)))))
  case' a1 => ktr_rel
  case' b1 => ktr_rel
  case' h1 => exact (sign_eq c 32 " ").trans (decide_eq_false h32)
  case' a4 => ktr_rel
  case' b4 => ktr_rel
  case' h4 => exact (sign_eq c 9 "\t").trans (decide_eq_false h9)
theorem intD_app (a b : List Int) : intD (a ++ b) = intD a ++ intD b := List.map_append
theorem intD_rep (k : Nat) (i : Int) : intD (List.replicate k i) = List.replicate k (.int i) := List.map_replicate
theorem loop_tab (hS : S.cnt.length + S.b ≤ 1000) (hfn : X.fn = X.fn) (n1 : ∀ m a, P .next m (σJ o line a ⟨(extc S.cnt S.b).set S.b ((extc S.cnt S.b).getD S.b 0 + 1), 0, S.n + 1, S.nt + 1⟩ 9)) : Run (XI X mine D L I) n m (σJ o line a S 9) loopB P := by
  have len := extc_len S.cnt S.b
  have hg : (extc S.cnt S.b)[S.b]? = some ((extc S.cnt S.b).getD S.b 0) := by rw [List.getD_eq_getElem?_getD, List.getElem?_eq_getElem (by (first | lia (splits := 0) | lia (splits := 4) | omega))]; rfl
  refine' run_cons (r1_iff (tst_cmp ?a1 ?b1 opc_eqs) ?h1 (run_cons (r1_ift (tst_cmp ?a4 ?b4 opc_eqs) ?h4 (run_cons (r1_assign (ev_bin ?a2 ev_int opb_add) ?u2 ?k2 (run_cons (r1_assign (ev_bin ?a3 ev_int opb_add) ?u3 ?k3
    (run_seq (R := fun _ σ' => ∃ a, σ' = [o, some (.val (.str line)), some (.val (.str " ")), some (.val (.str "\t")), some (.own a (intD (extc S.cnt S.b))), some (.val (.int (S.b : Int))), some (.val (.int ((S.n : Int) + 1))), some (.val (.int ((S.nt : Int) + 1))), some (.val (.str (sign 9)))]) ?i5 ?n5))))))))
  case' a1 => ktr_rel
  case' b1 => ktr_rel
  case' h1 => exact (sign_eq 9 32 " ").trans (by decide)
  case' a4 => ktr_rel
  case' b4 => ktr_rel
  case' h4 => exact (sign_eq 9 9 "\t").trans (by decide)
  case' a2 => ktr_rel
  case' u2 => k_upd
  case' k2 => exact .inl (by kernel_rfl)
  case' a3 => ktr_rel
  case' u3 => k_upd
  case' k3 => exact .inl (by kernel_rfl)
  case n5 =>
    rintro m _ ⟨a', rfl⟩
    refine' run_cons (r1_setItem (d := .int ((extc S.cnt S.b).getD S.b 0 + 1)) rfl ?l6 (ev_bin (ev_ownItem (d := .int ((extc S.cnt S.b).getD S.b 0)) ?a6 ?b6 ?c6 ?d6 ?x6 ?y6) ev_int opb_add) ?e6 ?f6 ?g6 ?h6 ?u6 (run_cons (r1_assign ev_int ?u7 ?k7 (run_nil (run_nil (run_nil ?e7))))))
    case' l6 => k_mem
    case' a6 => exact lkl_own (by k_mem)
    case' b6 => ktr_rel
    case' c6 => exact Int.natCast_nonneg _
    case' d6 => rw [Int.toNat_natCast, List.getElem?_map, hg]; rfl
    case' x6 => (first | lia (splits := 0) | lia (splits := 4) | omega)
    case' y6 => intro _ _; rfl
    case' e6 => ktr_rel
    case' f6 => exact Int.natCast_nonneg _
    case' g6 => rw [List.length_map]; (first | lia (splits := 0) | lia (splits := 4) | omega)
    case' h6 => (first | lia (splits := 0) | lia (splits := 4) | omega)
    case' u6 => k_upd
    case' u7 => k_upd
    case' k7 => exact .inl (by kernel_rfl)
    case' e7 => rw [Int.toNat_natCast, ← List.map_set]; exact n1 m a'
  case i5 =>
    by_cases hx : S.cnt.length ≤ S.b
    · refine' r1_ift (tst_cmp ?a8 (ev_ownLen ?b8 ?c8 bb_len ?d8 ?e8) opc_ge) ?h8 (run_cons (r1_new (ds := intD (extc S.cnt S.b)) (Ev_castN (evn_addOwn ?a9 (ev_bin (ev_list (evl_cons ev_int evl_nil)) (ev_bin (ev_bin ?b9 (ev_ownLen ?x9 ?y9 bb_len ?z9 ?w9) opb_sub) ev_int opb_add) (opb_mull ?e9 ?f9 ?g9)) ?h9) ?c9) ?k9 fun a9 => ex_up (by k_upd) (run_nil ⟨rfl, a9, rfl⟩)))
      case' a8 => ktr_rel
      case' b8 => exact lkl_own (by k_mem)
      case' c8 => rw [List.length_map]; (first | lia (splits := 0) | lia (splits := 4) | omega)
      case' d8 => decide
      case' e8 => kernel_rfl
      case' h8 => rw [List.length_map]; exact decide_eq_true (by (first | lia (splits := 0) | lia (splits := 4) | omega))
      case' a9 => exact lkl_own (by k_mem)
      case' b9 => ktr_rel
      case' x9 => exact lkl_own (by k_mem)
      case' y9 => rw [List.length_map]; (first | lia (splits := 0) | lia (splits := 4) | omega)
      case' z9 => decide
      case' w9 => kernel_rfl
      case' k9 => exact .inl (by kernel_rfl)
      case' e9 => decide
      case' c9 =>
        rw [List.length_map, extc, if_pos hx, flat_eq, intD_app, intD_rep, show ((S.b : Int) - (S.cnt.length : Int) + 1).toNat = S.b - S.cnt.length + 1 by (first | lia (splits := 0) | lia (splits := 4) | omega)]
      case' h9 => rw [flat_eq, List.length_replicate, List.length_map]; (first | lia (splits := 0) | lia (splits := 4) | omega)
      all_goals (rw [List.length_map]; (first | lia (splits := 0) | lia (splits := 4) | omega))
    · refine' r1_iff (tst_cmp ?a10 (ev_ownLen ?b10 ?c10 bb_len ?d10 ?e10) opc_ge) ?h10 (run_nil ⟨rfl, a, ?i10⟩)
      case' a10 => ktr_rel
      case' b10 => exact lkl_own (by k_mem)
      case' c10 => rw [List.length_map]; (first | lia (splits := 0) | lia (splits := 4) | omega)
      case' d10 => decide
      case' e10 => kernel_rfl
      case' h10 => rw [List.length_map]; exact decide_eq_false (by (first | lia (splits := 0) | lia (splits := 4) | omega))
      case' i10 => rw [extc, if_neg hx]
end
theorem scan_bound (l : List Nat) : (scan l).cnt.length + (scan l).b ≤ l.length := by
  unfold scan
  have := steps_bound (l.takeWhile blank) sc0
  have := (List.takeWhile_sublist (p := blank) (l := l)).length_le
  simp only [sc0, List.length_nil] at *
  (first | lia (splits := 0) | omega)
theorem init_loop {X : Cx} {n : Nat} {mine D : MS} {L : Addr} {m : MS} {x dx a : Addr} {line : Str} {t : Tok} (hl : line.cps.size ≤ 1000) :
    Run1 (X.clo mine D qI (md 1).scope L 80 79 [] vsI) n m (σI (some (rawO x dx line t)) line a sc0 none) loopS (fun fl _ σ' => fl = .next ∧ ∃ a u, (∀ w L F, u ≠ some (.ob w L F)) ∧ σ' = σI (some (rawO x dx line t)) line a (scan line.cps.toList) u) := by
  generalize hs : line.cps.toList = l
  have hll : l.length ≤ 1000 := by rw [← hs]; simpa using hl
  have hsd : (signsD line).length = l.length := by rw [← hs]; exact List.length_map _
  refine' r1_for (ds := signsD line) (fun i _ σ' => (∀ c ∈ l.take i, blank c = true) ∧ ∃ a u, (∀ w L F, u ≠ some (.ob w L F)) ∧ σ' = σI (some (rawO x dx line t)) line a ((l.take i).foldl Sc.step sc0) u) rfl (.inl (by kernel_rfl)) (it_str (ev_field (fs := [("raw", fun u => u = .str line t)]) (p := fun u => u = .str line t) ?l1 (fun _ w => w) (by decide) (List.mem_singleton.mpr rfl) (fun M h v _ _ q => q ▸ .str line t))) ⟨fun c hc => (by cases hc), a, none, fun _ _ _ q => (by cases q), rfl⟩ ?s1 ?n1
  case' l1 => k_mem
  case n1 =>
    rintro m _ ⟨hb, a, u, hu, rfl⟩
    rw [hsd, List.take_length] at *
    exact ⟨rfl, a, u, hu, by rw [scan_all hb]⟩
  case s1 =>
    rintro I i d m _ hd ⟨hb, a, u, hu, rfl⟩
    rw [List.getElem?_map, hs] at hd
    cases hc : l[i]? with
    | none => (first | exact (no_get hc hd).elim | exact (no_get hd hc).elim | (rw [hc] at hd; cases hd))
    | some c =>
    rw [hc] at hd
    have hde : d = .str (sign c) := (Option.some.inj hd).symm
    subst hde
    have hi : i < l.length := (List.getElem?_eq_some_iff.mp hc).1
    have bd := sc_bound l i
    generalize hsc : (l.take i).foldl Sc.step sc0 = S at bd
    have stp : (l.take (i + 1)).foldl Sc.step sc0 = S.step c := by rw [take_succ_of hc, List.foldl_append, hsc]; rfl
    have hb1 : blank c = true → ∀ c' ∈ l.take (i + 1), blank c' = true := fun h c' hc' => by
      rw [take_succ_of hc, List.mem_append, List.mem_singleton] at hc'
      exact hc'.elim (hb c') fun q => q ▸ h
    refine ex_up (s := σI (some (rawO x dx line t)) line a S (some (.val (.str (sign c))))) (by k_upd) ?_
    by_cases h32 : c = 32
    · subst h32
      exact loop_sp fun a => ⟨hb1 rfl, a, some (.val (.str (sign 32))), fun _ _ _ q => (by cases q), by rw [stp, Sc.step, if_pos rfl]⟩
    · by_cases h9 : c = 9
      · subst h9
        exact loop_tab (by (first | lia (splits := 0) | omega)) rfl fun m a => ⟨hb1 rfl, a, some (.val (.str (sign 9))), fun _ _ _ q => (by cases q), by rw [stp, Sc.step, if_neg (by decide)]⟩
      · exact loop_no h32 h9 ⟨rfl, a, some (.val (.str (sign c))), fun _ _ _ q => (by cases q), by rw [← hs, scan_stop (hs ▸ hc) (hs ▸ hb) (by simp [blank, h32, h9]), hs, hsc]⟩
theorem ws_of {M : MS} {h : Heap} {v : Value} {cnt : List Int} {b : Int} (r : Rep M h v (.tup [.tup (intD cnt), .int b])) : ∃ t t2, v = .ref t ∧ ¬ M t ∧ ¬ M t2 ∧ (∃ k u, h.get? t = some (tob #[.ref t2, .int b u] k)) ∧ ∃ (k : Nat) (xs : List (Int × Tok)), h.get? t2 = some (tob (xs.map fun p => Value.int p.1 p.2).toArray k) ∧ xs.map (·.1) = cnt := by
  obtain ⟨t, k, ⟨vs⟩, rfl, e, m, r⟩ := r.iTup
  obtain ⟨v1, v2, rfl, r1, r2⟩ := rep2 r
  obtain ⟨u, rfl⟩ := r2.iInt
  obtain ⟨t2, k2, ⟨ws⟩, rfl, e2, m2, q⟩ := r1.iTup
  obtain ⟨xs, rfl, hx⟩ := ints_of q
  exact ⟨t, t2, rfl, m, m2, ⟨k, u, e⟩, k2, xs, e2, hx⟩
theorem ws_make {X : Cx} {mine : MS} {σ : List (Option V)} {n : Nat} {A : Around} {E : Value → Shared → Prop} {s : Shared} {Q : Value → Shared → Prop} {line : Str} {v : Value} (S : St X mine σ s.heap) (Ro : Room A (n + 4)) (rv : Rep (X.MM mine) s.heap v (.str line)) (hl : line.cps.size ≤ 1000)
    (k : ∀ x dx t t2 h' tk, Ext X.W.tabs s.heap h' → St X mine σ h' → (∀ a ∈ [x, dx, t, t2], ¬ X.MM mine a) → WsF x dx t t2 (scan line.cps.toList).n (scan line.cps.toList).nt (scan line.cps.toList).b (scan line.cps.toList).cnt h' → Q (.ref x) { s with heap := h', toks := tk }) :
    wpAny X.W.M A (call (.ref 125) [v]) Q E s := by
  obtain ⟨h, g, dr, tk, os⟩ := s
  obtain ⟨tl, rfl⟩ := rv.iStr
  have S₀ : St X mine σ h := S
  have e1 : h.get? h.objs.size = none := alloc_none h
  have sub2 : Sub h ((h.push emptyDict).push (instObj 125 h.objs.size)) := fun b o e => Heap.get?_push_of_some _ (Heap.get?_push_of_some _ e)
  have ex : ((h.push emptyDict).push (instObj 125 h.objs.size)).get? (h.objs.size + 1) = some (instObj 125 h.objs.size) := by heap_get
  have ed : ((h.push emptyDict).push (instObj 125 h.objs.size)).get? h.objs.size = some (dictOf [] 0) := by heap_get
  have e2 : h.get? (h.objs.size + 1) = none := by
    cases q : h.get? (h.objs.size + 1) with
    | none => rfl
    | some o => exact absurd (Heap.lt_size q) (Nat.not_lt.mpr (Nat.le_succ _))
  generalize hdx : h.objs.size = dx at e1 e2 ex ed
  refine wpAny_call (make_core (makes_of S₀.gsAt.kin k_makes) (looks_findIn S₀.gsAt.kin k_init) (fun self => bind_fn S₀.gsAt.kin self k_fn80) (.inl rfl) ?_)
  rw [hdx]
  rw [hdx] at sub2
  generalize ((h.push emptyDict).push (instObj 125 dx)) = h2 at sub2 ex ed
  have S2 : St X mine σ h2 := S₀.sub sub2
  have nmx : ¬ X.MM mine (dx + 1) := S₀.live.none e2
  have nmd : ¬ X.MM mine dx := S₀.live.none e1
  have ins0 : Ins (dx + 1) dx [] h2 := ⟨ex, [], 0, ed, Nat.le_refl _, fun f hf => (by cases hf), fun y _ => rfl⟩
  have iv : ∀ {i : Int} (M : MS) (h : Heap) (v : Value), Rep M h v (.int i) → handedIn v = true := fun M h v r => by cases r; rfl
  have ob0 : ∀ {u : Option V} {l : List V} , (∀ w L F, u ≠ some (.ob w L F)) → (∀ v ∈ l, ∀ w L F, v ≠ .ob w L F) → ∀ v ∈ l.map some ++ [u], ∀ w L F, v ≠ some (.ob w L F) := fun hu hl v hv w L F => by
    rcases List.mem_append.mp hv with hv | hv
    · obtain ⟨v', hv', rfl⟩ := List.mem_map.mp hv
      exact fun q => hl v' hv' w L F (Option.some.inj q)
    · rw [List.mem_singleton] at hv; subst hv; exact hu w L F
  refine clo_enter (D := fun _ => False) (vs := vsI) (frees := []) (us := [.ob (.ref (dx + 1)) [dx + 1, dx] (Ins (dx + 1) dx []), .val (.str line)]) (σ₀ := some (.ob (.ref (dx + 1)) [dx + 1, dx] (Ins (dx + 1) dx [])) :: [some (.val (.str line)), none, none, none, none, none, none, none])
    (s := ⟨h2, g, dr, tk, os⟩) S2 (ws_room Ro) (fxI S2.gsAt) okI (.cons ⟨rfl, ins0.rep nmx nmd⟩ (.cons (.str line tl) .nil)) rfl ⟨fun a ds => by simp, fun a ds => by simp⟩ (fun _ z => z.elim) .nil (fun i j a ds es e => by simp at e) rfl rfl fun L h₁ tk₁ A' E' fL sub R' S' => ?_
  have h0 : X.h₀.get? dx = none := S₀.fresh0 e1
  have mv0 : Mv (X.clo mine (fun _ => False) qI (md 1).scope L 80 79 [] vsI) (fun _ => False) h (Cat (fun b => b = L ∨ False) dx) h₁ := ⟨fun b o e _ => .inl (sub b o (sub2 b o e)), fun b z => by
    rcases z with (rfl | z) | rfl
    · cases q : h.get? b with
      | none => exact .inr rfl
      | some o => rw [sub2 b o q] at fL; cases fL
    · exact z.elim
    · exact .inr e1⟩
  refine' step_set (X := X.clo mine (fun _ => False) qI (md 1).scope L 80 79 [] vsI) (d := .str line) (y := "raw") R' S' rfl ?a1 h0 (ev_name ?l1) (fun M h v r => by cases r; rfl) ?m1 ?n1 ?z1 (fun v1 h3 t3 mv3 _ r1 S3 => ?_) ?s1
  case' a1 => simp
  case' l1 => k_mem
  case' m1 => decide
  case' n1 => simp
  case' z1 => exact Nat.le_of_ble_eq_true rfl
  case' s1 => rfl
  obtain ⟨t1, rfl⟩ := r1.iStr
  refine' step_run (X := X.clo mine (fun _ => False) qI (md 1).scope L 80 79 [] vsI) (R := fun m σ' => σ' = [some (rawO (dx + 1) dx line t1), some (.val (.str line)), some (.val (.str " ")), some (.val (.str "\t")), none, none, none, none, none]) R' S3 (r1_tupS2 ?k1 ?k2 (eul_val (ev_cls (fun P => k_S) ?k3) (eul_val (ev_cls (fun P => k_T) ?k4) (eul_nil ⟨_, _, rfl, ex_ups ?u1 ⟨rfl, rfl⟩⟩))) ?w1) ?n2
  case' k1 => exact .inl (by kernel_rfl)
  case' k2 => exact .inl (by kernel_rfl)
  case' k3 => kernel_rfl
  case' k4 => kernel_rfl
  case' u1 => k_upd
  case' w1 => rfl
  rintro m4 _ h4 t4 rfl mv4 S4
  refine' step_run (X := X.clo mine (fun _ => False) qI (md 1).scope L 80 79 [] vsI) (R := fun m σ' => ∃ a, σ' = [some (rawO (dx + 1) dx line t1), some (.val (.str line)), some (.val (.str " ")), some (.val (.str "\t")), some (.own a []), none, none, none, none]) R' S4 (r1_new (evn_list evl_nil) ?k5 fun a => ex_up ?u5 ⟨rfl, a, rfl⟩) ?n5
  case' k5 => exact .inl (by kernel_rfl)
  case' u5 => k_upd
  rintro m5 _ h5 t5 ⟨a, rfl⟩ mv5 S5
  refine' step_run (X := X.clo mine (fun _ => False) qI (md 1).scope L 80 79 [] vsI) (R := fun m σ' => σ' = [some (rawO (dx + 1) dx line t1), some (.val (.str line)), some (.val (.str " ")), some (.val (.str "\t")), some (.own a []), some (.val (.int 0)), some (.val (.int 0)), some (.val (.int 0)), none]) R' S5 (r1_three ev_int ?u6 ?k6 ⟨rfl, rfl⟩) ?n6
  case' u6 => k_upd
  case' k6 => exact fun v hv => .inl (by simp only [List.mem_cons, List.not_mem_nil, or_false] at hv; rcases hv with rfl | rfl | rfl <;> kernel_rfl)
  rintro m6 _ h6 t6 rfl mv6 S6
  refine' step_run (X := X.clo mine (fun _ => False) qI (md 1).scope L 80 79 [] vsI) R' S6 (init_loop hl) ?n7
  rintro m7 _ h7 t7 ⟨a', u, hu, rfl⟩ mv7 S7
  have hT : (scan line.cps.toList).cnt.length ≤ 1000 := by
    have := scan_bound line.cps.toList
    rw [Array.length_toList] at this
    (first | lia (splits := 0) | omega)
  generalize scan line.cps.toList = T at S7 k hT
  have S8 := S7.freeze rfl (i := 4) (a := a') (ds := intD T.cnt) rfl
  replace S8 : St (X.clo mine (fun _ => False) qI (md 1).scope L 80 79 [] vsI) (Less m7 a') (some (rawO (dx + 1) dx line t1) :: [some (.val (.str line)), some (.val (.str " ")), some (.val (.str "\t")), some (.val (.list (intD T.cnt))), some (.val (.int (T.b : Int))), some (.val (.int (T.n : Int))), some (.val (.int (T.nt : Int))), u]) h7 := S8
  have hτ : ∀ v ∈ [some (.val (.str line)), some (.val (.str " ")), some (.val (.str "\t")), some (.val (.list (intD T.cnt))), some (.val (.int (T.b : Int))), some (.val (.int (T.n : Int))), some (.val (.int (T.nt : Int))), u], ∀ w L F, v ≠ some (.ob w L F) := ob0 (u := u) (l := [.val (.str line), .val (.str " "), .val (.str "\t"), .val (.list (intD T.cnt)), .val (.int (T.b : Int)), .val (.int (T.n : Int)), .val (.int (T.nt : Int))]) hu (by simp)
  refine' step_set (X := X.clo mine (fun _ => False) qI (md 1).scope L 80 79 [] vsI) (d := .int (T.n : Int)) (y := "n") R' S8 rfl hτ h0 (ev_name ?l9) iv ?m9 ?n9 ?z9 (fun v9 h9 t9 mv9 _ r9 S9 => ?_) ?s9
  case' l9 => k_mem
  case' m9 => decide
  case' n9 => simp only [List.map_cons, List.map_nil]; decide
  case' z9 => exact Nat.le_of_ble_eq_true rfl
  case' s9 => rfl
  refine' step_set (X := X.clo mine (fun _ => False) qI (md 1).scope L 80 79 [] vsI) (d := .int (T.nt : Int)) (y := "nt") R' S9 rfl hτ h0 (ev_name ?l10) iv ?m10 ?n10 ?z10 (fun v10 h10 t10 mv10 _ r10 S10 => ?_) ?s10
  case' l10 => k_mem
  case' m10 => decide
  case' n10 => simp only [List.map_cons, List.map_nil]; decide
  case' z10 => exact Nat.le_of_ble_eq_true rfl
  case' s10 => rfl
  refine' step_set (X := X.clo mine (fun _ => False) qI (md 1).scope L 80 79 [] vsI) (d := .tup [.tup (intD T.cnt), .int (T.b : Int)]) (y := "norm") R' S10 rfl hτ h0 (ev_tuple (evl_cons (ev_typ (evl_cons (ev_name ?l11) evl_nil) (opf_tuple ?o11) bb_tuple ?p11 ?q11) (evl_cons (ev_name ?y11) evl_nil)) (Nat.le_of_ble_eq_true rfl)) (fun M h v r => by cases r; rfl) ?m11 ?n11 ?z11 (fun v11 h11 t11 mv11 _ r11 S11 => ?_) ?s11
  case' l11 => k_mem
  case' y11 => k_mem
  case' m11 => decide
  case' n11 => simp only [List.map_cons, List.map_nil]; decide
  case' z11 => exact Nat.le_of_ble_eq_true rfl
  case' s11 => rfl
  case' o11 => rw [List.length_map]; (first | lia (splits := 0) | omega)
  case' p11 => decide
  case' q11 => kernel_rfl
  refine' step_set (X := X.clo mine (fun _ => False) qI (md 1).scope L 80 79 [] vsI) (y := "is_simple") R' S11 rfl hτ h0 (ev_cmp (ev_blt (evl_cons (ev_name ?l12) evl_nil) (opf_len ?o12) bb_len ?p12 ?q12) ev_int opc_le) (fun M h v r => by cases r; rfl) ?m12 ?n12 ?z12 (fun v12 h12 t12 mv12 off12 r12 S12 => ?_) ?s12
  case' l12 => k_mem
  case' m12 => decide
  case' n12 => simp only [List.map_cons, List.map_nil]; decide
  case' z12 => exact Nat.le_of_ble_eq_true rfl
  case' s12 => rfl
  case' o12 => rw [List.length_map]; (first | lia (splits := 0) | omega)
  case' p12 => decide
  case' q12 => kernel_rfl
  obtain ⟨t, t2, rfl, nt, nt2, q1, q2⟩ := ws_of (off12 _ _ r11)
  obtain ⟨_, _, _, _, _, ob⟩ := S12.var 0 _ rfl
  have mv := (((((((((((mv0.tr mv3).tr mv4.cat).tr mv5.cat).tr mv6.cat).tr mv7.cat).tr (Mv.cat (m := m7) (m' := Less m7 a') (h := h7) (h' := h7) ⟨fun b o e nm => .inl e, fun b z => .inl z.1⟩)).tr mv9).tr mv10).tr mv11).tr mv12))
  refine wpAny_execs_nil ⟨rfl, ?_⟩
  obtain ⟨t9, rfl⟩ := r9.iInt
  obtain ⟨t10, rfl⟩ := r10.iInt
  refine k (dx + 1) dx t t2 h12 t12 (fun b o e => mv.keep b o e id) (S.step (fun b o e => mv.keep b o e id) (S12.tb.anti fun b z => .inl ⟨z, id⟩)) ?_ ⟨ob.1.imp rfl ?_, q1, q2⟩
  · intro a ha
    simp only [List.mem_cons, List.not_mem_nil, or_false] at ha
    rcases ha with rfl | rfl | rfl | rfl
    · exact nmx
    · exact nmd
    · exact fun z => nt (.inl ⟨z, id⟩)
    · exact fun z => nt2 (.inl ⟨z, id⟩)
  · intro f hf
    simp only [List.mem_cons, List.not_mem_nil, or_false] at hf
    rcases hf with rfl | rfl | rfl | rfl | rfl
    · exact ⟨_, .head _, fun _ _ => trivial⟩
    · exact ⟨_, .tail _ (.head _), fun _ q => q⟩
    · exact ⟨_, .tail _ (.tail _ (.head _)), fun _ q => ⟨t10, q⟩⟩
    · exact ⟨_, .tail _ (.tail _ (.tail _ (.head _))), fun _ q => ⟨t9, q⟩⟩
    · exact ⟨_, .tail _ (.tail _ (.tail _ (.tail _ (.head _)))), fun _ _ => trivial⟩
section
variable {X : Cx} {mine : MS} {σ : List (Option V)} {n : Nat}
theorem keep125 {P : Params} : keepIn (KK P) (.ref 125) = true := by kernel_rfl
theorem keep94 {P : Params} : keepIn (KK P) (.ref 94) = true := by kernel_rfl
theorem r1_ws {x : Str} {px p1 p2 p3 : Pos} {e : PySem.Expr} {line : Str} {P : Post} (a : Ev X mine σ (n + 4) e (.str line)) (hk : X.env.kindOf "Whitespace" = some .globalImplicit) (hx : KOk X x) (hl : line.cps.size ≤ 1000)
    (hP : ∀ ix dx t t2, ∃ σ', Up X.vs σ x (wsV ix dx t t2 (scan line.cps.toList).n (scan line.cps.toList).nt (scan line.cps.toList).b (scan line.cps.toList).cnt) σ' ∧ P .next mine σ')
    (he : starEach [e] X.env = (false, eval e X.env) :: starEach [] X.env := by rfl)
    (hc : eval (.Call (.Name "Whitespace" p1) [e] [] p2) X.env = (do callWith p2 (← eval (.Name "Whitespace" p1) X.env) [] (backTo p2 (starEach [e] X.env)) (backToKw p2 (keywordEach [] X.env))) := by rfl)
    (hs : swapsWith (.Call (.Name "Whitespace" p1) [e] [] p2) (some (.Name x px)) p3.line X.env = pure false := by rfl) : Run1 X (n + 4) mine σ (.Assign [.Name x px] (.Call (.Name "Whitespace" p1) [e] [] p2) p3) P := fun A E s Q R S k => by
  refine wpAny_Assign_Name (Call_ (load_glob S S.gsAt.ws hk (by decide +kernel) ?_) hc) hs
  refine callWith_K S.gsAt.kin keep125 (evl_cons a evl_nil he A E s _ _ R S fun vs h₁ t₁ k₁ S₁ r => ⟨S₁.gsAt.kin, ?_⟩) he rfl
  obtain ⟨v, rfl, rv⟩ := rep1 r
  refine ws_make (s := { s with heap := h₁, toks := t₁ }) S₁ R rv hl fun ix dx t t2 h₂ t₂ k₂ S₂ nm w => ?_
  obtain ⟨σ', up, hp⟩ := hP ix dx t t2
  obtain ⟨i, hi, rfl⟩ := up.index
  exact store_var S₂ hi hx (u := wsV ix dx t t2 _ _ _ _) ⟨rfl, w.rep nm⟩ (fun a ds q => by cases q) (fun _ _ e => by cases e) fun h₃ t₃ mv S₃ => k _ _ _ h₃ t₃ _ hp (((Mv.of k₁).tr (.of k₂)).tr mv) S₃ .next
theorem ev_level {pl : Sem Bool} {x : Str} {px ap cp : Pos} {e : PySem.Expr} {ix dx t t2 : Addr} {m nt b : Int} {cnt : List Int} {size : Nat} (hs : 2 ≤ size) (hs4 : size ≤ 4) (hc : cnt.length ≤ 1000) (lk : Lk X.vs σ x (wsV ix dx t t2 m nt b cnt)) (a : Ev X mine σ (n + 3) e (.int (size : Int)))
    (hee : starEach [e] X.env = (false, eval e X.env) :: starEach [] X.env := by rfl)
    (he : eval (.Call (.Attribute (.Name x px) ("indent_level" : Str) ap) [e] [] cp) X.env = (do
      let ov ← eval (.Name x px) X.env
      standAt ap.atName
      let (f, first) ← holding [ov] (getMethod ov ("indent_level" : Str) pl)
      callWith cp f first (backTo cp (starEach [e] X.env)) []) := by rfl) :
    Ev X mine σ (n + 3) (.Call (.Attribute (.Name x px) "indent_level" ap) [e] [] cp) (.int (lvl cnt size b nt)) := fun A E s Q R S h => by
  obtain ⟨i, val, hx, hσ, va, rfl, r⟩ := lk.at S
  refine MethodCall_ (wpAny_Name (load_var S.kind va ?_) (S.ok.nodbg x (List.mem_of_getElem? hx))) he
  obtain ⟨es, k, _, I, _, _, ho⟩ := r.1.1.at
  refine method_fn S.gsAt.kin I (plainGet_of k_get).1 (plainGet_of k_get).2 k_level k_fn94 ?_ ?_
  · show (lookIn _ (dictOf es k)).map _ = _
    rw [lookIn_dict, ho _ (by simp only [List.map_cons, List.map_nil]; decide)]; rfl
  · refine callWith_K S.gsAt.kin keep94 (evl_cons a evl_nil hee A E s _ _ R S fun vs h₁ t₁ k₁ S₁ rvs => ⟨S₁.gsAt.kin, ?_⟩) hee rfl
    obtain ⟨v, rfl, rv⟩ := rep1 rvs
    obtain ⟨_, _, _, _, _, rfl, r'⟩ := lk.at S₁
    exact f10l hs hs4 hc A E { s with heap := h₁, toks := t₁ } Q [.ref ix, v] (R.less (by (first | lia (splits := 0) | omega))) S₁ (.cons ⟨rfl, r'⟩ (.cons rv .nil)) fun v h₂ t₂ k₂ S₂ r₂ => h v h₂ t₂ (k₁.trans k₂) S₂ r₂
end
noncomputable abbrev scanS (x : Str) : Sc := scan x.cps.toList
noncomputable def lineLvl (size : Nat) (x : Str) : Int := lvl (scanS x).cnt size (scanS x).b (scanS x).nt
noncomputable def stpAt (margin : Int) (af rs : Nat → Int) (k : Nat) (x : Str) : Stp := (af (k + 1) - af k, if rs k = margin then (pieceOf x (scanS x).n).1 else 0)
theorem range_snoc {α : Type} (f : Nat → α) (i : Nat) : (List.range (i + 1)).map f = (List.range i).map f ++ [f i] := by rw [List.range_succ, List.map_append]; rfl
theorem f78 {W : Wd} {lines : List Str} {size : Nat} {margin : Int} {af rs : Nat → Int} {m : Nat} (hs : 2 ≤ size) (hs4 : size ≤ 4) (hl : lines.length ≤ 1000) (hx : ∀ x ∈ lines, x.cps.size ≤ 1000 ∧ x.length ≤ 1000 ∧ ∀ p k, (cut x p k).length ≤ 1000) (h0 : af 0 = 0)
    (h8 : ∀ k x, lines[k]? = some x → Fn W (fd 8).name [.int (lineLvl size x), .int (size : Int)] (.tup [.int (af (k + 1)), .int (rs k)]) (m + 5)) :
    Fn W (fd 78).name [.list (strD lines), .int (size : Int), .int margin] (stepsD ((List.range lines.length).map fun k => stpAt margin af rs k (lines.getD k ""))) (m + 6) := by
  refine fn_of_run (vs := ["lines", "size", "margin", "steps", "depth", "line", "lead", "after", "rest"]) (wr := []) (σ := [some (.val (.list (strD lines))), some (.val (.int (size : Int))), some (.val (.int margin)), none, none, none, none, none, none]) ok78 (by decide) rfl (by decide) rfl fun env h₀ M₀ mine F => ?_
  refine' run_cons (r1_tupS2 ?k1 ?k2 (eul_new (evn_list evl_nil) fun a => eul_val ev_int (eul_nil ⟨_, _, rfl, ex_ups ?u1 ?n1⟩)) ?w1)
  case' k1 => ktr_room
  case' k2 => ktr_room
  case' u1 => k_upd
  case' w1 => exact (swapped_scope (env' := envAt (fd 78).scope) F.sc).trans (by kernel_rfl)
  refine' run_cons (r1_for (ds := strD lines) (fun i _ σ' => ∃ u v w z, σ' = [some (.val (.list (strD lines))), some (.val (.int (size : Int))), some (.val (.int margin)), some (.own a (((List.range i).map fun k => stpAt margin af rs k (lines.getD k "")).map stepD)), some (.val (.int (af i))), u, v, w, z]) rfl ?k3 (it_list ?a3) ⟨none, none, none, none, by rw [h0]; rfl⟩ ?s3 ?n3)
  case' k3 => ktr_room
  case' a3 => ktr_rel
  case n3 =>
    rintro m _ ⟨u, v, w, z, rfl⟩
    rw [List.length_map]
    refine run_freeze rfl (x := "steps") (by k_mem) (by k_upd) ?_
    exact run_cons (r1_return (by ktr_rel) rfl)
  case s3 =>
    rintro I i d m' _ hd ⟨u, v, w, z, rfl⟩
    rw [List.getElem?_map] at hd
    cases hc : lines[i]? with
    | none => (first | exact (no_get hc hd).elim | exact (no_get hd hc).elim | (rw [hc] at hd; cases hd))
    | some x =>
    rw [hc] at hd
    have hde : d = .str x := (Option.some.inj hd).symm
    subst hde
    have hi : i < lines.length := (List.getElem?_eq_some_iff.mp hc).1
    obtain ⟨x1, x2, x3⟩ := hx x (List.mem_of_getElem? hc)
    have hg : lines.getD i "" = x := by rw [List.getD_eq_getElem?_getD, hc]; rfl
    have h8' := h8 i x hc
    have hT : (scanS x).cnt.length ≤ 1000 := by
      have := scan_bound x.cps.toList
      rw [Array.length_toList] at this
      show (scan _).cnt.length ≤ _
      (first | lia (splits := 0) | omega)
    have h69 := f69 (W := W) (x := x) (p := ((scanS x).n : Int)) x2 (x3 _)
    generalize hst : stpAt margin af rs i x = st
    have hst1 : af (i + 1) - af i = st.1 := by rw [← hst]; rfl
    have hst2 : (if rs i = margin then (pieceOf x (scanS x).n).1 else 0) = st.2 := by rw [← hst]; rfl
    rw [range_snoc, hg, hst, List.map_append, List.map_cons, List.map_nil]
    refine ex_up (by k_upd) ?_
    refine' run_cons (r1_ws (n := m + 1) ?a4 ?k4 ?l4 x1 fun ix dx t t2 => ex_up ?u4 (run_cons (r1_unpT2 (d₁ := .int (af (i + 1))) (d₂ := .int (rs i)) ?k5 ?l5 (ev_call (i := 8) h8' (evl_cons (ev_level (n := m + 2) hs hs4 hT ?m5 ?a5) (evl_cons ?b5 evl_nil)) (by decide) rfl (by (first | lia (splits := 0) | omega)) ?o5) ?u5
      (run_cons (r1_append (d := stepD st) rfl ?l6 (Ev.cast (ev_list (evl_cons (ev_bin ?a6 ?b6 opb_sub) (evl_cons (ev_if (d := .int st.2) (tst_cmp ?c6 ?d6 opc_eq) ?e6 ?f6) evl_nil)) (Nat.le_of_ble_eq_true rfl)) ?g6) ?u6 ?z6 (run_cons (r1_assign ?a7 ?u7 ?k7 (run_nil ⟨_, _, _, _, rfl⟩))))))))
    case' a4 => ktr_rel
    case' k4 => ktr_room
    case' l4 => ktr_room
    case' u4 => k_upd
    case' k5 => ktr_room
    case' l5 => ktr_room
    case' m5 => k_mem
    case' a5 => ktr_rel
    case' b5 => ktr_rel
    case' o5 => ktr_room
    case' u5 => k_upd
    case' l6 => k_mem
    case' a6 => ktr_rel
    case' b6 => ktr_rel
    case' c6 => ktr_rel
    case' d6 => ktr_rel
    case' e6 =>
      intro q
      have q' : rs i = margin := eq_of_beq q
      rw [if_pos q'] at hst2
      refine' ev_item (d := .int st.2) (ev_call (i := 69) h69 (evl_cons ?a8 (evl_cons (ev_fn ?l8) evl_nil)) (by decide) rfl (by (first | lia (splits := 0) | omega)) ?o8) ev_int (by decide) ?h8 (by decide) ?i8
      case' a8 => ktr_rel
      case' l8 => k_mem
      case' o8 => ktr_room
      case' h8 => rw [← hst2]; rfl
      case' i8 => intro _ _; rfl
    case' f6 =>
      intro q
      have q' : rs i ≠ margin := by simpa using q
      rw [if_neg q'] at hst2
      rw [← hst2]
      ktr_rel
    case' g6 => rw [hst1]
    case' u6 => k_upd
    case' z6 => rw [List.length_map, List.length_map, List.length_range]; (first | lia (splits := 0) | omega)
    case' a7 => ktr_rel
    case' u7 => k_upd
    case' k7 => ktr_room
noncomputable def tab : List Str := (["(", ")", "[", "]", ":", ",", ";", "+", "-", "*", "/", "|", "&", "<", ">", "=", ".", "%", "{", "}", "==", "!=", "<=", ">=", "~", "^", "<<", ">>", "**", "+=", "-=", "*=", "/=", "%=", "&=", "|=", "^=", "<<=", ">>=", "**=", "//", "//=", "@", "@=", "->", "...", ":=", "!"] : List String).map Str.ofString
noncomputable def base8 : List Int := [313, 53, 213, 280, 112, 341, 345, 15]
noncomputable def dealAt (sc : List Int) (m : Nat) : Int := (pickL sc (some (m : Int)) none (some 8)).sum + base8.getD m 0
noncomputable def deal8 (sc : List Int) : List Int := (List.range 8).map (dealAt sc)
theorem deal8_get {sc : List Int} {i : Nat} (h : i < 8) : (deal8 sc)[i]? = some (dealAt sc i) := by
  unfold deal8
  rw [List.getElem?_map, List.getElem?_range h]; rfl
theorem stepsD_lay (due : List Stp) : SeqAt.shaped (stepsD due).py = true := by
  have : ∀ l : List Stp, PyData.canLayAll0 (pyL (l.map stepD)) = true ∧ PyData.depthAll (pyL (l.map stepD)) ≤ 1 := by
    intro l
    induction l with
    | nil => exact ⟨rfl, by decide⟩
    | cons a l ih => simp [stepD, pyL, D.py, PyData.canLayAll0, PyData.canLay0, PyData.depthAll, PyData.depth, ih.1, ih.2] at ih ⊢ <;> (first | lia (splits := 0) | omega)
  obtain ⟨a, b⟩ := this due
  simp [SeqAt.shaped, D.py, PyData.canLay0, PyData.depth, a]
  (first | lia (splits := 0) | omega)
theorem stepsD_eqv (due : List Stp) : PyData.eqv (stepsD due).py (stepsD due).py = true := by
  have : ∀ l : List Stp, PyData.eqvAll (pyL (l.map stepD)) (pyL (l.map stepD)) = true := by
    intro l
    induction l with
    | nil => rfl
    | cons a l ih => simp [stepD, pyL, D.py, PyData.eqvAll, PyData.eqv] at ih ⊢; exact ih
  simp only [D.py, PyData.eqv]
  exact this due
theorem Tr.eqv_self : ∀ t : Tr, PyData.eqv t.D.py t.D.py = true
  | .x => by simp [Tr.D, D.py, pyL, PyData.eqv, PyData.eqvAll]
  | .un o t => by
    have := t.eqv_self
    simp [Tr.D, D.py, pyL, PyData.eqv, PyData.eqvAll, this]
  | .bi o l r => by
    have := l.eqv_self
    have := r.eqv_self
    simp [Tr.D, D.py, pyL, PyData.eqv, PyData.eqvAll, *]
noncomputable abbrev vs81 : List Str := ["script", "base", "sums", "span", "edge", "table", "drawn", "due", "told", "high", "bits"]
theorem f81t {W : Wd} {sc bits : List Int} {s7 span edge mx : Int} {k : Nat} {kk : D} {t : Tr} {due : List Stp} {lines : List Str} {x : Str} {m : Nat} (hsc : sc.length ≤ 1000)
    (h7 : dealAt sc 7 = s7) (hspan : 2 + s7.fmod 3 = span) (hedge : (s7.fdiv 3).fmod span = edge) (hk : 4 + (s7.fdiv 12).fmod 4 = (k : Int)) (hto : t.ops ≤ 20) (hdl : due.length ≤ 1000) (hbl : bits.length ≤ 1000)
    (c67 : Fn W (fd 67).name [.list (intD (deal8 sc)), .int 0, .int (k : Int)] (.list [t.D, kk]) m)
    (c73 : Fn W (fd 73).name [t.D] (way t).D m) (c72 : Fn W (fd 72).name [(way t).D, .int (-1)] (stepsD due) m)
    (c77 : Fn W (fd 77).name [stepsD due, .list (intD (deal8 sc)), .int span, .int edge, .list (strD tab)] (.list (strD lines)) m)
    (c78 : Fn W (fd 78).name [.list (strD lines), .int span, .int edge] (stepsD due) m)
    (c68 : Fn W (fd 68).name [t.D, .list (strD tab)] (.str x) m) (c70 : Fn W (fd 70).name [.str x] t.D m)
    (c75 : Fn W (fd 75).name [stepsD due] t.D m) (c79 : Fn W (fd 79).name [stepsD due] (.bool true) m)
    (c80 : ∀ a ∈ [0, 255, 256, (dealAt sc 0).fmod 65536], Fn W (fd 80).name [.int a] (.bool true) m)
    (c74 : Fn W (fd 74).name [stepsD due] (.list (intD (hts due))) m) (hm : mx ∈ hts due) (hx : ∀ y ∈ hts due, y ≤ mx)
    (c5 : I2D W (mx + 1) 1 bits m) (c6 : D2I W bits 1 (mx + 1) m) (c76 : Fn W (fd 76).name [t.D] (.int bits.length) m) {env : Env} {h₀ : Heap} {M₀ mine : MS} (F : Frm env W 81) :
    Run ⟨W, env, vs81, h₀, M₀, ["script", "base"], true⟩ (m + 8) mine [some (.val (.list (intD sc))), some (.val (.list (intD base8))), some (.val (.list (intD (deal8 sc)))), some (.val (.int span)), some (.val (.int edge)), some (.val (.list (strD tab))), some (.val t.D), none, none, none, none] ((fd 81).body.drop 6) (fun fl _ _ => fl = .ret (.bool true)) := by
  have s1 := stepsD_lay due
  have s2 := stepsD_eqv due
  have s3 := t.eqv_self
  have s4 : SeqAt.shaped t.D.py = true := Tr.shaped (by (first | lia (splits := 0) | omega))
  refine' run_cons (r1_assign (d := stepsD due) (ev_call (i := 72) c72 (evl_cons (ev_call (i := 73) c73 ?a1 (by decide) rfl (by (first | lia (splits := 0) | omega)) ?b1) (evl_cons ?c1 evl_nil)) (by decide) rfl (by (first | lia (splits := 0) | omega)) ?d1) ?u1 ?k1
    (run_cons (r1_assign (d := stepsD due) (ev_call (i := 78) c78 (evl_cons (ev_call (i := 77) c77 ?a2 (by decide) rfl (by (first | lia (splits := 0) | omega)) ?b2) ?c2) (by decide) rfl (by (first | lia (splits := 0) | omega)) ?d2) ?u2 ?k2
    (run_cons (r1_iff (c := false) (Tst.cast (tst_or (tst_cmp (ev_call (i := 70) c70 (evl_cons (ev_call (i := 68) c68 ?a3 (by decide) rfl (by (first | lia (splits := 0) | omega)) ?b3) evl_nil) (by decide) rfl (by (first | lia (splits := 0) | omega)) ?c3) ?d3 (opc_nel (n := m) s4 s4 s3)) fun _ => tst_or (tst_cmp ?e3 ?f3 (opc_nel (n := m) s1 s1 s2)) fun _ =>
      tst_or (tst_cmp (ev_call (i := 75) c75 ?g3 (by decide) rfl (by (first | lia (splits := 0) | omega)) ?h3) ?i3 (opc_nel (n := m) s4 s4 s3)) fun _ => tst_or (tst_not (tst_val (d := .bool true) (ev_call (i := 79) c79 ?j3 (by decide) rfl (by (first | lia (splits := 0) | omega)) ?k3) ?l3)) fun _ => tst_or_nil) ?m3) rfl (run_nil ?n3))))))
  case' a1 => ktr_rel
  case' b1 => ktr_room
  case' c1 => ktr_rel
  case' d1 => ktr_room
  case' u1 => k_upd
  case' k1 => ktr_room
  case' a2 => ktr_rel
  case' b2 => ktr_room
  case' c2 => ktr_rel
  case' d2 => ktr_room
  case' u2 => k_upd
  case' k2 => ktr_room
  case' a3 => ktr_rel
  case' b3 => ktr_room
  case' c3 => ktr_room
  case' d3 => ktr_rel
  case' e3 => ktr_rel
  case' f3 => ktr_rel
  case' g3 => ktr_rel
  case' h3 => ktr_room
  case' i3 => ktr_rel
  case' j3 => ktr_rel
  case' k3 => ktr_room
  case' l3 => trivial
  case' m3 => rfl
  have g0 : (intD (deal8 sc))[(0 : Int).toNat]? = some (.int (dealAt sc 0)) := by
    rw [show (0 : Int).toNat = 0 from rfl, List.getElem?_map, deal8_get (by decide)]; rfl
  refine' run_cons (r1_iff (c := false) (tst_cmp ev_bool (ev_map (ys := []) (l := [0, 255, 256, (dealAt sc 0).fmod 65536]) (f := fun i : Int => .int i) (g := fun _ => .bool true) (it_list (ev_list (evl_cons ev_int (evl_cons ev_int (evl_cons ev_int (evl_cons (ev_bin (ev_item (d := .int (dealAt sc 0)) ?a4 ev_int (by decide) g0 (by decide) ?b4) ev_int (opb_mod (by decide))) evl_nil)))) (Nat.le_of_ble_eq_true rfl))) (Nat.le_of_ble_eq_true rfl) ?c4 ?d4) (opc_in (n := m + 7) (c := false) ?e4 ?f4 ?g4 ?h4)) rfl (run_nil ?n4))
  case' a4 => ktr_rel
  case' b4 => intro _ _; rfl
  case' c4 => ktr_units
  case d4 =>
    intro I J C a ha
    refine' ev_call (i := 80) (c80 a ha) ?a5 (by decide) rfl (by (first | lia (splits := 0) | omega)) ?k5
    case' a5 => ktr_rel
    case' k5 => ktr_room
  case' e4 => rfl
  case' f4 => rfl
  case' g4 => exact Nat.le_refl _
  case' h4 => rfl
  refine' run_cons (r1_assign (d := .int (mx + 1)) (ev_bin (ev_blt (evl_cons (ev_call (i := 74) c74 ?a6 (by decide) rfl (by (first | lia (splits := 0) | omega)) ?b6) evl_nil) (opf_max hm hx) bb_max (by decide) ?c6) ev_int opb_add) ?u6 ?k6
    (run_cons (r1_assign (d := .list (intD bits)) (ev_call (i := 5) c5 ?a7 (by decide) rfl (by (first | lia (splits := 0) | omega)) ?b7) ?u7 ?k7
    (run_cons (r1_return (Ev.cast (ev_and (ev_cmp (ev_call (i := 6) c6 ?a8 (by decide) rfl (by (first | lia (splits := 0) | omega)) ?b8) ?c8 opc_eq ?m8) fun _ => ev_and (ev_cmp (ev_blt (evl_cons ?d8 evl_nil) (opf_len ?e8) bb_len (by decide) ?f8) (ev_call (i := 76) c76 ?g8 (by decide) rfl (by (first | lia (splits := 0) | omega)) ?h8) opc_eq ?n8) fun _ => ev_and1 (ev_cmp (ev_lenEtt ?i8 bb_len (by decide) ?j8) (ev_blt (evl_cons ?l8 evl_nil) (opf_len ?o8) bb_len (by decide) ?p8) opc_eq ?q8)) ?r8) rfl)))))
  case' a6 => ktr_rel
  case' b6 => ktr_room
  case' c6 => ktr_room
  case' u6 => k_upd
  case' k6 => ktr_room
  case' a7 => ktr_rel
  case' b7 => ktr_room
  case' u7 => k_upd
  case' k7 => ktr_room
  case' a8 => ktr_rel
  case' b8 => ktr_room
  case' c8 => ktr_rel
  case' m8 => with_unfolding_all rfl
  case' d8 => ktr_rel
  case' e8 => rw [List.length_map]; (first | lia (splits := 0) | omega)
  case' f8 => ktr_room
  case' g8 => ktr_rel
  case' h8 => ktr_room
  case' n8 => with_unfolding_all rfl
  case' i8 => ktr_room
  case' j8 => ktr_room
  case' l8 => ktr_rel
  case' o8 => decide +kernel
  case' p8 => ktr_room
  case' q8 => with_unfolding_all rfl
  case' r8 =>
    have : ((strD tab).length : Int) = 48 := by decide +kernel
    rw [this, List.length_map]
    simp
noncomputable def In (lo hi : Int) : Int → List Stp → Prop
  | h, [] => lo ≤ h ∧ h ≤ hi
  | h, p :: s => (lo ≤ h ∧ h ≤ hi) ∧ In lo hi (h + p.1) s
noncomputable def rise (s : List Stp) : Int := (s.map (·.1)).sum
theorem rise_cons (p : Stp) (s : List Stp) : rise (p :: s) = p.1 + rise s := by simp [rise]
theorem rise_nil : rise [] = 0 := rfl
theorem rise_app (a b : List Stp) : rise (a ++ b) = rise a + rise b := by simp [rise]
theorem rise_tn : ∀ s : List Stp, rise (tn s) = - rise s
  | [] => rfl
  | p :: s => by
    have := rise_tn s
    rw [rise_cons, show tn (p :: s) = (-p.1, p.2) :: tn s from rfl, rise_cons, this]
    show -p.1 + _ = _
    (first | lia (splits := 0) | omega)
theorem rise_rev : ∀ s : List Stp, rise s.reverse = rise s
  | [] => rfl
  | p :: s => by rw [List.reverse_cons, rise_app, rise_rev s, rise_cons, rise_cons, rise_nil]; (first | lia (splits := 0) | omega)
section
variable {lo hi lo' hi' h c M : Int} {a b s : List Stp}
theorem In.here (x : In lo hi h s) : lo ≤ h ∧ h ≤ hi := by cases s <;> first | exact x | exact x.1
theorem In.app : ∀ {a : List Stp} {h : Int}, In lo hi h a → In lo hi (h + rise a) b → In lo hi h (a ++ b)
  | [], h, _, y => by simpa [rise_nil] using y
  | p :: a, h, x, y => ⟨x.1, In.app x.2 (by rw [rise_cons] at y; rwa [Int.add_assoc])⟩
theorem In.shift (c : Int) : ∀ {s : List Stp} {h : Int}, In lo hi h s → In (lo + c) (hi + c) (h + c) s
  | [], h, x => ⟨by have := x.1; (first | lia (splits := 0) | omega), by have := x.2; (first | lia (splits := 0) | omega)⟩
  | p :: s, h, x => ⟨⟨by have := x.1.1; (first | lia (splits := 0) | omega), by have := x.1.2; (first | lia (splits := 0) | omega)⟩, by have := In.shift c x.2; rwa [show h + p.1 + c = h + c + p.1 by (first | lia (splits := 0) | omega)] at this⟩
theorem In.mono (h1 : lo' ≤ lo) (h2 : hi ≤ hi') : ∀ {s : List Stp} {h : Int}, In lo hi h s → In lo' hi' h s
  | [], h, x => ⟨by have := x.1; (first | lia (splits := 0) | omega), by have := x.2; (first | lia (splits := 0) | omega)⟩
  | p :: s, h, x => ⟨⟨by have := x.1.1; (first | lia (splits := 0) | omega), by have := x.1.2; (first | lia (splits := 0) | omega)⟩, In.mono h1 h2 x.2⟩
theorem In.tn : ∀ {s : List Stp} {h : Int}, In lo hi h s → In (-hi) (-lo) (-h) (tn s)
  | [], h, x => ⟨by have := x.2; (first | lia (splits := 0) | omega), by have := x.1; (first | lia (splits := 0) | omega)⟩
  | p :: s, h, x => ⟨⟨by have := x.1.2; (first | lia (splits := 0) | omega), by have := x.1.1; (first | lia (splits := 0) | omega)⟩, by
      have := In.tn x.2
      rwa [show -(h + p.1) = -h + -p.1 by (first | lia (splits := 0) | omega)] at this⟩
theorem In.rev : ∀ {s : List Stp} {h : Int}, In lo hi h s → In lo hi (h + rise s) (Mine.tn s.reverse)
  | [], h, x => by simpa [Mine.tn, rise_nil] using x
  | p :: s, h, x => by
    have e : Mine.tn (p :: s).reverse = Mine.tn s.reverse ++ [(-p.1, p.2)] := by rw [List.reverse_cons]; simp [Mine.tn]
    have ih := In.rev x.2
    rw [e, rise_cons]
    have ee : h + (p.1 + rise s) = h + p.1 + rise s := by (first | lia (splits := 0) | lia (splits := 4) | omega)
    rw [ee]
    refine ih.app ?_
    rw [rise_tn, rise_rev]
    have q := x.2.here
    refine ⟨by (first | lia (splits := 0) | lia (splits := 4) | omega), ?_⟩
    show lo ≤ _ + -p.1 ∧ _ + -p.1 ≤ hi
    have := x.1
    (first | lia (splits := 0) | lia (splits := 4) | omega)
theorem In.at : ∀ {s : List Stp} {h : Int}, In lo hi h s → ∀ k, lo ≤ h + hAt s k ∧ h + hAt s k ≤ hi
  | [], h, x, k => by
    have q : lo ≤ h ∧ h ≤ hi := x
    simpa [hAt] using q
  | p :: s, h, x, 0 => by simpa [hAt] using x.1
  | p :: s, h, x, k + 1 => by
    have := In.at x.2 k
    have e : hAt (p :: s) (k + 1) = p.1 + hAt s k := by simp [hAt]
    rw [e]
    (first | lia (splits := 0) | lia (splits := 4) | omega)
theorem hAt_len (s : List Stp) : hAt s s.length = rise s := by simp [hAt, rise]
noncomputable def vis (M : Int) : Int → Nat → List Stp → List Nat
  | _, _, [] => []
  | h, k, p :: s => (if h + p.1 = M then [k + 1] else []) ++ vis M (h + p.1) (k + 1) s
theorem vis_app : ∀ (a : List Stp) (h : Int) (k : Nat), vis M h k (a ++ b) = vis M h k a ++ vis M (h + rise a) (k + a.length) b
  | [], h, k => by simp [vis, rise_nil]
  | p :: a, h, k => by
    simp only [List.cons_append, vis, vis_app a, List.append_assoc, rise_cons, List.length_cons]
    rw [Int.add_assoc, show k + 1 + a.length = k + (a.length + 1) by (first | lia (splits := 0) | omega)]
theorem vis_off (q : M < lo ∨ hi < M) : ∀ {s : List Stp} {h : Int} {k : Nat}, In lo hi h s → vis M h k s = []
  | [], h, k, _ => rfl
  | p :: s, h, k, x => by
    have := x.2.here
    rw [vis, if_neg (by (first | lia (splits := 0) | lia (splits := 4) | omega)), vis_off q x.2]
    rfl
theorem vis_eq : ∀ (s : List Stp) (h : Int) (k : Nat), vis M h k s = ((List.range s.length).filter (fun i => h + hAt s (i + 1) == M)).map (fun i => k + 1 + i)
  | [], h, k => rfl
  | p :: s, h, k => by
    have e : ∀ i, hAt (p :: s) (i + 1) = p.1 + hAt s i := fun i => by simp [hAt]
    have e0 : hAt s 0 = 0 := by simp [hAt]
    rw [vis, vis_eq s, List.length_cons, List.range_succ_eq_map, List.filter_cons, e, e0, Int.add_zero, List.filter_map]
    have t : List.map (fun i => k + 1 + 1 + i) (List.filter (fun i => h + p.1 + hAt s (i + 1) == M) (List.range s.length)) = List.map ((fun i => k + 1 + i) ∘ Nat.succ) (List.filter ((fun i => h + hAt (p :: s) (i + 1) == M) ∘ Nat.succ) (List.range s.length)) := by
      have f : (fun i => h + p.1 + hAt s (i + 1) == M) = ((fun i => h + hAt (p :: s) (i + 1) == M) ∘ Nat.succ) := by
        funext i
        show (_ == M) = (h + hAt (p :: s) (i + 1 + 1) == M)
        rw [e (i + 1), Int.add_assoc]
      rw [f]
      exact List.map_congr_left fun i _ => by show k + 1 + 1 + i = k + 1 + (i + 1); (first | lia (splits := 0) | omega)
    rw [t]
    by_cases z : h + p.1 = M
    · rw [if_pos z, if_pos (by simpa using z), List.map_cons, List.map_map]; rfl
    · rw [if_neg z, if_neg (by simpa using z), List.map_map]; rfl
theorem vis_filter (s : List Stp) : (List.range (s.length + 1)).filter (fun k => hAt s k == M) = (if 0 = M then [0] else []) ++ vis M 0 0 s := by
  rw [vis_eq, List.range_succ_eq_map, List.filter_cons, List.filter_map, show hAt s 0 = 0 by simp [hAt]]
  have f : ((fun k => hAt s k == M) ∘ Nat.succ) = fun i => 0 + hAt s (i + 1) == M := by
    funext i
    show (hAt s (i + 1) == M) = _
    rw [Int.zero_add]
  have g : List.map (fun i => 0 + 1 + i) (List.filter (fun i => 0 + hAt s (i + 1) == M) (List.range s.length)) = List.map Nat.succ (List.filter (fun i => 0 + hAt s (i + 1) == M) (List.range s.length)) := List.map_congr_left fun i _ => by (first | lia (splits := 0) | omega)
  rw [f, g]
  by_cases z : (0 : Int) = M
  · rw [if_pos z, if_pos (by simpa using z)]; rfl
  · rw [if_neg z, if_neg (by simpa using z)]; rfl
end
inductive Itm where
  | flat (o : Int)
  | upA (o : Int) (r : Tr)
  | dnA (o : Int) (l : Tr)
noncomputable def Itm.st : Itm → List Stp
  | .flat o => [(0, o)]
  | .upA o r => (1, o) :: (whole (way r) (-1) ++ [(-1, o)])
  | .dnA o l => (-1, o) :: (tn (whole (way l) (-1)) ++ [(1, o)])
noncomputable def Itm.bd : Itm → Tr → Tr
  | .flat o, t => .un o t
  | .upA o r, t => .bi o t r
  | .dnA o l, t => .bi o l t
noncomputable def Itm.ok (n : Int) (N : Nat) : Itm → Prop
  | .flat _ => True
  | .upA _ r => (way r).n < n ∧ r.ops < N
  | .dnA _ l => (way l).n < n ∧ l.ops < N
noncomputable def sts : List Itm → List Stp
  | [] => []
  | i :: is => i.st ++ sts is
noncomputable def bds : List Itm → Tr → Tr
  | [], c => c
  | i :: is, c => i.bd (bds is c)
theorem Itm.ok_mono {n : Int} {N N' : Nat} (h : N ≤ N') {i : Itm} (x : i.ok n N) : i.ok n N' := by
  cases i with
  | flat o => trivial
  | upA o r => exact ⟨x.1, Nat.lt_of_lt_of_le x.2 h⟩
  | dnA o l => exact ⟨x.1, Nat.lt_of_lt_of_le x.2 h⟩
noncomputable def Core (n : Int) (w : Way) (N : Nat) (c : Tr) : Prop :=
  (n = 0 ∧ c = .x ∧ w.up = [] ∧ w.dn = []) ∨ ∃ o l r, c = .bi o l r ∧ n = (way l).n + 1 ∧ (way l).n = (way r).n ∧ w.up = whole (way l) 1 ++ [(1, o)] ∧ w.op = o ∧ w.dn = whole (way r) 1 ∧ l.ops < N ∧ r.ops < N
theorem Core.mono {n : Int} {w w' : Way} {N N' : Nat} {c : Tr} (h : N ≤ N') (e1 : w'.up = w.up) (e2 : w'.op = w.op) (e3 : w'.dn = w.dn) (x : Core n w N c) : Core n w' N' c := by
  rcases x with ⟨a, b, c1, d⟩ | ⟨o, l, r, a, b, c1, d, e, f, g, g'⟩
  · exact .inl ⟨a, b, e1.trans c1, e3.trans d⟩
  · exact .inr ⟨o, l, r, a, b, c1, e1.trans d, e2.trans e, e3.trans f, Nat.lt_of_lt_of_le g h, Nat.lt_of_lt_of_le g' h⟩
theorem dec : ∀ t : Tr, ∃ (is : List Itm) (c : Tr), t = bds is c ∧ (way t).mid = sts is ∧ (∀ i ∈ is, i.ok (way t).n t.ops) ∧ Core (way t).n (way t) t.ops c
  | .x => ⟨[], .x, rfl, rfl, fun i h => (by cases h), .inl ⟨rfl, rfl, rfl, rfl⟩⟩
  | .un o t => by
    obtain ⟨is, c, e1, e2, e3, e4⟩ := dec t
    refine ⟨.flat o :: is, c, ?_, ?_, ?_, ?_⟩
    · exact congrArg (Tr.un o) e1
    · show (0, o) :: (way t).mid = _; rw [e2]; rfl
    · intro i h
      rcases List.mem_cons.mp h with rfl | h
      · trivial
      · exact Itm.ok_mono (Nat.le_succ _) (e3 i h)
    · exact e4.mono (Nat.le_succ _) rfl rfl rfl
  | .bi o l r => by
    have hl : l.ops < (Tr.bi o l r).ops := by simp only [Tr.ops]; (first | lia (splits := 0) | omega)
    have hr : r.ops < (Tr.bi o l r).ops := by simp only [Tr.ops]; (first | lia (splits := 0) | omega)
    by_cases h1 : (way l).n = (way r).n
    · have e : way (.bi o l r) = ⟨(way l).n + 1, whole (way l) 1 ++ [(1, o)], [], o, whole (way r) 1⟩ := by rw [way, if_pos h1]
      refine ⟨[], .bi o l r, rfl, by rw [e]; rfl, fun i h => (by cases h), .inr ⟨o, l, r, rfl, by rw [e], h1, by rw [e], by rw [e], by rw [e], hl, hr⟩⟩
    · by_cases h2 : (way r).n < (way l).n
      · have e : way (.bi o l r) = ⟨(way l).n, (way l).up, (((1, o) :: whole (way r) (-1)) ++ [(-1, o)]) ++ (way l).mid, (way l).op, (way l).dn⟩ := by rw [way, if_neg h1, if_pos h2]
        obtain ⟨is, c, e1, e2, e3, e4⟩ := dec l
        refine ⟨.upA o r :: is, c, ?_, ?_, ?_, ?_⟩
        · exact congrArg (fun q => Tr.bi o q r) e1
        · rw [e]; show _ ++ (way l).mid = _; rw [e2]; rfl
        · rw [e]
          intro i h
          rcases List.mem_cons.mp h with rfl | h
          · exact ⟨h2, hr⟩
          · exact Itm.ok_mono (Nat.le_of_lt hl) (e3 i h)
        · rw [e]; exact e4.mono (Nat.le_of_lt hl) rfl rfl rfl
      · have e : way (.bi o l r) = ⟨(way r).n, (way r).up, (((-1, o) :: tn (whole (way l) (-1))) ++ [(1, o)]) ++ (way r).mid, (way r).op, (way r).dn⟩ := by rw [way, if_neg h1, if_neg h2]
        obtain ⟨is, c, e1, e2, e3, e4⟩ := dec r
        refine ⟨.dnA o l :: is, c, ?_, ?_, ?_, ?_⟩
        · exact congrArg (fun q => Tr.bi o l q) e1
        · rw [e]; show _ ++ (way r).mid = _; rw [e2]; rfl
        · rw [e]
          intro i h
          rcases List.mem_cons.mp h with rfl | h
          · exact ⟨by show (way l).n < (way r).n; (first | lia (splits := 0) | omega), hl⟩
          · exact Itm.ok_mono (Nat.le_of_lt hr) (e3 i h)
        · rw [e]; exact e4.mono (Nat.le_of_lt hr) rfl rfl rfl
noncomputable def p2 (n : Int) : Int := 2 ^ n.toNat
theorem p2_pos (n : Int) : 1 ≤ p2 n := by
  have : (0 : Int) < 2 ^ n.toNat := Int.pow_pos (by decide)
  show (1 : Int) ≤ 2 ^ n.toNat
  (first | lia (splits := 0) | omega)
theorem p2_succ {n : Int} (h : 0 ≤ n) : p2 (n + 1) = 2 * p2 n := by
  unfold p2
  rw [show (n + 1).toNat = n.toNat + 1 by (first | lia (splits := 0) | lia (splits := 4) | omega), Int.pow_succ, Int.mul_comm]
theorem p2_lt {m n : Int} (h0 : 0 ≤ m) (h : m < n) : 2 * p2 m ≤ p2 n := by
  obtain ⟨k, hk⟩ : ∃ k : Nat, n = m + 1 + k := ⟨(n - m - 1).toNat, by (first | lia (splits := 0) | omega)⟩
  subst hk
  clear h
  induction k with
  | zero => rw [show m + 1 + ((0 : Nat) : Int) = m + 1 by (first | lia (splits := 0) | omega), p2_succ h0]; exact Int.le_refl _
  | succ k ih =>
    rw [show m + 1 + ((k + 1 : Nat) : Int) = m + 1 + (k : Int) + 1 by (first | lia (splits := 0) | omega), p2_succ (by (first | lia (splits := 0) | omega))]
    have := p2_pos (m + 1 + (k : Int))
    (first | lia (splits := 0) | omega)
noncomputable def Pth (t : Tr) : Prop :=
  In 0 (2 * p2 (way t).n - 2) 0 (whole (way t) 1) ∧ rise (whole (way t) 1) = 2 * p2 (way t).n - 2 ∧ In 0 (2 * p2 (way t).n - 2) 0 (whole (way t) (-1)) ∧ rise (whole (way t) (-1)) = 0
noncomputable def pos : Nat → List Itm → List Nat
  | _, [] => []
  | k, i :: is => (k + i.st.length) :: pos (k + i.st.length) is
theorem item_path {i : Itm} {n : Int} {N : Nat} (h0 : 0 ≤ n) (x : i.ok n N) (ih : ∀ r : Tr, r.ops < N → Pth r) :
    In 0 (2 * p2 n - 2) (p2 n - 1) i.st ∧ rise i.st = 0 ∧ ∀ k, vis (p2 n - 1) (p2 n - 1) k i.st = [k + i.st.length] := by
  have hp := p2_pos n
  cases i with
  | flat o =>
    refine ⟨⟨⟨by (first | lia (splits := 0) | lia (splits := 4) | omega), by (first | lia (splits := 0) | lia (splits := 4) | omega)⟩, ?_⟩, rfl, fun k => ?_⟩
    · show 0 ≤ p2 n - 1 + 0 ∧ p2 n - 1 + 0 ≤ _; (first | lia (splits := 0) | lia (splits := 4) | omega)
    · show (if p2 n - 1 + 0 = p2 n - 1 then [k + 1] else []) ++ [] = _
      rw [if_pos (by (first | lia (splits := 0) | lia (splits := 4) | omega))]; rfl
  | upA o r =>
    obtain ⟨x1, x2⟩ := x
    have h1 := way_n r
    have q := p2_lt h1 x1
    have q1 := p2_pos (way r).n
    obtain ⟨_, _, a, b⟩ := ih r x2
    have a' := (a.shift (p2 n)).mono (lo' := p2 n) (hi' := 2 * p2 n - 2) (by (first | lia (splits := 0) | lia (splits := 4) | omega)) (by (first | lia (splits := 0) | lia (splits := 4) | omega))
    rw [Int.zero_add] at a'
    refine ⟨⟨⟨by (first | lia (splits := 0) | lia (splits := 4) | omega), by (first | lia (splits := 0) | lia (splits := 4) | omega)⟩, ?_⟩, ?_, fun k => ?_⟩
    · show In _ _ (p2 n - 1 + 1) _
      rw [show p2 n - 1 + 1 = p2 n by (first | lia (splits := 0) | lia (splits := 4) | omega)]
      refine (a'.mono (by (first | lia (splits := 0) | lia (splits := 4) | omega)) (Int.le_refl _)).app ?_
      rw [b]
      refine ⟨by (first | lia (splits := 0) | lia (splits := 4) | omega), ?_⟩
      show 0 ≤ _ + (-1 : Int) ∧ _ + (-1 : Int) ≤ _
      (first | lia (splits := 0) | lia (splits := 4) | omega)
    · show rise ((1, o) :: _) = 0
      rw [rise_cons, rise_app, b, rise_cons, rise_nil]
      rfl
    · show (if p2 n - 1 + 1 = p2 n - 1 then [k + 1] else []) ++ vis _ (p2 n - 1 + 1) (k + 1) _ = _
      rw [if_neg (by (first | lia (splits := 0) | lia (splits := 4) | omega)), show p2 n - 1 + 1 = p2 n by (first | lia (splits := 0) | lia (splits := 4) | omega), vis_app, vis_off (by left; (first | lia (splits := 0) | lia (splits := 4) | omega)) a', b]
      show (if p2 n + 0 + -1 = p2 n - 1 then [k + 1 + (whole (way r) (-1)).length + 1] else []) ++ [] = _
      rw [if_pos (by (first | lia (splits := 0) | lia (splits := 4) | omega))]
      simp [Itm.st]
      (first | lia (splits := 0) | lia (splits := 4) | omega)
  | dnA o l =>
    obtain ⟨x1, x2⟩ := x
    have h1 := way_n l
    have q := p2_lt h1 x1
    have q1 := p2_pos (way l).n
    obtain ⟨_, _, a, b⟩ := ih l x2
    have a' := (a.tn.shift (p2 n - 2)).mono (lo' := 0) (hi' := p2 n - 2) (by (first | lia (splits := 0) | lia (splits := 4) | omega)) (by (first | lia (splits := 0) | lia (splits := 4) | omega))
    rw [show (-0 : Int) + (p2 n - 2) = p2 n - 2 by (first | lia (splits := 0) | lia (splits := 4) | omega)] at a'
    have b' : rise (tn (whole (way l) (-1))) = 0 := by rw [rise_tn, b]; rfl
    refine ⟨⟨⟨by (first | lia (splits := 0) | lia (splits := 4) | omega), by (first | lia (splits := 0) | lia (splits := 4) | omega)⟩, ?_⟩, ?_, fun k => ?_⟩
    · show In _ _ (p2 n - 1 + -1) _
      rw [show p2 n - 1 + -1 = p2 n - 2 by (first | lia (splits := 0) | lia (splits := 4) | omega)]
      refine (a'.mono (by (first | lia (splits := 0) | lia (splits := 4) | omega)) (by (first | lia (splits := 0) | lia (splits := 4) | omega))).app ?_
      rw [b']
      refine ⟨by (first | lia (splits := 0) | lia (splits := 4) | omega), ?_⟩
      show 0 ≤ _ + (1 : Int) ∧ _ + (1 : Int) ≤ _
      (first | lia (splits := 0) | lia (splits := 4) | omega)
    · show rise ((-1, o) :: _) = 0
      rw [rise_cons, rise_app, b', rise_cons, rise_nil]
      rfl
    · show (if p2 n - 1 + -1 = p2 n - 1 then [k + 1] else []) ++ vis _ (p2 n - 1 + -1) (k + 1) _ = _
      rw [if_neg (by (first | lia (splits := 0) | lia (splits := 4) | omega)), show p2 n - 1 + -1 = p2 n - 2 by (first | lia (splits := 0) | lia (splits := 4) | omega), vis_app, vis_off (by right; (first | lia (splits := 0) | lia (splits := 4) | omega)) a', b']
      show (if p2 n - 2 + 0 + 1 = p2 n - 1 then [k + 1 + (tn (whole (way l) (-1))).length + 1] else []) ++ [] = _
      rw [if_pos (by (first | lia (splits := 0) | lia (splits := 4) | omega))]
      simp [Itm.st]
      (first | lia (splits := 0) | lia (splits := 4) | omega)
theorem sts_path {n : Int} {N : Nat} (h0 : 0 ≤ n) (ih : ∀ r : Tr, r.ops < N → Pth r) : ∀ {is : List Itm}, (∀ i ∈ is, i.ok n N) →
    In 0 (2 * p2 n - 2) (p2 n - 1) (sts is) ∧ rise (sts is) = 0 ∧ ∀ k, vis (p2 n - 1) (p2 n - 1) k (sts is) = pos k is
  | [], _ => by
    have hp := p2_pos n
    exact ⟨⟨by (first | lia (splits := 0) | omega), by (first | lia (splits := 0) | omega)⟩, rfl, fun k => rfl⟩
  | i :: is, h => by
    obtain ⟨a, b, c⟩ := item_path h0 (h i (List.mem_cons_self ..)) ih
    obtain ⟨a', b', c'⟩ := sts_path h0 ih (is := is) fun j hj => h j (List.mem_cons_of_mem _ hj)
    refine ⟨?_, ?_, fun k => ?_⟩
    · exact a.app (by rw [b, Int.add_zero]; exact a')
    · show rise (_ ++ _) = 0; rw [rise_app, b, b']; rfl
    · show vis _ _ k (_ ++ _) = _
      rw [vis_app, c, b, Int.add_zero, c']; rfl
theorem f81 {W : Wd} {sc bits : List Int} {s7 span edge mx : Int} {k : Nat} {kk : D} {t : Tr} {due : List Stp} {lines : List Str} {x : Str} {m : Nat} (hsc : sc.length ≤ 1000)
    (h7 : dealAt sc 7 = s7) (hspan : 2 + s7.fmod 3 = span) (hedge : (s7.fdiv 3).fmod span = edge) (hk : 4 + (s7.fdiv 12).fmod 4 = (k : Int)) (hto : t.ops ≤ 20) (hdl : due.length ≤ 1000) (hbl : bits.length ≤ 1000)
    (c67 : Fn W (fd 67).name [.list (intD (deal8 sc)), .int 0, .int (k : Int)] (.list [t.D, kk]) m)
    (c73 : Fn W (fd 73).name [t.D] (way t).D m) (c72 : Fn W (fd 72).name [(way t).D, .int (-1)] (stepsD due) m)
    (c77 : Fn W (fd 77).name [stepsD due, .list (intD (deal8 sc)), .int span, .int edge, .list (strD tab)] (.list (strD lines)) m)
    (c78 : Fn W (fd 78).name [.list (strD lines), .int span, .int edge] (stepsD due) m)
    (c68 : Fn W (fd 68).name [t.D, .list (strD tab)] (.str x) m) (c70 : Fn W (fd 70).name [.str x] t.D m)
    (c75 : Fn W (fd 75).name [stepsD due] t.D m) (c79 : Fn W (fd 79).name [stepsD due] (.bool true) m)
    (c80 : ∀ a ∈ [0, 255, 256, (dealAt sc 0).fmod 65536], Fn W (fd 80).name [.int a] (.bool true) m)
    (c74 : Fn W (fd 74).name [stepsD due] (.list (intD (hts due))) m) (hm : mx ∈ hts due) (hx : ∀ y ∈ hts due, y ≤ mx)
    (c5 : I2D W (mx + 1) 1 bits m) (c6 : D2I W bits 1 (mx + 1) m) (c76 : Fn W (fd 76).name [t.D] (.int bits.length) m) :
    Fn W (fd 81).name [.list (intD sc)] (.bool true) (m + 9) := by
  have eD : (List.range 8).map (fun m : Nat => D.int (dealAt sc m)) = intD (deal8 sc) := by simp [deal8]
  refine fn_of_run (vs := ["script", "base", "sums", "span", "edge", "table", "drawn", "due", "told", "high", "bits"]) (wr := ["script", "base"]) (σ := [some (.val (.list (intD sc))), none, none, none, none, none, none, none, none, none, none]) ok81 (by decide) rfl (by decide) rfl fun env h₀ M₀ mine F => ?_
  refine' run_cons (r1_assign (d := .list (intD base8)) ?a1 ?u1 ?k1 (run_cons (r1_map (ys := ["script", "base"]) (l := List.range 8) (f := fun m : Nat => .int (m : Int)) (g := fun m : Nat => .int (dealAt sc m)) (It.cast (it_range1 ?a3 ?s3 bb_range (by decide) ?k3) ?e3) ?z3 ?ok3 ?t3 ?u2 ?k2 ?n2 ?s2)))
  case' a1 => exact Ev.cast (d := .list [.int 313, .int 53, .int 213, .int 280, .int 112, .int 341, .int 345, .int 15]) (by ktr_rel) rfl
  case' u1 => k_upd
  case' k1 => ktr_room
  case' a3 => ktr_rel
  case' k3 => ktr_room
  case' s3 => decide +kernel
  case' e3 => exact rng_nat 8
  case' ok3 => ktr_units
  case' z3 => decide
  case t3 =>
    intro I J C i hi
    have hi8 : i < 8 := List.mem_range.mp hi
    have hb : (intD base8)[(i : Int).toNat]? = some (.int (base8.getD i 0)) := by
      rw [Int.toNat_natCast, List.getElem?_map, List.getD_eq_getElem?_getD, List.getElem?_eq_getElem (show i < base8.length from hi8)]; rfl
    refine' Ev.cast (ev_bin (ev_blt (evl_cons (Ev.cast (ev_slice ?a5 ?b5 ?c5 ?d5 ?e5 ?f5 ?g5) ?h5) evl_nil) opf_sum bb_sum (by decide) ?k5) (ev_item (d := .int (base8.getD i 0)) ?a6 ?b6 ?c6 hb ?d6 ?e6) opb_add) ?h6
    case' a5 => ktr_rel
    case' b5 => ktr_rel
    case' c5 => ktr_rel
    case' d5 => ktr_rel
    case' e5 => decide
    case' h5 => exact congrArg D.list (pickL_map _ _ _ _ _)
    case' k5 => ktr_room
    case' a6 => ktr_rel
    case' b6 => ktr_rel
    case' h6 => rfl
    all_goals first | (intro _ _; rfl) | (first | lia (splits := 0) | omega) | (rw [List.length_map]; (first | lia (splits := 0) | omega)) | skip
  case' u2 => rw [eD]; k_upd
  case' k2 => exact Frm.kind F (by kernel_rfl)
  case' s2 => exact (swaps_scope (env' := envAt (fd 81).scope) F.sc).trans (by kernel_rfl)
  have g7 : (intD (deal8 sc))[(7 : Int).toNat]? = some (.int s7) := by
    rw [show (7 : Int).toNat = 7 from rfl, List.getElem?_map, deal8_get (by decide), h7]; rfl
  have g0 : (intD (deal8 sc))[(0 : Int).toNat]? = some (.int (dealAt sc 0)) := by
    rw [show (0 : Int).toNat = 0 from rfl, List.getElem?_map, deal8_get (by decide)]; rfl
  refine' run_cons (r1_assign (d := .int span) (Ev.cast (ev_bin ev_int (ev_bin (ev_item (d := .int s7) ?a10 ev_int (by decide) g7 (by decide) ?b10) ev_int (opb_mod (by decide))) opb_add) (congrArg D.int hspan)) ?u10 ?k10
    (run_cons (r1_assign (d := .int edge) (Ev.cast (ev_bin (ev_bin (ev_item (d := .int s7) ?a11 ev_int (by decide) g7 (by decide) ?b11) ev_int (opb_fdiv (by decide) (by decide))) ?c11 (opb_mod ?d11)) (congrArg D.int hedge)) ?u11 ?k11
    (run_cons (r1_assign (d := .list (strD tab)) (ev_split ev_str ev_str ?a12 ?b12 ?c12 ?d12 ?e12) ?u12 ?k12
    (run_cons (r1_assign (d := t.D) (ev_item (d := t.D) (ev_call (i := 67) c67 (evl_cons ?a13 (evl_cons ev_int (evl_cons (Ev.cast (ev_bin ev_int (ev_bin (ev_bin (ev_item (d := .int s7) ?b13 ev_int (by decide) g7 (by decide) ?c13) ev_int (opb_fdiv (by decide) (by decide))) ev_int (opb_mod (by decide))) opb_add) (congrArg D.int hk)) evl_nil))) (by decide) rfl (by (first | lia (splits := 0) | omega)) ?d13) ev_int (by decide) rfl (by decide) ?e13) ?u13 ?k13 ?n13)))))))
  case' a10 => ktr_rel
  case' b10 => intro _ _; rfl
  case' u10 => k_upd
  case' k10 => ktr_room
  case' a11 => ktr_rel
  case' b11 => intro _ _; rfl
  case' c11 => ktr_rel
  case' d11 => have := Int.fmod_nonneg_of_pos s7 (show (0 : Int) < 3 by decide); (first | lia (splits := 0) | omega)
  case' u11 => k_upd
  case' k11 => ktr_room
  case' a12 => decide +kernel
  case' b12 => decide +kernel
  case' c12 => decide +kernel
  case' d12 => kernel_rfl
  case' e12 => decide +kernel
  case' u12 => k_upd
  case' k12 => ktr_room
  case' a13 => ktr_rel
  case' b13 => ktr_rel
  case' c13 => intro _ _; rfl
  case' d13 => ktr_room
  case' e13 => intro _ _; rfl
  case' u13 => k_upd
  case' k13 => ktr_room
  exact f81t hsc h7 hspan hedge hk hto hdl hbl c67 c73 c72 c77 c78 c68 c70 c75 c79 c80 c74 hm hx c5 c6 c76 F
theorem In.one {h c : Int} (h1 : 0 ≤ h) : True := trivial
theorem sts_app : ∀ a b : List Itm, sts (a ++ b) = sts a ++ sts b
  | [], b => rfl
  | i :: a, b => by
    show i.st ++ sts (a ++ b) = _
    rw [sts_app a b, ← List.append_assoc]; rfl
noncomputable def tl (k : Int) (w : Way) : List Stp := (k, w.op) :: (if k = 1 then w.dn else tn w.dn.reverse)
theorem whole_core {w : Way} {k : Int} (h : w.n ≠ 0) : whole w k = w.up ++ (w.mid ++ tl k w) := by
  rw [whole, if_neg h, tl]; simp
theorem whole_flat {w : Way} {k : Int} (h : w.n = 0) : whole w k = w.mid := by rw [whole, if_pos h]
structure Cre (t : Tr) (is : List Itm) (o : Int) (l r : Tr) : Prop where
  n : (way t).n = (way l).n + 1
  m : (way l).n = (way r).n
  mid : (way t).mid = sts is
  up : (way t).up = whole (way l) 1 ++ [(1, o)]
  op : (way t).op = o
  dn : (way t).dn = whole (way r) 1
  ok : ∀ i ∈ is, i.ok (way t).n t.ops
  lo : l.ops < t.ops
  ro : r.ops < t.ops
  td : t = bds is (.bi o l r)
section
variable {t l r : Tr} {is : List Itm} {o : Int}
theorem Cre.up_path (C : Cre t is o l r) (ih : ∀ r : Tr, r.ops < t.ops → Pth r) : 2 ≤ p2 (way t).n ∧ In 0 (p2 (way t).n - 1) 0 (way t).up ∧ rise (way t).up = p2 (way t).n - 1 ∧ ∀ k, vis (p2 (way t).n - 1) 0 k (way t).up = [k + (way t).up.length] := by
  obtain ⟨a, b, _, _⟩ := ih l C.lo
  have q := p2_succ (way_n l)
  have q1 := p2_pos (way l).n
  rw [← C.n] at q
  refine ⟨by (first | lia (splits := 0) | lia (splits := 4) | omega), ?_, ?_, fun k => ?_⟩
  · rw [C.up]
    refine (a.mono (Int.le_refl _) (by (first | lia (splits := 0) | lia (splits := 4) | omega))).app ?_
    rw [b]
    refine ⟨by (first | lia (splits := 0) | lia (splits := 4) | omega), ?_⟩
    show 0 ≤ _ + (1 : Int) ∧ _ + (1 : Int) ≤ _
    (first | lia (splits := 0) | lia (splits := 4) | omega)
  · rw [C.up, rise_app, b, rise_cons, rise_nil]
    show _ + ((1 : Int) + 0) = _
    (first | lia (splits := 0) | lia (splits := 4) | omega)
  · rw [C.up, vis_app, vis_off (by right; (first | lia (splits := 0) | lia (splits := 4) | omega)) a, b]
    show (if 0 + (2 * p2 (way l).n - 2) + 1 = _ then [k + (whole (way l) 1).length + 1] else []) ++ [] = _
    rw [if_pos (by (first | lia (splits := 0) | lia (splits := 4) | omega))]
    simp
    (first | lia (splits := 0) | lia (splits := 4) | omega)
theorem Cre.tl_path (C : Cre t is o l r) (ih : ∀ r : Tr, r.ops < t.ops → Pth r) {k : Int} (hk : k = 1 ∨ k = -1) :
    In 0 (2 * p2 (way t).n - 2) (p2 (way t).n - 1) (tl k (way t)) ∧ p2 (way t).n - 1 + rise (tl k (way t)) = (if k = 1 then 2 * p2 (way t).n - 2 else 0) ∧ ∀ j, vis (p2 (way t).n - 1) (p2 (way t).n - 1) j (tl k (way t)) = [] := by
  obtain ⟨a, b, _, _⟩ := ih r C.ro
  have q := p2_succ (way_n l)
  have q1 := p2_pos (way l).n
  rw [← C.n] at q
  rw [← C.m] at a b
  have hp := p2_pos (way t).n
  rcases hk with rfl | rfl
  · have a' := a.shift (p2 (way t).n)
    rw [Int.zero_add] at a'
    have e : p2 (way t).n - 1 + 1 = p2 (way t).n := by (first | lia (splits := 0) | omega)
    have et : tl 1 (way t) = (1, (way t).op) :: whole (way r) 1 := by rw [tl, if_pos rfl, C.dn]
    rw [et]
    refine ⟨⟨⟨by (first | lia (splits := 0) | omega), by (first | lia (splits := 0) | omega)⟩, ?_⟩, ?_, fun j => ?_⟩
    · show In _ _ (p2 (way t).n - 1 + 1) _
      rw [e]; exact a'.mono (by (first | lia (splits := 0) | omega)) (by (first | lia (splits := 0) | omega))
    · rw [rise_cons, b, if_pos rfl]
      show _ + ((1 : Int) + _) = _
      (first | lia (splits := 0) | omega)
    · show (if p2 (way t).n - 1 + 1 = _ then _ else []) ++ vis _ (p2 (way t).n - 1 + 1) _ _ = _
      rw [if_neg (by (first | lia (splits := 0) | omega)), e, vis_off (by left; (first | lia (splits := 0) | omega)) a']; rfl
  · have a' := a.rev
    rw [b, Int.zero_add] at a'
    have e : p2 (way t).n - 1 + -1 = 2 * p2 (way l).n - 2 := by (first | lia (splits := 0) | omega)
    have et : tl (-1) (way t) = (-1, (way t).op) :: tn (whole (way r) 1).reverse := by rw [tl, if_neg (by decide), C.dn]
    rw [et]
    refine ⟨⟨⟨by (first | lia (splits := 0) | omega), by (first | lia (splits := 0) | omega)⟩, ?_⟩, ?_, fun j => ?_⟩
    · show In _ _ (p2 (way t).n - 1 + -1) _
      rw [e]; exact a'.mono (by (first | lia (splits := 0) | omega)) (by (first | lia (splits := 0) | omega))
    · rw [rise_cons, rise_tn, rise_rev, b, if_neg (by decide)]
      show _ + ((-1 : Int) + _) = _
      (first | lia (splits := 0) | omega)
    · show (if p2 (way t).n - 1 + -1 = _ then _ else []) ++ vis _ (p2 (way t).n - 1 + -1) _ _ = _
      rw [if_neg (by (first | lia (splits := 0) | omega)), e, vis_off (by right; (first | lia (splits := 0) | omega)) a']; rfl
theorem Cre.path (C : Cre t is o l r) (ih : ∀ r : Tr, r.ops < t.ops → Pth r) {k : Int} (hk : k = 1 ∨ k = -1) :
    In 0 (2 * p2 (way t).n - 2) 0 (whole (way t) k) ∧ rise (whole (way t) k) = (if k = 1 then 2 * p2 (way t).n - 2 else 0) ∧ ∀ j, vis (p2 (way t).n - 1) 0 j (whole (way t) k) = (j + (way t).up.length) :: Mine.pos (j + (way t).up.length) is := by
  obtain ⟨a0, a1, a2, a3⟩ := C.up_path ih
  obtain ⟨b1, b2, b3⟩ := sts_path (way_n t) ih C.ok
  obtain ⟨c1, c2, c3⟩ := C.tl_path ih hk
  rw [whole_core (by have := way_n l; have := C.n; (first | lia (splits := 0) | omega)), C.mid]
  refine ⟨?_, ?_, fun j => ?_⟩
  · refine (a1.mono (Int.le_refl _) (by (first | lia (splits := 0) | omega))).app ?_
    rw [a2, Int.zero_add]
    refine b1.app ?_
    rw [b2, Int.add_zero]; exact c1
  · rw [rise_app, rise_app, a2, b2, Int.zero_add, c2]
  · rw [vis_app, vis_app, a3, a2, Int.zero_add, b3, b2, Int.add_zero, c3, List.append_nil]; rfl
end
theorem flat_ok {is : List Itm} {N : Nat} (h : ∀ i ∈ is, i.ok 0 N) : ∀ i ∈ is, ∃ o, i = .flat o := fun i hi => by
  have := h i hi
  cases i with
  | flat o => exact ⟨o, rfl⟩
  | upA o r => have := way_n r; have := this; have q := ‹(Itm.upA o r).ok 0 N›.1; (first | lia (splits := 0) | omega)
  | dnA o l => have := way_n l; have q := ‹(Itm.dnA o l).ok 0 N›.1; (first | lia (splits := 0) | omega)
theorem pth : ∀ (N : Nat) (t : Tr), t.ops ≤ N → Pth t := by
  intro N
  induction N using Nat.strongRecOn with
  | ind N IH =>
  intro t hN
  have ih : ∀ r : Tr, r.ops < t.ops → Pth r := fun r hr => IH r.ops (by (first | lia (splits := 0) | omega)) r (Nat.le_refl _)
  obtain ⟨is, c, e1, e2, e3, e4⟩ := dec t
  rcases e4 with ⟨h0, rfl, _, _⟩ | ⟨o, l, r, rfl, h1, h2, h3, h4, h5, h6, h7⟩
  · obtain ⟨b1, b2, _⟩ := sts_path (way_n t) ih e3
    have p0 : p2 (way t).n = 1 := by rw [h0]; rfl
    rw [p0] at b1
    unfold Pth
    rw [whole_flat h0, whole_flat h0, e2, p0, b2]
    exact ⟨b1, rfl, b1, rfl⟩
  · have C : Cre t is o l r := ⟨h1, h2, e2, h3, h4, h5, e3, h6, h7, e1⟩
    obtain ⟨a1, a2, _⟩ := C.path ih (k := 1) (.inl rfl)
    obtain ⟨b1, b2, _⟩ := C.path ih (k := -1) (.inr rfl)
    exact ⟨a1, by rw [a2, if_pos rfl], b1, by rw [b2, if_neg (by decide)]⟩
theorem p2_ops : ∀ t : Tr, p2 (way t).n ≤ t.ops + 1
  | .x => by show p2 0 ≤ _; rw [show p2 0 = 1 from rfl]; simp [Tr.ops]
  | .un o t => by
    have := p2_ops t
    show p2 (way t).n ≤ _
    simp only [Tr.ops]; (first | lia (splits := 0) | omega)
  | .bi o l r => by
    have a := p2_ops l
    have b := p2_ops r
    have c := way_n l
    simp only [way, Tr.ops]
    split
    · rename_i h
      rw [← h] at b
      show p2 ((way l).n + 1) ≤ _
      rw [p2_succ c]; (first | lia (splits := 0) | omega)
    · split
      · show p2 (way l).n ≤ _; (first | lia (splits := 0) | omega)
      · show p2 (way r).n ≤ _; (first | lia (splits := 0) | omega)
theorem need_eq : ∀ t : Tr, need t = (way t).n + 1
  | .x => rfl
  | .un o t => by
    have a := need_eq t
    have b := way_n t
    show nd (need t) 0 = (way t).n + 1
    rw [a]; unfold nd; (first | lia (splits := 0) | omega)
  | .bi o l r => by
    have a := need_eq l
    have b := need_eq r
    show nd (need l) (need r) = _
    rw [a, b, way]
    unfold nd
    split
    · show _ = (way l).n + 1 + 1; (first | lia (splits := 0) | omega)
    · split
      · show _ = (way l).n + 1; (first | lia (splits := 0) | omega)
      · show _ = (way r).n + 1; (first | lia (splits := 0) | omega)
theorem pos_len : ∀ (is : List Itm) (k : Nat), (pos k is).length = is.length
  | [], _ => rfl
  | i :: is, k => congrArg (· + 1) (pos_len is _)
theorem pos_last : ∀ (is : List Itm) (k : Nat), (k :: pos k is)[is.length]? = some (k + (sts is).length)
  | [], k => rfl
  | i :: is, k => by
    show (pos k (i :: is))[is.length]? = _
    have := pos_last is (k + i.st.length)
    rw [show pos k (i :: is) = (k + i.st.length) :: pos (k + i.st.length) is from rfl, this]
    show _ = some (k + (i.st ++ sts is).length)
    rw [List.length_append, Nat.add_assoc]
theorem pos_at : ∀ (is : List Itm) (k j x y : Nat), (k :: pos k is)[j]? = some x → (k :: pos k is)[j + 1]? = some y → ∃ i rest, is.drop j = i :: rest ∧ x = k + (sts (is.take j)).length ∧ y = x + i.st.length
  | [], k, j, x, y, _, h => by cases j <;> simp [pos] at h
  | i :: is, k, 0, x, y, h, h' => by
    simp only [pos, List.getElem?_cons_zero, List.getElem?_cons_succ, Option.some.injEq] at h h'
    subst h h'
    exact ⟨i, is, rfl, by simp [sts], rfl⟩
  | i :: is, k, j + 1, x, y, h, h' => by
    rw [show pos k (i :: is) = (k + i.st.length) :: pos (k + i.st.length) is from rfl] at h h'
    rw [List.getElem?_cons_succ] at h h'
    obtain ⟨i', rest, e1, e2, e3⟩ := pos_at is (k + i.st.length) j x y h h'
    refine ⟨i', rest, e1, ?_, e3⟩
    rw [e2, List.take_succ_cons]
    show _ = k + (i.st ++ sts _).length
    rw [List.length_append]; (first | lia (splits := 0) | omega)
theorem tn_tn (s : List Stp) : tn (tn s) = s := by
  unfold tn
  rw [List.map_map]
  conv => rhs; rw [← List.map_id s]
  exact List.map_congr_left fun p _ => by show (- -p.1, p.2) = p; rw [Int.neg_neg]
theorem tn_rev (s : List Stp) : tn (tn s.reverse).reverse = s := by
  rw [show (tn s.reverse).reverse = tn s by unfold tn; rw [← List.map_reverse, List.reverse_reverse], tn_tn]
theorem drop_head {α : Type} {s : List α} {x : Nat} {p : α} {r : List α} (h : s.drop x = p :: r) : s[x]? = some p ∧ s.drop (x + 1) = r := by
  have hx : x < s.length := by
    rcases Nat.lt_or_ge x s.length with q | q
    · exact q
    · rw [List.drop_of_length_le q] at h; cases h
  rw [List.drop_eq_getElem_cons hx] at h
  injection h with h1 h2
  exact ⟨by rw [List.getElem?_eq_getElem hx, h1], h2⟩
theorem cut_item {s inner tail : List Stp} {x y : Nat} {p q : Stp} (h : s.drop x = p :: (inner ++ q :: tail)) (hy : y = x + (inner.length + 2)) : s[x]? = some p ∧ cutS s x y = inner := by
  obtain ⟨a, b⟩ := drop_head h
  refine ⟨a, ?_⟩
  unfold cutS
  rw [b, show y - 1 - (x + 1) = inner.length by (first | lia (splits := 0) | omega), List.take_left']
  rfl
theorem bits_eq {v : Int} {n : Nat} (h1 : 2 ^ n ≤ v) (h2 : v < 2 ^ (n + 1)) : Builtin.Int.intBits v = n + 1 := by
  have p := two_pos n
  have a := bits_le (by (first | lia (splits := 0) | omega)) h2
  rcases Nat.lt_or_ge n (Builtin.Int.intBits v) with q | q
  · (first | lia (splits := 0) | omega)
  · have := lt_bits q; (first | lia (splits := 0) | omega)
theorem top_fig {v : Int} {n : Nat} (h1 : 2 ^ n ≤ v) (h2 : v < 2 ^ (n + 1)) : (digs 1 (n + 1) v).drop n = [1] := by
  have p := two_pos n
  rw [Int.pow_succ] at h2
  have e : v / 2 ^ n = 1 := by
    have a : 1 ≤ v / 2 ^ n := (Int.le_ediv_iff_mul_le p).mpr (by (first | lia (splits := 0) | omega))
    have b : v / 2 ^ n < 2 := Int.ediv_lt_of_lt_mul p (by (first | lia (splits := 0) | omega))
    (first | lia (splits := 0) | omega)
  rw [digs_app, List.drop_left' (digs_len 1 n v), Nat.one_mul, e]
  rfl
theorem max_ex : ∀ {l : List Int}, l ≠ [] → ∃ m ∈ l, ∀ x ∈ l, x ≤ m
  | [], h => absurd rfl h
  | [a], _ => ⟨a, List.mem_cons_self, fun x hx => by rw [List.mem_singleton] at hx; (first | lia (splits := 0) | omega)⟩
  | a :: b :: l, _ => by
    obtain ⟨m, hm, hx⟩ := max_ex (l := b :: l) (by simp)
    by_cases q : m ≤ a
    · exact ⟨a, List.mem_cons_self, fun x h => by rcases List.mem_cons.mp h with rfl | h; exact Int.le_refl _; have := hx x h; (first | lia (splits := 0) | omega)⟩
    · exact ⟨m, List.mem_cons_of_mem _ hm, fun x h => by rcases List.mem_cons.mp h with rfl | h; (first | lia (splits := 0) | omega); exact hx x h⟩
theorem dval_zeros (k : Nat) : ∀ n, dval k (List.replicate n 0) = 0
  | 0 => rfl
  | n + 1 => by rw [List.replicate_succ, dval, dval_zeros k n]; simp
theorem top_of {s : List Stp} {n : Int} (n0 : 0 ≤ n) (I : In 0 (2 * p2 n - 2) 0 s) (hit : ∃ j, j ≤ s.length ∧ hAt s j = p2 n - 1) :
    ∃ m, m ∈ hts s ∧ (∀ x ∈ hts s, x ≤ m) ∧ 2 ^ n.toNat ≤ m + 1 ∧ m + 1 < 2 ^ (n.toNat + 1) := by
  obtain ⟨m, hm, hx⟩ := max_ex (l := hts s) (by simp [hts])
  obtain ⟨j, hj, ej⟩ := hit
  have h1 := hx (hAt s j) (List.mem_map_of_mem (List.mem_range.mpr (by (first | lia (splits := 0) | lia (splits := 4) | omega))))
  obtain ⟨k, _, ek⟩ := List.mem_map.mp hm
  have h2 := I.at k
  rw [Int.zero_add, ek] at h2
  have e : p2 n = 2 ^ n.toNat := rfl
  refine ⟨m, hm, hx, by (first | lia (splits := 0) | lia (splits := 4) | omega), ?_⟩
  rw [Int.pow_succ]
  (first | lia (splits := 0) | lia (splits := 4) | omega)
theorem f75a {W : Wd} {s sec : List Stp} {n : Int} {sp : List Nat} {a b : Nat} {T : Nat → D} {nn : Nat} (hW : W.nest = nestT) (hl : s.length ≤ 40) (n0 : 0 ≤ n) (hn : n.toNat ≤ nn + 4) (hn2 : n.toNat ≤ 50) (I : In 0 (2 * p2 n - 2) 0 s) (hit : ∃ j, j ≤ s.length ∧ hAt s j = p2 n - 1)
    (hsp : (List.range (s.length + 1)).filter (fun k => hAt s k == p2 n - 1) = sp) (h0 : sp[0]? = some a) (hb : sp[sp.length - 1]? = some b)
    (start : (p2 n - 1 ≤ 0 ∧ T (sp.length - 1) = .list []) ∨ (0 < p2 n - 1 ∧ 1 ≤ a ∧ ∃ p u v, s[b]? = some p ∧ (if hAt s s.length = 0 then tn (s.drop (b + 1)).reverse else s.drop (b + 1)) = sec ∧
      Fn W (fd 75).name [stepsD (s.take (a - 1))] u (nn + 8) ∧ Fn W (fd 75).name [stepsD sec] v (nn + 8) ∧ T (sp.length - 1) = .list [.int p.2, u, v]))
    (turn : ∀ j x y, sp[j]? = some x → sp[j + 1]? = some y → ∃ p, s[x]? = some p ∧ ((p.1 = 0 ∧ T j = .list [.int p.2, T (j + 1)]) ∨
      (p.1 = 1 ∧ ∃ u, Fn W (fd 75).name [stepsD (cutS s x y)] u (nn + 8) ∧ T j = .list [.int p.2, T (j + 1), u]) ∨
      (p.1 ≠ 0 ∧ p.1 ≠ 1 ∧ ∃ u, Fn W (fd 75).name [stepsD (tn (cutS s x y))] u (nn + 8) ∧ T j = .list [.int p.2, u, T (j + 1)]))) :
    Fn W (fd 75).name [stepsD s] (T 0) (nn + 9) := by
  obtain ⟨m, hm, hx, b1, b2⟩ := top_of n0 I hit
  generalize hk : n.toNat = k at *
  have p := two_pos k
  have hb' := bits_eq b1 b2
  have dl := digs_len 1 (k + 1) (m + 1)
  have h5 := f5 (W := W) (k := 1) (len := k + 1) (a := m + 1) hW (by decide) (by decide) (by (first | lia (splits := 0) | omega)) (by rw [hb', Nat.div_one]; (first | lia (splits := 0) | omega)) (by (first | lia (splits := 0) | omega))
  have td := top_fig b1 b2
  have h6 := f6 (W := W) (k := 1) (ds := List.replicate k 0 ++ [1]) hW (by decide) (by decide) (by simp; (first | lia (splits := 0) | omega)) (fun d hd => by
    rcases List.mem_append.mp hd with hd | hd
    · rw [(List.mem_replicate.mp hd).2]; decide
    · rw [List.mem_singleton.mp hd]; decide)
  rw [dval_app, dval_zeros, List.length_replicate, Nat.one_mul, show dval 1 [1] = 1 from rfl, Int.mul_one, Int.zero_add, List.length_append, List.length_replicate] at h6
  have ep : p2 n - 1 + 1 = 2 ^ k := by show 2 ^ n.toNat - 1 + 1 = _; rw [hk]; (first | lia (splits := 0) | omega)
  refine f75 (m := m) (figs := digs 1 (k + 1) (m + 1)) hl hm hx (h5.le (by (first | lia (splits := 0) | omega))) (by (first | lia (splits := 0) | omega)) (by (first | lia (splits := 0) | omega)) ?_ hsp h0 hb start turn
  rw [dl, Nat.add_sub_cancel, td, ep]
  exact h6.le (by simp; (first | lia (splits := 0) | omega))
theorem items_turn {W : Wd} {s pre post : List Stp} {is : List Itm} {n : Int} {N nn : Nat} {c : Tr} (hs : s = pre ++ (sts is ++ post)) (ok : ∀ i ∈ is, i.ok n N) (ih : ∀ r : Tr, r.ops < N → Fn W (fd 75).name [stepsD (whole (way r) (-1))] r.D (nn + 8)) :
    ∀ j x y, (pre.length :: pos pre.length is)[j]? = some x → (pre.length :: pos pre.length is)[j + 1]? = some y → ∃ p, s[x]? = some p ∧ ((p.1 = 0 ∧ (bds (is.drop j) c).D = .list [.int p.2, (bds (is.drop (j + 1)) c).D]) ∨
      (p.1 = 1 ∧ ∃ u, Fn W (fd 75).name [stepsD (cutS s x y)] u (nn + 8) ∧ (bds (is.drop j) c).D = .list [.int p.2, (bds (is.drop (j + 1)) c).D, u]) ∨
      (p.1 ≠ 0 ∧ p.1 ≠ 1 ∧ ∃ u, Fn W (fd 75).name [stepsD (tn (cutS s x y))] u (nn + 8) ∧ (bds (is.drop j) c).D = .list [.int p.2, u, (bds (is.drop (j + 1)) c).D])) := by
  intro j x y h1 h2
  obtain ⟨i, rest, e1, e2, e3⟩ := pos_at is _ j x y h1 h2
  have e4 : is.drop (j + 1) = rest := by rw [← List.drop_drop, e1]; rfl
  have hi : i ∈ is := List.mem_of_mem_drop (i := j) (by rw [e1]; exact List.mem_cons_self)
  have hd : s.drop x = i.st ++ (sts rest ++ post) := by
    have : s = (pre ++ sts (is.take j)) ++ (i.st ++ (sts rest ++ post)) := by
      rw [hs]
      conv => lhs; rw [← List.take_append_drop j is, e1, sts_app]
      show _ ++ (_ ++ (i.st ++ sts rest) ++ post) = _
      simp
    rw [this, List.drop_left' (by rw [List.length_append]; (first | lia (splits := 0) | omega))]
  have hk := ok i hi
  rw [e1, e4]
  cases i with
  | flat o => exact ⟨(0, o), (drop_head hd).1, .inl ⟨rfl, rfl⟩⟩
  | upA o r =>
    have hd' : s.drop x = (1, o) :: (whole (way r) (-1) ++ (-1, o) :: (sts rest ++ post)) := by rw [hd]; simp [Itm.st]
    obtain ⟨a, b⟩ := cut_item (y := y) hd' (by rw [e3]; simp [Itm.st])
    refine ⟨(1, o), a, .inr (.inl ⟨rfl, r.D, ?_, rfl⟩)⟩
    rw [b]; exact ih r hk.2
  | dnA o l =>
    have hd' : s.drop x = (-1, o) :: (tn (whole (way l) (-1)) ++ (1, o) :: (sts rest ++ post)) := by rw [hd]; simp [Itm.st]
    obtain ⟨a, b⟩ := cut_item (y := y) hd' (by rw [e3]; simp [Itm.st])
    refine ⟨(-1, o), a, .inr (.inr ⟨show (-1 : Int) ≠ 0 by decide, show (-1 : Int) ≠ 1 by decide, l.D, ?_, rfl⟩)⟩
    rw [b, tn_tn]; exact ih l hk.2
theorem p2_le_toNat {n : Int} {k : Nat} (n0 : 0 ≤ n) (h : p2 n ≤ k + 1) : n.toNat ≤ k := by
  have : n.toNat < 2 ^ n.toNat := Nat.lt_two_pow_self
  have e : ((2 ^ n.toNat : Nat) : Int) = (2 : Int) ^ n.toNat := Int.natCast_pow 2 _
  have e2 : p2 n = 2 ^ n.toNat := rfl
  (first | lia (splits := 0) | omega)
theorem undone {W : Wd} (hW : W.nest = nestT) : ∀ (N : Nat) (t : Tr), t.ops ≤ N → N ≤ 12 → ∀ k : Int, k = 1 ∨ k = -1 → Fn W (fd 75).name [stepsD (whole (way t) k)] t.D (t.ops + 9) := by
  intro N
  induction N using Nat.strongRecOn with
  | ind N IH =>
  intro t hN h12 k hk
  have ihp : ∀ r : Tr, r.ops < t.ops → Pth r := fun r hr => pth r.ops r (Nat.le_refl _)
  have ih : ∀ r : Tr, r.ops < t.ops → ∀ k : Int, k = 1 ∨ k = -1 → Fn W (fd 75).name [stepsD (whole (way r) k)] r.D (t.ops + 8) := fun r hr k hk => (IH r.ops (by (first | lia (splits := 0) | lia (splits := 4) | omega)) r (Nat.le_refl _) (by (first | lia (splits := 0) | lia (splits := 4) | omega)) k hk).le (by (first | lia (splits := 0) | lia (splits := 4) | omega))
  have len : (whole (way t) k).length ≤ 40 := by have := whole_way_length t k; (first | lia (splits := 0) | lia (splits := 4) | omega)
  have n0 := way_n t
  have pl := p2_le_toNat n0 (p2_ops t)
  obtain ⟨is, c, e1, e2, e3, e4⟩ := dec t
  rcases e4 with ⟨h0, rfl, _, _⟩ | ⟨o, l, r, rfl, h1, h2, h3, h4, h5, h6, h7⟩
  · obtain ⟨b1, b2, b3⟩ := sts_path (way_n t) ihp e3
    have p0 : p2 (way t).n = 1 := by rw [h0]; rfl
    have hs : whole (way t) k = [] ++ (sts is ++ []) := by rw [whole_flat h0, e2]; simp
    have hsp : (List.range ((whole (way t) k).length + 1)).filter (fun k' => hAt (whole (way t) k) k' == p2 (way t).n - 1) = 0 :: pos 0 is := by
      have q := b3 0
      rw [vis_filter, hs, List.nil_append, List.append_nil]
      rw [p0] at q ⊢
      rw [if_pos (by decide)]
      exact congrArg (0 :: ·) q
    have pll := pos_len is 0
    have := f75a (W := W) (T := fun j => (bds (is.drop j) .x).D) (sec := []) (nn := t.ops) (a := 0) (b := 0 + (sts is).length) hW len n0 (by (first | lia (splits := 0) | lia (splits := 4) | omega)) (by (first | lia (splits := 0) | lia (splits := 4) | omega)) (by rw [whole_flat h0, e2]; rw [p0] at b1 ⊢; exact b1) ⟨0, Nat.zero_le _, by rw [p0]; simp [hAt]⟩ hsp rfl
      (by rw [List.length_cons, Nat.add_sub_cancel, pll]; exact pos_last is 0) (.inl ⟨by (first | lia (splits := 0) | lia (splits := 4) | omega), by rw [List.length_cons, Nat.add_sub_cancel, pll]; simp [bds, Tr.D]⟩) (items_turn (pre := []) hs e3 fun r hr => ih r hr (-1) (.inr rfl))
    rw [e1]
    exact e1 ▸ this
  · have C : Cre t is o l r := ⟨h1, h2, e2, h3, h4, h5, e3, h6, h7, e1⟩
    obtain ⟨a1, a2, a3⟩ := C.path ihp hk
    obtain ⟨u0, _, u2, _⟩ := C.up_path ihp
    have hn : (way t).n ≠ 0 := by have := way_n l; (first | lia (splits := 0) | lia (splits := 4) | omega)
    have hs : whole (way t) k = (way t).up ++ (sts is ++ tl k (way t)) := by rw [whole_core hn, e2]
    have hul : (way t).up.length = (whole (way l) 1).length + 1 := by rw [h3]; simp
    have hsp : (List.range ((whole (way t) k).length + 1)).filter (fun k' => hAt (whole (way t) k) k' == p2 (way t).n - 1) = (way t).up.length :: pos (way t).up.length is := by
      rw [vis_filter, if_neg (by (first | lia (splits := 0) | lia (splits := 4) | omega)), a3, Nat.zero_add]; rfl
    have pll := pos_len is (way t).up.length
    have hdb : (whole (way t) k).drop ((way t).up.length + (sts is).length) = tl k (way t) := by
      rw [hs, ← List.append_assoc, List.drop_left' (by rw [List.length_append])]
    obtain ⟨d1, d2⟩ := drop_head (hdb.trans rfl)
    have := f75a (W := W) (T := fun j => (bds (is.drop j) (.bi o l r)).D) (sec := whole (way r) 1) (nn := t.ops) (a := (way t).up.length) (b := (way t).up.length + (sts is).length) hW len n0 (by (first | lia (splits := 0) | lia (splits := 4) | omega)) (by (first | lia (splits := 0) | lia (splits := 4) | omega)) a1
      ⟨(way t).up.length, by rw [hs, List.length_append]; (first | lia (splits := 0) | lia (splits := 4) | omega), by rw [← u2, hs]; simp [hAt, rise]⟩ hsp rfl
      (by rw [List.length_cons, Nat.add_sub_cancel, pll]; exact pos_last is _) (.inr ⟨by (first | lia (splits := 0) | lia (splits := 4) | omega), by (first | lia (splits := 0) | lia (splits := 4) | omega), (k, (way t).op), l.D, r.D, d1, ?_, ?_, ih r h7 1 (.inl rfl), by rw [List.length_cons, Nat.add_sub_cancel, pll]; simp [bds, Tr.D, h4]⟩) (items_turn hs e3 fun r hr => ih r hr (-1) (.inr rfl))
    · rw [e1]
      exact e1 ▸ this
    · rw [d2, hAt_len, a2, h5]
      rcases hk with rfl | rfl
      · rw [if_pos rfl, if_neg (by (first | lia (splits := 0) | lia (splits := 4) | omega)), if_pos rfl]
      · rw [if_pos (if_neg (by decide)), if_neg (by decide), tn_rev]
    · rw [hs, List.take_append_of_le_length (by (first | lia (splits := 0) | lia (splits := 4) | omega)), hul, h3, List.take_append_of_le_length (by (first | lia (splits := 0) | lia (splits := 4) | omega)), List.take_of_length_le (by (first | lia (splits := 0) | lia (splits := 4) | omega))]
      exact ih l h6 1 (.inl rfl)
theorem digs_dval {k : Nat} : ∀ {ds : List Int}, Figs k ds → digs k ds.length (dval k ds) = ds
  | [], _ => rfl
  | d :: r, h => by
    have h1 := h d List.mem_cons_self
    have p := two_pos k
    have e1 : (d + 2 ^ k * dval k r) % 2 ^ k = d := by rw [Int.add_mul_emod_self_left, Int.emod_eq_of_lt h1.1 h1.2]
    have e2 : (d + 2 ^ k * dval k r) / 2 ^ k = dval k r := by rw [Int.add_mul_ediv_left _ _ (Int.ne_of_gt p), Int.ediv_eq_zero_of_lt h1.1 h1.2, Int.zero_add]
    rw [List.length_cons, dval, digs, e1, e2, digs_dval fun x hx => h x (List.mem_cons_of_mem _ hx)]
theorem sum_mul (c : Int) : ∀ l : List Int, (l.map (fun x => c * x)).sum = c * l.sum
  | [] => by simp
  | a :: l => by rw [List.map_cons, List.sum_cons, List.sum_cons, sum_mul c l, Int.mul_add]
theorem numOf_eq : ∀ row : List Int, numOf row = dval 8 row
  | [] => rfl
  | d :: r => by
    have ih := numOf_eq r
    unfold numOf at ih ⊢
    rw [List.length_cons, List.range_succ_eq_map, List.map_cons, List.map_map, List.sum_cons, dval, ← ih, ← sum_mul, List.map_map]
    congr 1
    · simp
    · refine congrArg List.sum (List.map_congr_left fun k _ => ?_)
      show (d :: r).getD (k + 1) 0 * 256 ^ (k + 1) = 2 ^ 8 * (r.getD k 0 * 256 ^ k)
      rw [List.getD_cons_succ, Int.pow_succ, show (2 : Int) ^ 8 = 256 from rfl]
      rw [Int.mul_comm (256 ^ k) 256, ← Int.mul_assoc, ← Int.mul_assoc, Int.mul_comm (r.getD k 0) 256]
theorem bits_lt {v : Int} {m : Nat} (h1 : 2 ^ m ≤ v) : m < Builtin.Int.intBits v := by
  rcases Nat.lt_or_ge m (Builtin.Int.intBits v) with q | q
  · exact q
  · have := lt_bits q; (first | lia (splits := 0) | omega)
theorem f5_of {W : Wd} {k : Nat} {ds : List Int} {d : Int} (hW : W.nest = nestT) (hk : 1 ≤ k) (hk2 : k ≤ 30) (hF : Figs k ds) (hl : ds.length ≤ 60) (hd : ds.getLast? = some d) (h1 : 1 ≤ d) : I2D W (dval k ds) (k : Int) ds (ds.length + 3) := by
  obtain ⟨r, rfl⟩ := List.getLast?_eq_some_iff.mp hd
  have b := dval_bd hF
  have b' := dval_bd (k := k) (ds := r) fun x hx => hF x (List.mem_append_left _ hx)
  have hlo : 2 ^ (k * r.length) ≤ dval k (r ++ [d]) := by
    have p := two_pos (k * r.length)
    rw [dval_app, show dval k [d] = d by simp [dval]]
    have : 2 ^ (k * r.length) * 1 ≤ 2 ^ (k * r.length) * d := Int.mul_le_mul_of_nonneg_left h1 (Int.le_of_lt p)
    (first | lia (splits := 0) | omega)
  have c1 := bits_lt hlo
  have c2 := bits_le b.1 b.2
  rw [List.length_append, List.length_singleton] at c2 ⊢
  have hlen : (Builtin.Int.intBits (dval k (r ++ [d])) + k - 1) / k = r.length + 1 := by
    have c2' : Builtin.Int.intBits (dval k (r ++ [d])) ≤ k * (r.length + 1) := by exact_mod_cast c2
    rw [Nat.div_eq_iff (by (first | lia (splits := 0) | omega))]
    rw [Nat.mul_add] at c2'
    rw [Nat.add_mul, Nat.mul_comm r.length k]
    (first | lia (splits := 0) | omega)
  have := f5 (W := W) hW hk hk2 b.1 hlen (by rw [List.length_append, List.length_singleton] at hl; exact hl)
  rw [show r.length + 1 = (r ++ [d]).length by simp, digs_dval hF] at this
  rw [show r.length + 1 + 3 = (r ++ [d]).length + 3 by simp]
  exact this
theorem packed {W : Wd} {l : List Stp} (hW : W.nest = nestT) (hl : l.length ≤ 40) (hb : ∀ p ∈ l, -1 ≤ p.1 ∧ p.1 ≤ 1 ∧ 1 ≤ p.2 ∧ p.2 ≤ 100) (hne : l ≠ []) : Fn W (fd 79).name [stepsD l] (.bool true) (l.length + 12) := by
  have hr : (rowOf l).length = l.length := by simp [rowOf]
  have hv : ∀ d ∈ rowOf l, 1 ≤ d ∧ d < 256 := fun d hd => by
    obtain ⟨p, hp, rfl⟩ := List.mem_map.mp hd
    have := hb p hp
    (first | lia (splits := 0) | omega)
  have hF : Figs 8 (rowOf l) := fun d hd => by
    have := hv d hd
    exact ⟨by (first | lia (splits := 0) | omega), by show d < 256; (first | lia (splits := 0) | omega)⟩
  obtain ⟨d, hd⟩ : ∃ d, (rowOf l).getLast? = some d := by
    cases q : (rowOf l).getLast? with
    | none => rw [List.getLast?_eq_none_iff] at q; rw [q] at hr; exact absurd (List.length_eq_zero_iff.mp hr.symm) hne
    | some d => exact ⟨d, rfl⟩
  have h5 := f5_of (W := W) hW (by decide) (by decide) hF (by (first | lia (splits := 0) | omega)) hd (hv d (List.mem_of_getLast? hd)).1
  have h6 := f6 (W := W) (k := 8) hW (by decide) (by decide) (show (rowOf l).length ≤ 60 by (first | lia (splits := 0) | omega)) hF
  rw [hr] at h5 h6
  exact f79 (m := l.length + 3) hl (fun p hp => by have := hb p hp; (first | lia (splits := 0) | omega)) (by rw [numOf_eq]; exact h6) (by rw [numOf_eq]; exact h5)
theorem digs_range (k : Nat) : ∀ m x, digs k m x = (List.range m).map fun i => x / 2 ^ (k * i) % 2 ^ k
  | 0, _ => rfl
  | m + 1, x => by
    rw [digs, digs_range k m, List.range_succ_eq_map, List.map_cons, List.map_map]
    congr 1
    · rw [Nat.mul_zero, Int.pow_zero, Int.ediv_one]
    · exact List.map_congr_left fun i _ => by
        show x / 2 ^ k / 2 ^ (k * i) % 2 ^ k = x / 2 ^ (k * (i + 1)) % 2 ^ k
        rw [Int.ediv_ediv_of_nonneg (Int.le_of_lt (two_pos k)), ← Int.pow_add, show k + k * i = k * (i + 1) by rw [Nat.mul_add]; (first | lia (splits := 0) | omega)]
theorem symbol {W : Wd} {a : Int} (hW : W.nest = nestT) (h0 : 0 ≤ a) (h1 : a < 65536) : Fn W (fd 80).name [.int a] (.bool true) 16 := by
  have b16 := bits_le (m := 16) h0 h1
  generalize hn : Builtin.Int.intBits a = n at *
  have c0 : n = 0 ↔ a = 0 := ⟨fun q => by have := lt_bits (a := a) (m := 0) (by (first | lia (splits := 0) | lia (splits := 4) | omega)); simp at this; (first | lia (splits := 0) | lia (splits := 4) | omega), fun q => by have := bits_le (m := 0) h0 (by rw [q]; decide); (first | lia (splits := 0) | lia (splits := 4) | omega)⟩
  have c8 : n ≤ 8 ↔ a < 256 := ⟨fun q => by have := lt_bits (a := a) (m := 8) (by (first | lia (splits := 0) | lia (splits := 4) | omega)); exact this, fun q => by have := bits_le (m := 8) h0 q; (first | lia (splits := 0) | lia (splits := 4) | omega)⟩
  have h5 := f5 (W := W) (k := 4) (len := (n + 3) / 4) (a := a) hW (by decide) (by decide) h0 (by rw [hn]; rfl) (by (first | lia (splits := 0) | lia (splits := 4) | omega))
  have dl := digs_len 4 ((n + 3) / 4) a
  refine (f80 (m := 7) (h5.le (by (first | lia (splits := 0) | lia (splits := 4) | omega))) (by rw [dl]; (first | lia (splits := 0) | lia (splits := 4) | omega)) ?_ ?_ ?_ ?_).le (Nat.le_refl _)
  · rw [dl, digs_range]
    refine List.map_congr_left fun k _ => ?_
    have p : (0 : Int) ≤ 16 ^ k := Int.le_of_lt (Int.pow_pos (by decide))
    rw [Int.fdiv_eq_ediv_of_nonneg _ p, Int.fmod_eq_emod_of_nonneg _ (by decide), Int.pow_mul]
    rfl
  · have : (digs 4 ((n + 3) / 4) a).isEmpty = decide ((n + 3) / 4 = 0) := by
      have e : ∀ l : List Int, l.isEmpty = decide (l.length = 0) := fun l => by cases l <;> simp
      rw [e, dl]
    rw [this]
    by_cases q : a = 0
    · rw [q, decide_eq_true (by have := c0.mpr q; (first | lia (splits := 0) | lia (splits := 4) | omega))]; rfl
    · rw [decide_eq_false (by intro z; exact q (c0.mp (by (first | lia (splits := 0) | lia (splits := 4) | omega))))]; simpa using q
  · rw [dl]
    exact decide_eq_decide.mpr ⟨fun q => by have := c8.mpr q; (first | lia (splits := 0) | lia (splits := 4) | omega), fun q => c8.mp (by (first | lia (splits := 0) | lia (splits := 4) | omega))⟩
  · rw [dl]
    exact decide_eq_decide.mpr ⟨fun q => by have := mt c8.mp (by (first | lia (splits := 0) | lia (splits := 4) | omega)); (first | lia (splits := 0) | lia (splits := 4) | omega), fun q => by have := mt c8.mpr (by (first | lia (splits := 0) | lia (splits := 4) | omega)); (first | lia (splits := 0) | lia (splits := 4) | omega)⟩
theorem ldiv_val {b : Int} {n : Nat} (hb : 0 < b) (hb2 : b ≤ 2 ^ n) : ∀ {ds : List Int}, Figs n ds → (ldiv b (n : Int) ds).1 = dval n ds % b ∧ dval n (ldiv b (n : Int) ds).2 = dval n ds / b ∧ Figs n (ldiv b (n : Int) ds).2
  | [], _ => ⟨by show (0 : Int) = 0 % b; simp, by show (0 : Int) = 0 / b; simp, fun d hd => by cases hd⟩
  | d :: r, h => by
    have h1 := h d List.mem_cons_self
    have p := two_pos n
    obtain ⟨e1, e2, e3⟩ := ldiv_val hb hb2 (ds := r) fun x hx => h x (List.mem_cons_of_mem _ hx)
    rw [ldiv_cons, e1]
    have r0 := Int.emod_nonneg (dval n r) (Int.ne_of_gt hb)
    have r1 := Int.emod_lt_of_pos (dval n r) hb
    have key : dval n (d :: r) = (dval n r % b * 2 ^ n + d) + b * (2 ^ n * (dval n r / b)) := by
      have q := Int.emod_add_mul_ediv (dval n r) b
      rw [dval]
      conv => lhs; rw [← q]
      rw [Int.mul_add, Int.mul_comm (2 ^ n) (dval n r % b), ← Int.mul_assoc (2 ^ n) b, Int.mul_comm (2 ^ n) b, Int.mul_assoc]
      (first | lia (splits := 0) | lia (splits := 4) | omega)
    rw [show (n : Int).toNat = n from rfl, Int.fmod_eq_emod_of_nonneg _ (Int.le_of_lt hb), Int.fdiv_eq_ediv_of_nonneg _ (Int.le_of_lt hb)]
    generalize hx : dval n r % b * 2 ^ n + d = x at key
    refine ⟨?_, ?_, ?_⟩
    · rw [key]; simp
    · rw [dval, e2, key, Int.add_mul_ediv_left _ _ (Int.ne_of_gt hb)]
    · intro y hy
      rcases List.mem_cons.mp hy with rfl | hy
      · have u : dval n r % b * 2 ^ n ≤ (b - 1) * 2 ^ n := Int.mul_le_mul_of_nonneg_right (by (first | lia (splits := 0) | lia (splits := 4) | omega)) (Int.le_of_lt p)
        have v : 0 ≤ dval n r % b * 2 ^ n := Int.mul_nonneg r0 (Int.le_of_lt p)
        rw [Int.sub_mul, Int.one_mul] at u
        exact ⟨Int.ediv_nonneg (by (first | lia (splits := 0) | lia (splits := 4) | omega)) (Int.le_of_lt hb), Int.ediv_lt_of_lt_mul hb (by rw [Int.mul_comm]; (first | lia (splits := 0) | lia (splits := 4) | omega))⟩
      · exact e3 y hy
theorem Figs.bits {n : Nat} {d : Int} (h : 0 ≤ d ∧ d < 2 ^ n) : Builtin.Int.intBits d ≤ n := by have := bits_le h.1 h.2; (first | lia (splits := 0) | omega)
theorem divmod {W : Wd} {a b : Int} (hW : W.nest = nestT) (ha : 0 ≤ a) (ha2 : a < 2 ^ 40) (hb : 2 ≤ b) (hb4 : b ≤ 4) : Fn W (fd 8).name [.int a, .int b] (.tup [.int (a / b), .int (a % b)]) 65 := by
  obtain ⟨n, hn⟩ : ∃ n, Builtin.Int.intBits b = n := ⟨_, rfl⟩
  have hn2 : n = 2 ∨ n = 3 := by
    have : b = 2 ∨ b = 3 ∨ b = 4 := by (first | lia (splits := 0) | lia (splits := 4) | omega)
    rcases this with rfl | rfl | rfl
    · left; rw [← hn]; decide
    · left; rw [← hn]; decide
    · right; rw [← hn]; decide
  have hb2 : b ≤ 2 ^ n := by have := lt_bits (a := b) (m := n) (by (first | lia (splits := 0) | lia (splits := 4) | omega)); (first | lia (splits := 0) | lia (splits := 4) | omega)
  have hab := bits_le (m := 40) ha ha2
  obtain ⟨len, hlen⟩ : ∃ len, (Builtin.Int.intBits a + n - 1) / n = len := ⟨_, rfl⟩
  have hl60 : len ≤ 59 := by rcases hn2 with rfl | rfl <;> (first | lia (splits := 0) | lia (splits := 4) | omega)
  have hcov : Builtin.Int.intBits a ≤ n * len := by rcases hn2 with rfl | rfl <;> (first | lia (splits := 0) | lia (splits := 4) | omega)
  have hFd := digs_figs n len a
  have dv : dval n (digs n len a) = a := dval_digs n len a ha (lt_bits hcov)
  have dl := digs_len n len a
  obtain ⟨e1, e2, e3⟩ := ldiv_val (b := b) (n := n) (by (first | lia (splits := 0) | lia (splits := 4) | omega)) hb2 hFd
  rw [dv] at e1 e2
  have h5 := f5 (W := W) (k := n) (a := a) hW (by (first | lia (splits := 0) | lia (splits := 4) | omega)) (by (first | lia (splits := 0) | lia (splits := 4) | omega)) ha hlen (by (first | lia (splits := 0) | lia (splits := 4) | omega))
  have ll := ldiv_len (b := b) (n := (n : Int)) (digs n len a)
  have h6 := f6 (W := W) (k := n) (ds := (ldiv b (n : Int) (digs n len a)).2) hW (by (first | lia (splits := 0) | lia (splits := 4) | omega)) (by (first | lia (splits := 0) | lia (splits := 4) | omega)) (by rw [ll, dl]; (first | lia (splits := 0) | lia (splits := 4) | omega)) e3
  rw [e2] at h6
  have p := two_pos n
  have h7 := f7 (W := W) (a := a) (b := b) (ds := digs n len a) (v := a / b) (m := 63) (by (first | lia (splits := 0) | lia (splits := 4) | omega)) (Int.lt_of_le_of_lt hb4 (by decide)) (by rw [hn]; exact h5.le (by (first | lia (splits := 0) | lia (splits := 4) | omega))) (by rw [hn]; exact h6.le (by rw [ll, dl]; (first | lia (splits := 0) | lia (splits := 4) | omega))) (by rw [dl]; (first | lia (splits := 0) | lia (splits := 4) | omega)) (by (first | lia (splits := 0) | lia (splits := 4) | omega)) (by (first | lia (splits := 0) | lia (splits := 4) | omega)) (fun r d r0 r1 hd => by
    have hdd := hFd d hd
    rw [hn, show ((n : Nat) : Int).toNat = n from rfl]
    have r4 : r < 2 ^ 2 := by show r < 4; (first | lia (splits := 0) | lia (splits := 4) | omega)
    have x1 := bits_le r0 r4
    have p6 : (2 : Int) ^ n ≤ 8 := by rcases hn2 with rfl | rfl <;> decide
    have u : r * 2 ^ n ≤ 3 * 2 ^ n := Int.mul_le_mul_of_nonneg_right (by have : r < 4 := r4; (first | lia (splits := 0) | lia (splits := 4) | omega)) (Int.le_of_lt p)
    have v : 0 ≤ r * 2 ^ n := Int.mul_nonneg r0 (Int.le_of_lt p)
    have x2 := bits_le (x := r * 2 ^ n + d) (m := 6) (by (first | lia (splits := 0) | lia (splits := 4) | omega)) (by show _ < (64 : Int); (first | lia (splits := 0) | lia (splits := 4) | omega))
    (first | lia (splits := 0) | lia (splits := 4) | omega))
  rw [hn, e1] at h7
  exact f8 ha (by (first | lia (splits := 0) | lia (splits := 4) | omega)) h7
noncomputable abbrev cl (x : Str) : List Nat := x.cps.toList
theorem cl_app (a b : Str) : cl (a ++ b) = cl a ++ cl b := Array.toList_append
theorem cl_len (x : Str) : (cl x).length = x.length := Array.length_toList
theorem cl_inj {a b : Str} (h : cl a = cl b) : a = b := by
  cases a with | mk a => cases b with | mk b => exact congrArg Str.mk (Array.toList_inj.mp h)
theorem slice_eq {x : Str} {a b : Nat} (ha : a ≤ x.length) (hb : b ≤ x.length) : (Builtin.Str.strSliceIndices (some (a : Int)) (some (b : Int)) 1 x.length).filterMap (x.cps[·]?) = ((cl x).drop a).take (b - a) := by
  have := pick_run (cl x) (a := a) (b := b) (by rw [cl_len]; exact ha) (by rw [cl_len]; exact hb)
  rw [← this]
  unfold pickL
  rw [cl_len]
  have f : (fun i : Nat => x.cps[i]?) = fun i : Nat => (cl x)[i]? := by funext i; exact Array.getElem?_toList.symm
  rw [f]
  rfl
theorem idx_min {a k n : Nat} : Builtin.Str.strSliceIndices (some (a : Int)) (some ((a : Int) + (k : Int))) 1 n = Builtin.Str.strSliceIndices (some (a : Int)) (some ((min (a + k) n : Nat) : Int)) 1 n := by
  have e : ∀ j : Int, 0 ≤ j → (max 0 (min (if j < 0 then j + (n : Int) else j) (n : Int))) = min j n := fun j hj => by rw [if_neg (by (first | lia (splits := 0) | lia (splits := 4) | omega))]; (first | lia (splits := 0) | lia (splits := 4) | omega)
  show sliceRange _ (max 0 (min (if _ < 0 then _ else _) _)) 1 = sliceRange _ (max 0 (min (if _ < 0 then _ else _) _)) 1
  rw [e _ (by (first | lia (splits := 0) | lia (splits := 4) | omega)), e _ (by (first | lia (splits := 0) | lia (splits := 4) | omega))]
  congr 1
  (first | lia (splits := 0) | lia (splits := 4) | omega)
theorem idx_len {a b n : Nat} (ha : a ≤ n) (hb : b ≤ n) : (Builtin.Str.strSliceIndices (some (a : Int)) (some (b : Int)) 1 n).length = b - a := by
  have e : ∀ j : Nat, j ≤ n → (max 0 (min (if (j : Int) < 0 then (j : Int) + (n : Int) else (j : Int)) (n : Int))) = j := fun j hj => by rw [if_neg (Int.not_lt.mpr (Int.natCast_nonneg j))]; (first | lia (splits := 0) | omega)
  show (sliceRange (max 0 (min (if _ < 0 then _ else _) _)) (max 0 (min (if _ < 0 then _ else _) _)) 1).length = _
  rw [e a ha, e b hb]
  unfold sliceRange
  rw [List.length_map, List.length_range, if_pos (by decide)]
  split
  · rw [Int.ediv_one]; (first | lia (splits := 0) | omega)
  · (first | lia (splits := 0) | omega)
theorem cut_codes (x : Str) {a k : Nat} (h : a ≤ x.length) : cl (cut x (a : Int) (k : Int)) = ((cl x).drop a).take k := by
  have hm : ((cl x).drop a).take (min (a + k) x.length - a) = ((cl x).drop a).take k := by
    rcases Nat.le_total (a + k) x.length with q | q
    · rw [Nat.min_eq_left q, Nat.add_sub_cancel_left]
    · rw [Nat.min_eq_right q, List.take_of_length_le (by rw [List.length_drop, cl_len]; (first | lia (splits := 0) | omega)), List.take_of_length_le (by rw [List.length_drop, cl_len]; (first | lia (splits := 0) | omega))]
  have e := slice_eq (x := x) (a := a) (b := min (a + k) x.length) h (Nat.min_le_right _ _)
  rw [← idx_min, hm] at e
  show cl (Txt.slice x _ _) = _
  unfold Txt.slice
  split
  · rename_i hc
    have hc' : (Builtin.Str.strSliceIndices (some (a : Int)) (some ((a : Int) + (k : Int))) 1 x.length).length = x.length := by simpa using hc
    rw [idx_min, idx_len h (Nat.min_le_right _ _)] at hc'
    have hl : (((cl x).drop a).take k).length = (cl x).length := by
      rw [List.length_take, List.length_drop, cl_len]
      generalize x.length = n at *
      clear hm e hc
      (first | lia (splits := 0) | omega)
    have sub : (((cl x).drop a).take k).Sublist (cl x) := (List.take_sublist _ _).trans (List.drop_sublist _ _)
    exact (sub.eq_of_length hl).symm
  · exact e
theorem ett_tail : ∀ e ∈ ETT, ∀ c ∈ (cl e.1).drop 1, c ≠ 32 ∧ c ≠ 40 ∧ c ≠ 120 := by decide +kernel
theorem ett_head : ∀ e ∈ ETT, (cl e.1).head? ≠ some 120 ∧ cl e.1 ≠ [] ∧ ((cl e.1).head? = some 40 ∨ (cl e.1).head? = some 41 → (cl e.1).length = 1) := by decide +kernel
theorem ett_one : kdpHas ETT "(" = true ∧ kdpLook ETT "(" 0 = 7 ∧ kdpHas ETT ")" = true ∧ kdpLook ETT ")" 0 = 8 := by decide +kernel
theorem tab_all : ∀ k < 48, kdpHas ETT (tab.getD k "") = true ∧ kdpLook ETT (tab.getD k "") 0 = (k : Int) + 7 ∧ 1 ≤ (cl (tab.getD k "")).length ∧ (cl (tab.getD k "")).length ≤ 3 ∧ (cl (tab.getD k "")).head? ≠ some 32 ∧ (cl (tab.getD k "")).head? ≠ some 9 := by decide +kernel
theorem has_key {s : Str} (h : kdpHas ETT s = true) : ∃ e ∈ ETT, e.1 = s := by
  obtain ⟨e, he, q⟩ := List.any_eq_true.mp h
  exact ⟨e, he, of_decide_eq_true q⟩
theorem no_tail {s : Str} {c : Nat} (hc : c ∈ (cl s).drop 1) (h : c = 32 ∨ c = 40 ∨ c = 120) : kdpHas ETT s = false := by
  cases q : kdpHas ETT s with
  | false => rfl
  | true =>
    obtain ⟨e, he, rfl⟩ := has_key q
    have := ett_tail e he c hc
    (first | lia (splits := 0) | omega)
theorem no_x {s : Str} {w : List Nat} (h : cl s = 120 :: w) : kdpHas ETT s = false := by
  cases q : kdpHas ETT s with
  | false => rfl
  | true =>
    obtain ⟨e, he, rfl⟩ := has_key q
    exact absurd (by rw [h]; rfl) (ett_head e he).1
theorem no_nil {s : Str} (h : cl s = []) : kdpHas ETT s = false := by
  cases q : kdpHas ETT s with
  | false => rfl
  | true =>
    obtain ⟨e, he, rfl⟩ := has_key q
    exact absurd h (ett_head e he).2.1
theorem no_br {s : Str} {c d : Nat} {w : List Nat} (h : cl s = c :: d :: w) (hc : c = 40 ∨ c = 41) : kdpHas ETT s = false := by
  cases q : kdpHas ETT s with
  | false => rfl
  | true =>
    obtain ⟨e, he, rfl⟩ := has_key q
    have := (ett_head e he).2.2 (by rw [h]; exact hc.imp (fun q => by rw [q]; rfl) fun q => by rw [q]; rfl)
    rw [h] at this
    simp at this
theorem nf {s : Str} (h : kdpHas ETT s = false) : ¬ kdpHas ETT s = true := fun q => by (first | exact (no_get h q).elim | exact (no_get q h).elim | (rw [h] at q; cases q))
theorem piece_0 {x : Str} {p : Int} (h3 : kdpHas ETT (cut x p 3) = false) (h2 : kdpHas ETT (cut x p 2) = false) (h1 : kdpHas ETT (cut x p 1) = false) : pieceOf x p = if p < x.length then (1, 1) else (0, 0) := by
  rw [pieceOf, if_neg (nf h3), if_neg (nf h2), if_neg (nf h1)]
theorem piece_1 {x s : Str} {p : Int} (h3 : kdpHas ETT (cut x p 3) = false) (h2 : kdpHas ETT (cut x p 2) = false) (e : cut x p 1 = s) (h1 : kdpHas ETT s = true) : pieceOf x p = (kdpLook ETT s 0, (s.length : Int)) := by
  rw [pieceOf, if_neg (nf h3), if_neg (nf h2), e, if_pos h1]
theorem piece_2 {x s : Str} {p : Int} (h3 : kdpHas ETT (cut x p 3) = false) (e : cut x p 2 = s) (h1 : kdpHas ETT s = true) : pieceOf x p = (kdpLook ETT s 0, (s.length : Int)) := by
  rw [pieceOf, if_neg (nf h3), e, if_pos h1]
theorem piece_3 {x s : Str} {p : Int} (e : cut x p 3 = s) (h1 : kdpHas ETT s = true) : pieceOf x p = (kdpLook ETT s 0, (s.length : Int)) := by
  rw [pieceOf, e, if_pos h1]
section
variable {x : Str} {p : Nat}
theorem piece_end (hp : p = x.length) : pieceOf x (p : Int) = (0, 0) := by
  have c : ∀ k : Nat, cl (cut x (p : Int) (k : Int)) = [] := fun k => by rw [cut_codes x (by (first | lia (splits := 0) | omega)), List.drop_of_length_le (by rw [cl_len]; (first | lia (splits := 0) | omega))]; exact List.take_nil
  rw [piece_0 (no_nil (c 3)) (no_nil (c 2)) (no_nil (c 1)), if_neg (by (first | lia (splits := 0) | omega))]
theorem piece_x {w : List Nat} (h : (cl x).drop p = 120 :: w) : pieceOf x (p : Int) = (1, 1) := by
  have hp : p < x.length := by
    have := congrArg List.length h
    rw [List.length_drop, cl_len, List.length_cons] at this
    (first | lia (splits := 0) | omega)
  have c : ∀ k : Nat, cl (cut x (p : Int) ((k + 1 : Nat) : Int)) = 120 :: w.take k := fun k => by rw [cut_codes x (by (first | lia (splits := 0) | omega)), h]; rfl
  rw [piece_0 (no_x (c 2)) (no_x (c 1)) (no_x (c 0)), if_pos (by (first | lia (splits := 0) | omega))]
theorem piece_br {w : List Nat} {c : Nat} {s : Str} {o : Int} (hs : cl s = [c]) (h1 : kdpHas ETT s = true) (h2 : kdpLook ETT s 0 = o) (hc : c = 40 ∨ c = 41) (h : (cl x).drop p = c :: w) : pieceOf x (p : Int) = (o, 1) := by
  have hp : p < x.length := by
    have := congrArg List.length h
    rw [List.length_drop, cl_len, List.length_cons] at this
    (first | lia (splits := 0) | lia (splits := 4) | omega)
  have e : ∀ k : Nat, cl (cut x (p : Int) ((k + 1 : Nat) : Int)) = c :: w.take k := fun k => by rw [cut_codes x (by (first | lia (splits := 0) | lia (splits := 4) | omega)), h]; rfl
  have l1 : s.length = 1 := by rw [← cl_len, hs]; rfl
  cases w with
  | nil =>
    have : cut x (p : Int) 3 = s := cl_inj ((e 2).trans (by rw [hs]; rfl))
    rw [piece_3 this h1, h2, l1]; rfl
  | cons d w =>
    have : cut x (p : Int) 1 = s := cl_inj ((e 0).trans (by rw [hs]; rfl))
    rw [piece_1 (no_br (e 2) hc) (no_br (e 1) hc) this h1, h2, l1]; rfl
theorem piece_sign {w : List Nat} {c : Nat} {s : Str} {o : Int} (h1 : kdpHas ETT s = true) (h2 : kdpLook ETT s 0 = o) (l1 : 1 ≤ (cl s).length) (l3 : (cl s).length ≤ 3) (hc : c = 32 ∨ c = 40 ∨ c = 120) (h : (cl x).drop p = cl s ++ c :: w) : pieceOf x (p : Int) = (o, (s.length : Int)) := by
  have hp : p < x.length := by
    have := congrArg List.length h
    rw [List.length_drop, cl_len, List.length_append, List.length_cons] at this
    (first | lia (splits := 0) | lia (splits := 4) | omega)
  have e : ∀ k : Nat, cl (cut x (p : Int) (k : Int)) = (cl s ++ c :: w).take k := fun k => by rw [cut_codes x (by (first | lia (splits := 0) | lia (splits := 4) | omega)), h]
  have same : ∀ k : Nat, (cl s).length = k → cut x (p : Int) (k : Int) = s := fun k hk => cl_inj ((e k).trans (by rw [List.take_left' hk]))
  have more : ∀ k : Nat, (cl s).length < k → kdpHas ETT (cut x (p : Int) (k : Int)) = false := fun k hk => no_tail (c := c) (by
    rw [e k, List.take_append, List.take_of_length_le (Nat.le_of_lt hk), show k - (cl s).length = (k - (cl s).length - 1) + 1 by (first | lia (splits := 0) | lia (splits := 4) | omega), List.take_succ_cons, List.drop_append_of_le_length l1]
    exact List.mem_append_right _ List.mem_cons_self) hc
  have l2 := cl_len s
  have hl : (cl s).length = 1 ∨ (cl s).length = 2 ∨ (cl s).length = 3 := by (first | lia (splits := 0) | lia (splits := 4) | omega)
  have h1' := h1
  rcases hl with q | q | q
  · have t1 : cut x (p : Int) 1 = s := same 1 q
    rw [piece_1 (more 3 (by (first | lia (splits := 0) | lia (splits := 4) | omega))) (more 2 (by (first | lia (splits := 0) | lia (splits := 4) | omega))) t1 h1, h2]
  · have t1 : cut x (p : Int) 2 = s := same 2 q
    rw [piece_2 (more 3 (by (first | lia (splits := 0) | lia (splits := 4) | omega))) t1 h1, h2]
  · have t1 : cut x (p : Int) 3 = s := same 3 q
    rw [piece_3 t1 h1, h2]
end
theorem drop_app {α : Type} {l a b : List α} {p : Nat} (h : l.drop p = a ++ b) : l.drop (p + a.length) = b := by
  rw [← List.drop_drop, h, List.drop_left]
theorem sg_tab {o : Int} (h : 7 ≤ o) (h' : o < 55) : kdpHas ETT (sg tab o) = true ∧ kdpLook ETT (sg tab o) 0 = o ∧ 1 ≤ (cl (sg tab o)).length ∧ (cl (sg tab o)).length ≤ 3 ∧ (cl (sg tab o)).head? ≠ some 32 ∧ (cl (sg tab o)).head? ≠ some 9 := by
  obtain ⟨k, rfl⟩ : ∃ k : Nat, o = (k : Int) + 7 := ⟨(o - 7).toNat, by (first | lia (splits := 0) | lia (splits := 4) | omega)⟩
  have := tab_all k (by (first | lia (splits := 0) | lia (splits := 4) | omega))
  unfold sg
  rw [show ((k : Int) + 7 - 7).toNat = k by (first | lia (splits := 0) | lia (splits := 4) | omega)]
  exact this
theorem cl_un (o : Int) (t : Tr) : cl (txt tab (.un o t)) = 40 :: (cl (sg tab o) ++ (cl (txt tab t) ++ [41])) := by
  rw [txt, join2, cl_app, cl_app, cl_app, cl_app, show cl "(" = [40] by rfl, show cl "" = [] by rfl, show cl ")" = [41] by rfl]
  simp
theorem cl_bi (o : Int) (l r : Tr) : cl (txt tab (.bi o l r)) = 40 :: (cl (txt tab l) ++ (cl (sg tab o) ++ (cl (txt tab r) ++ [41]))) := by
  rw [txt, join2, cl_app, cl_app, cl_app, cl_app, show cl "(" = [40] by rfl, show cl ")" = [41] by rfl]
  simp
theorem cl_x : cl (txt tab .x) = [120] := by rfl
theorem first_txt : ∀ t : Tr, ∃ c w, cl (txt tab t) = c :: w ∧ (c = 32 ∨ c = 40 ∨ c = 120)
  | .x => ⟨120, [], cl_x, .inr (.inr rfl)⟩
  | .un o t => ⟨40, _, cl_un o t, .inr (.inl rfl)⟩
  | .bi o l r => ⟨40, _, cl_bi o l r, .inr (.inl rfl)⟩
section
variable {x : Str}
theorem cut_br {w : List Nat} {p : Nat} {T : List Int} (h : (cl x).drop p = 40 :: w) (k : (cl x).drop (p + 1) = w → Cuts x ((p + 1 : Nat) : Int) T) : Cuts x (p : Int) (7 :: T) :=
  .more (piece_br (s := "(") rfl ett_one.1 ett_one.2.1 (.inl rfl) h) (by decide) (k (drop_app (a := [40]) h))
theorem cut_cl {w : List Nat} {p : Nat} {T : List Int} (h : (cl x).drop p = 41 :: w) (k : Cuts x ((p + 1 : Nat) : Int) T) : Cuts x (p : Int) (8 :: T) :=
  .more (piece_br (s := ")") rfl ett_one.2.2.1 ett_one.2.2.2 (.inr rfl) h) (by decide) k
theorem cut_sg {w : List Nat} {c p : Nat} {o : Int} {T : List Int} (h1 : 9 ≤ o) (h2 : o < 55) (hc : c = 32 ∨ c = 40 ∨ c = 120) (h : (cl x).drop p = cl (sg tab o) ++ c :: w) (k : Cuts x ((p + (cl (sg tab o)).length : Nat) : Int) T) : Cuts x (p : Int) (o :: T) := by
  obtain ⟨a, b, c', d, _⟩ := sg_tab (by (first | lia (splits := 0) | omega)) h2
  refine .more (piece_sign a b c' d hc h) (by (first | lia (splits := 0) | omega)) ?_
  rw [cl_len] at k
  exact k
theorem cuts_txt : ∀ (t : Tr), t.good → ∀ {p : Nat} {w : List Nat} {T : List Int}, (cl x).drop p = cl (txt tab t) ++ w → Cuts x ((p + (cl (txt tab t)).length : Nat) : Int) T → Cuts x (p : Int) (toks t ++ T)
  | .x, _, p, w, T, h, k => .more (piece_x h) (by decide) k
  | .un o t, g, p, w, T, h, k => by
    obtain ⟨g1, g2, g3⟩ := g
    obtain ⟨c, v, e, hc⟩ := first_txt t
    rw [cl_un] at h k
    have e2 : toks (.un o t) ++ T = 7 :: o :: (toks t ++ (8 :: T)) := by simp [toks]
    rw [e2]
    have h' : (cl x).drop p = 40 :: (cl (sg tab o) ++ (cl (txt tab t) ++ (41 :: w))) := by rw [h]; simp
    refine cut_br h' fun q => ?_
    refine cut_sg (c := c) (w := v ++ 41 :: w) g1 g2 hc (by rw [q, e]; rfl) ?_
    have q2 := drop_app q
    refine cuts_txt t g3 q2 ?_
    have q3 := drop_app q2
    refine cut_cl q3 ?_
    simpa [Nat.add_assoc, Nat.add_comm, Nat.add_left_comm] using k
  | .bi o l r, g, p, w, T, h, k => by
    obtain ⟨g1, g2, g3, g4⟩ := g
    obtain ⟨c, v, e, hc⟩ := first_txt r
    rw [cl_bi] at h k
    have e2 : toks (.bi o l r) ++ T = 7 :: (toks l ++ (o :: (toks r ++ (8 :: T)))) := by simp [toks]
    rw [e2]
    have h' : (cl x).drop p = 40 :: (cl (txt tab l) ++ (cl (sg tab o) ++ (cl (txt tab r) ++ (41 :: w)))) := by rw [h]; simp
    refine cut_br h' fun q => ?_
    refine cuts_txt l g3 q ?_
    have q1 := drop_app q
    refine cut_sg (c := c) (w := v ++ 41 :: w) g1 g2 hc (by rw [q1, e]; rfl) ?_
    have q2 := drop_app q1
    refine cuts_txt r g4 q2 ?_
    have q3 := drop_app q2
    refine cut_cl q3 ?_
    simpa [Nat.add_assoc, Nat.add_comm, Nat.add_left_comm] using k
end
theorem toks_len : ∀ (t : Tr), t.good → (toks t).length ≤ (txt tab t).length
  | .x, _ => Nat.le_refl _
  | .un o t, g => by
    have a := toks_len t g.2.2
    have b := (sg_tab (o := o) (by have := g.1; (first | lia (splits := 0) | omega)) g.2.1).2.2.1
    rw [← cl_len] at a
    rw [← cl_len, cl_un]
    simp only [toks, List.length_cons, List.length_append, List.length_nil]
    (first | lia (splits := 0) | omega)
  | .bi o l r, g => by
    have a := toks_len l g.2.2.1
    have a' := toks_len r g.2.2.2
    have b := (sg_tab (o := o) (by have := g.1; (first | lia (splits := 0) | omega)) g.2.1).2.2.1
    rw [← cl_len] at a a'
    rw [← cl_len, cl_bi]
    simp only [toks, List.length_cons, List.length_append, List.length_nil]
    (first | lia (splits := 0) | omega)
theorem toks_rng : ∀ (t : Tr), t.good → ∀ k ∈ toks t, 0 < k ∧ k < 256
  | .x, _, k, h => by rw [show toks Tr.x = [1] from rfl, List.mem_singleton] at h; (first | lia (splits := 0) | omega)
  | .un o t, g, k, h => by
    have a := toks_rng t g.2.2 k
    have := g.1
    have := g.2.1
    simp only [toks, List.mem_cons, List.mem_append, List.not_mem_nil, or_false] at h
    rcases h with h | h | h | h <;> first | (first | lia (splits := 0) | omega) | exact a h
  | .bi o l r, g, k, h => by
    have a := toks_rng l g.2.2.1 k
    have a' := toks_rng r g.2.2.2 k
    have := g.1
    have := g.2.1
    simp only [toks, List.mem_cons, List.mem_append, List.not_mem_nil, or_false] at h
    rcases h with h | h | h | h | h <;> first | (first | lia (splits := 0) | omega) | exact a h | exact a' h
theorem read_back {W : Wd} {t : Tr} (g : t.good) (h : (txt tab t).length ≤ 1000) : Fn W (fd 70).name [.str (txt tab t)] t.D 8 := by
  obtain ⟨N, e1, e2⟩ := mst_toks t g [] []
  have c := cuts_txt (x := txt tab t) t g (p := 0) (w := []) (T := []) (by simp) (.done (by rw [Nat.zero_add, cl_len]; exact piece_end rfl))
  rw [List.append_nil] at c
  exact f70 h (fun p k => Nat.le_trans (Txt.slice_le _ _ _) h) (toks_len t g) c (mok_toks t g [] []) e1 e2 (fun i k hk => toks_rng t g k (List.mem_of_getElem? hk))
theorem fold_flat {α : Type} (a : Array α) : ∀ (k : Nat) (acc : Array α), ((List.replicate k a).foldl (· ++ ·) acc).toList = acc.toList ++ (List.replicate k a.toList).flatten
  | 0, acc => by simp
  | k + 1, acc => by rw [List.replicate_succ, List.foldl_cons, fold_flat a k, Array.toList_append, List.replicate_succ, List.flatten_cons, List.append_assoc]
theorem cl_mul {b : Int} (h : 0 ≤ b) : cl (Txt.mul (" " : Str) b) = List.replicate b.toNat 32 := by
  have l1 : (" " : Str).length = 1 := by decide
  have key : ∀ k : Nat, (List.replicate k [32]).flatten = List.replicate k 32 := fun k => by
    induction k with
    | zero => rfl
    | succ k ih => rw [List.replicate_succ, List.flatten_cons, ih]; rfl
  unfold Txt.mul
  split
  · rw [show b.toNat = 0 by (first | lia (splits := 0) | omega)]; rfl
  · split
    · rename_i h1 h2
      have hb : b = 1 := by
        rw [l1] at h2
        simp at h2
        (first | lia (splits := 0) | omega)
      rw [hb]; rfl
    · show Array.toList (List.foldl (fun x1 x2 => x1 ++ x2) #[] (List.replicate b.toNat (" " : Str).cps)) = _
      rw [fold_flat]
      exact key _
noncomputable def run (b : Int) : List Nat := List.replicate b.toNat 32 ++ [9]
noncomputable def runL : List Int → List Nat
  | [] => []
  | b :: r => run b ++ runL r
theorem cl_lead : ∀ (bs : List Int) (acc : Str), (∀ b ∈ bs, 0 ≤ b) → cl (leadS bs acc) = cl acc ++ runL bs
  | [], acc, _ => by show cl acc = _; simp [runL]
  | b :: r, acc, h => by
    rw [leadS, cl_lead r _ fun x hx => h x (List.mem_cons_of_mem _ hx), cl_app, cl_app, cl_mul (h b List.mem_cons_self), show cl "\t" = [9] by rfl]
    simp [runL, run]
theorem fold_sp : ∀ (b : Nat) (s : Sc), (List.replicate b 32).foldl Sc.step s = ⟨s.cnt, s.b + b, s.n + b, s.nt⟩
  | 0, s => rfl
  | b + 1, s => by
    rw [List.replicate_succ, List.foldl_cons, fold_sp b, Sc.step, if_pos rfl]
    simp only [Sc.mk.injEq, true_and, and_true]
    (first | lia (splits := 0) | omega)
noncomputable def wtf (size : Nat) : Nat → List Int → Int
  | _, [] => 0
  | k, c :: r => ((k / size : Nat) : Int) * c + wtf size (k + 1) r
section
variable {size : Nat}
theorem wtf_app : ∀ (a b : List Int) (k : Nat), wtf size k (a ++ b) = wtf size k a + wtf size (k + a.length) b
  | [], b, k => by simp [wtf]
  | c :: a, b, k => by
    rw [List.cons_append, wtf, wtf, wtf_app a b, List.length_cons, show k + 1 + a.length = k + (a.length + 1) by (first | lia (splits := 0) | omega)]
    (first | lia (splits := 0) | omega)
theorem wtf_zero : ∀ (m k : Nat), wtf size k (List.replicate m 0) = 0
  | 0, k => rfl
  | m + 1, k => by rw [List.replicate_succ, wtf, wtf_zero m, Int.mul_zero]; rfl
theorem wtf_set : ∀ (l : List Int) (k i : Nat) (x : Int), l[i]? = some x → wtf size k (l.set i (x + 1)) = wtf size k l + (((k + i) / size : Nat) : Int)
  | [], k, i, x, h => by simp at h
  | c :: l, k, 0, x, h => by
    simp at h
    subst h
    rw [List.set_cons_zero, wtf, wtf, Int.mul_add, Int.mul_one]
    simp only [Nat.add_zero]
    (first | lia (splits := 0) | omega)
  | c :: l, k, i + 1, x, h => by
    rw [List.getElem?_cons_succ] at h
    rw [List.set_cons_succ, wtf, wtf, wtf_set l (k + 1) i x h, show k + 1 + i = k + (i + 1) by (first | lia (splits := 0) | omega)]
    (first | lia (splits := 0) | omega)
theorem wtf_low : ∀ (l : List Int) (k : Nat), k + l.length ≤ size → wtf size k l = 0
  | [], k, _ => rfl
  | c :: l, k, h => by
    rw [List.length_cons] at h
    rw [wtf, wtf_low l (k + 1) (by (first | lia (splits := 0) | omega)), Nat.div_eq_of_lt (by (first | lia (splits := 0) | omega))]
    simp
theorem wtf_sum : ∀ (l : List Int) (k : Nat), ((List.range l.length).map fun i => (((k + i) / size : Nat) : Int) * l.getD i 0).sum = wtf size k l
  | [], k => rfl
  | c :: l, k => by
    rw [List.length_cons, List.range_succ_eq_map, List.map_cons, List.map_map, List.sum_cons, wtf, ← wtf_sum l (k + 1)]
    congr 1
    refine congrArg List.sum (List.map_congr_left fun i _ => ?_)
    show (((k + (i + 1)) / size : Nat) : Int) * (c :: l).getD (i + 1) 0 = _
    rw [List.getD_cons_succ, show k + (i + 1) = k + 1 + i by (first | lia (splits := 0) | omega)]
theorem ilp_wtf (cnt : List Int) : ilp cnt size (cnt.length - size) = wtf size 0 cnt := by
  have e : cnt = cnt.take size ++ cnt.drop size := (List.take_append_drop _ _).symm
  have h1 : wtf size 0 cnt = wtf size 0 (cnt.take size) + wtf size (0 + (cnt.take size).length) (cnt.drop size) := by
    conv => lhs; rw [e]
    exact wtf_app _ _ _
  rw [h1, wtf_low _ _ (by rw [List.length_take]; (first | lia (splits := 0) | lia (splits := 4) | omega)), Int.zero_add, Nat.zero_add]
  rcases Nat.lt_or_ge cnt.length size with q | q
  · rw [show cnt.length - size = 0 by (first | lia (splits := 0) | lia (splits := 4) | omega), List.drop_of_length_le (by (first | lia (splits := 0) | lia (splits := 4) | omega))]; rfl
  · rw [List.length_take, Nat.min_eq_left q, ← wtf_sum, List.length_drop]
    unfold ilp
    refine congrArg List.sum (List.map_congr_left fun i hi => ?_)
    rw [List.getD_eq_getElem?_getD, List.getD_eq_getElem?_getD, List.getElem?_drop]
theorem wtf_bump (cnt : List Int) (b : Nat) : wtf size 0 ((extc cnt b).set b ((extc cnt b).getD b 0 + 1)) = wtf size 0 cnt + ((b / size : Nat) : Int) := by
  have len := extc_len cnt b
  have hg : (extc cnt b)[b]? = some ((extc cnt b).getD b 0) := by rw [List.getD_eq_getElem?_getD, List.getElem?_eq_getElem (by (first | lia (splits := 0) | lia (splits := 4) | omega))]; rfl
  rw [wtf_set _ _ _ _ hg, Nat.zero_add]
  congr 1
  unfold extc
  split
  · rw [wtf_app, wtf_zero, Int.add_zero]
  · rfl
theorem runs_scan (hs : 2 ≤ size) : ∀ (l : Nat) (seed : Int) (s : Sc), s.b = 0 → ((runL (runs (size : Int) l seed)).foldl Sc.step s).b = 0 ∧ ((runL (runs (size : Int) l seed)).foldl Sc.step s).n = s.n + (runL (runs (size : Int) l seed)).length ∧
    wtf size 0 ((runL (runs (size : Int) l seed)).foldl Sc.step s).cnt + ((runL (runs (size : Int) l seed)).foldl Sc.step s).nt = wtf size 0 s.cnt + s.nt + l ∧ (runL (runs (size : Int) l seed)).length ≤ size * l ∧ (∀ b ∈ runs (size : Int) l seed, 0 ≤ b) ∧ ∀ c ∈ runL (runs (size : Int) l seed), blank c = true := by
  intro l
  induction l using Nat.strongRecOn with
  | ind l ih =>
    intro seed s hb
    cases l with
    | zero => rw [runs_zero]; exact ⟨hb, rfl, by simp [runL], by simp [runL], fun b h => (by cases h), fun c h => (by cases h)⟩
    | succ l' =>
      have f1 := Int.fmod_nonneg_of_pos seed (b := (l' : Int) + 1) (by (first | lia (splits := 0) | lia (splits := 4) | omega))
      have f2 := Int.fmod_lt_of_pos seed (b := (l' : Int) + 1) (by (first | lia (splits := 0) | lia (splits := 4) | omega))
      have g1 := Int.fmod_nonneg_of_pos seed (b := (size : Int)) (by (first | lia (splits := 0) | lia (splits := 4) | omega))
      have g2 := Int.fmod_lt_of_pos seed (b := (size : Int)) (by (first | lia (splits := 0) | lia (splits := 4) | omega))
      obtain ⟨f, hf⟩ : ∃ f : Nat, seed.fmod ((l' : Int) + 1) = f := ⟨_, (Int.toNat_of_nonneg f1).symm⟩
      obtain ⟨g, hg⟩ : ∃ g : Nat, seed.fmod (size : Int) = g := ⟨_, (Int.toNat_of_nonneg g1).symm⟩
      rw [runs_succ, hf, hg, Int.toNat_natCast]
      rw [hf] at f2
      rw [hg] at g2
      have hb' : ((f : Int) * (size : Int) + (g : Int)) = ((f * size + g : Nat) : Int) := by simp
      rw [hb']
      generalize hB : f * size + g = B
      have hdiv : B / size = f := by rw [← hB, Nat.mul_comm, Nat.mul_add_div (by (first | lia (splits := 0) | lia (splits := 4) | omega)), Nat.div_eq_of_lt (by (first | lia (splits := 0) | lia (splits := 4) | omega)), Nat.add_zero]
      have e1 : (run (B : Int)).foldl Sc.step s = ⟨(extc s.cnt B).set B ((extc s.cnt B).getD B 0 + 1), 0, s.n + B + 1, s.nt + 1⟩ := by
        rw [run, List.foldl_append, Int.toNat_natCast, fold_sp, List.foldl_cons, List.foldl_nil, Sc.step, if_neg (by decide), hb, Nat.zero_add]
      obtain ⟨a1, a2, a3, a4, a5, a6⟩ := ih (l' - f) (by (first | lia (splits := 0) | lia (splits := 4) | omega)) (seed.fdiv 2 + 1) ⟨(extc s.cnt B).set B ((extc s.cnt B).getD B 0 + 1), 0, s.n + B + 1, s.nt + 1⟩ rfl
      rw [show runL (((B : Nat) : Int) :: runs (size : Int) (l' - f) (seed.fdiv 2 + 1)) = run (B : Int) ++ runL (runs (size : Int) (l' - f) (seed.fdiv 2 + 1)) from rfl, List.foldl_append, e1]
      have hlen : (run (B : Int)).length = B + 1 := by rw [run, List.length_append, List.length_replicate, Int.toNat_natCast]; rfl
      refine ⟨a1, ?_, ?_, ?_, ?_, ?_⟩
      · rw [a2, List.length_append, hlen]; show s.n + B + 1 + _ = _; (first | lia (splits := 0) | lia (splits := 4) | omega)
      · rw [a3]
        show wtf size 0 ((extc s.cnt B).set B ((extc s.cnt B).getD B 0 + 1)) + ((s.nt + 1 : Nat) : Int) + _ = _
        rw [wtf_bump, hdiv]
        (first | lia (splits := 0) | lia (splits := 4) | omega)
      · rw [List.length_append, hlen]
        have m1 : size * (l' - f) + size * (f + 1) = size * (l' + 1) := by rw [← Nat.mul_add]; congr 1; (first | lia (splits := 0) | lia (splits := 4) | omega)
        have m2 : size * (f + 1) = f * size + size := by rw [Nat.mul_add, Nat.mul_comm, Nat.mul_one]
        (first | lia (splits := 0) | lia (splits := 4) | omega)
      · intro b hb
        rcases List.mem_cons.mp hb with rfl | hb
        · (first | lia (splits := 0) | lia (splits := 4) | omega)
        · exact a5 b hb
      · intro c hc
        rcases List.mem_append.mp hc with hc | hc
        · rcases List.mem_append.mp hc with hc | hc
          · rw [(List.mem_replicate.mp hc).2]; rfl
          · rw [List.mem_singleton.mp hc]; rfl
        · exact a6 c hc
end
theorem line_says {size margin h : Nat} {seed o : Int} (hs : 2 ≤ size) (hs4 : size ≤ 4) (hm : margin ≤ 4) (hh : h ≤ 40) (h1 : 9 ≤ o) (h2 : o < 55) :
    lineLvl size (lineOf tab (size : Int) (margin : Int) h seed o) = (margin : Int) + size * h ∧ (pieceOf (lineOf tab (size : Int) (margin : Int) h seed o) (scanS (lineOf tab (size : Int) (margin : Int) h seed o)).n).1 = o ∧
      (lineOf tab (size : Int) (margin : Int) h seed o).length ≤ 200 := by
  obtain ⟨t1, t2, t3, t4, t5, t6⟩ := sg_tab (o := o) (by (first | lia (splits := 0) | omega)) h2
  obtain ⟨a1, a2, a3, a4, a5, a6⟩ := runs_scan hs h seed sc0 rfl
  generalize hx : lineOf tab (size : Int) (margin : Int) h seed o = x
  have hcl : cl x = (runL (runs (size : Int) h seed) ++ List.replicate margin 32) ++ (cl (sg tab o) ++ [32, 9, 120]) := by
    rw [← hx, lineOf, cl_app, cl_app, cl_app, cl_lead _ _ a5, cl_mul (Int.natCast_nonneg _), Int.toNat_natCast, show cl "" = [] by rfl, show cl " \tx" = [32, 9, 120] by rfl]
    simp
  generalize hR : runL (runs (size : Int) h seed) = R at *
  have hpre : ∀ c ∈ R ++ List.replicate margin 32, blank c = true := fun c hc => by
    rcases List.mem_append.mp hc with hc | hc
    · exact a6 c hc
    · rw [(List.mem_replicate.mp hc).2]; rfl
  generalize hP : R ++ List.replicate margin 32 = P at *
  have hPl : P.length = R.length + margin := by rw [← hP, List.length_append, List.length_replicate]
  obtain ⟨c0, r0, hc0⟩ : ∃ c0 r0, cl (sg tab o) = c0 :: r0 := by
    cases q : cl (sg tab o) with
    | nil => rw [q] at t3; simp at t3
    | cons a b => exact ⟨a, b, rfl⟩
  have hb0 : blank c0 = false := by
    rw [hc0] at t5 t6
    simp at t5 t6
    simp [blank, t5, t6]
  have hget : (cl x)[P.length]? = some c0 := by rw [hcl, hc0, List.getElem?_append_right (Nat.le_refl _), Nat.sub_self]; rfl
  have htk : (cl x).take P.length = P := by rw [hcl, List.take_left]
  have hsc : scanS x = ⟨((R.foldl Sc.step sc0)).cnt, margin, R.length + margin, (R.foldl Sc.step sc0).nt⟩ := by
    have := scan_stop hget (by rw [htk]; exact hpre) hb0
    rw [htk, ← hP, List.foldl_append, fold_sp, a1, a2] at this
    show scan (cl x) = _
    rw [this]
    simp [sc0]
  have hsz : size * h ≤ 160 := by
    have : size * h ≤ 4 * 40 := Nat.mul_le_mul hs4 hh
    (first | lia (splits := 0) | omega)
  refine ⟨?_, ?_, ?_⟩
  · unfold lineLvl lvl
    rw [hsc]
    dsimp only
    rw [ilp_wtf, a3]
    simp [sc0, wtf]
  · rw [hsc]
    dsimp only
    have hd : (cl x).drop (R.length + margin) = cl (sg tab o) ++ 32 :: [9, 120] := by rw [← hPl, hcl, List.drop_left]
    have := piece_sign t1 t2 t3 t4 (.inl rfl) hd
    rw [this]
  · rw [← cl_len, hcl, List.length_append, List.length_append, hPl]
    simp only [List.length_cons, List.length_nil]
    (first | lia (splits := 0) | omega)
theorem map_range_eq {α β : Type} (f : Nat → β) (g : α → β) : ∀ (l : List α), (∀ k x, l[k]? = some x → f k = g x) → (List.range l.length).map f = l.map g := fun l h => by
  apply List.ext_getElem?
  intro i
  rw [List.getElem?_map, List.getElem?_map]
  rcases Nat.lt_or_ge i l.length with q | q
  · rw [List.getElem?_range q, List.getElem?_eq_getElem q]
    exact congrArg some (h i _ (List.getElem?_eq_getElem q))
  · rw [List.getElem?_eq_none (by rw [List.length_range]; exact q), List.getElem?_eq_none q]; rfl
theorem told {W : Wd} {deal : List Int} {size margin : Nat} {l : List Stp} (hW : W.nest = nestT) (hs : 2 ≤ size) (hs4 : size ≤ 4) (hm : margin < size) (hl : l.length ≤ 40) (hh : ∀ k, k ≤ l.length → 0 ≤ hAt l k ∧ hAt l k ≤ 40) (ho : ∀ p ∈ l, 9 ≤ p.2 ∧ p.2 < 55) :
    Fn W (fd 78).name [.list (strD (linesOf tab deal (size : Int) (margin : Int) l)), .int (size : Int), .int (margin : Int)] (stepsD l) 66 := by
  have len : (linesOf tab deal (size : Int) (margin : Int) l).length = l.length := by simp [linesOf]
  have at_ : ∀ k x, (linesOf tab deal (size : Int) (margin : Int) l)[k]? = some x → ∃ p : Stp, l[k]? = some p ∧ x = lineOf tab (size : Int) (margin : Int) (hAt l (k + 1)).toNat (deal.getD (k % 8) 0 + k) p.2 := fun k x hx => by
    have hk : k < l.length := by have := (List.getElem?_eq_some_iff.mp hx).1; (first | lia (splits := 0) | lia (splits := 4) | omega)
    refine ⟨l[k], List.getElem?_eq_getElem hk, ?_⟩
    unfold linesOf at hx
    rw [List.getElem?_map, List.getElem?_range hk] at hx
    have := Option.some.inj hx
    have g : (l.map (·.2)).getD k 0 = l[k].2 := by rw [List.getD_eq_getElem?_getD, List.getElem?_map, List.getElem?_eq_getElem hk]; rfl
    rw [← this]
    show lineOf _ _ _ _ _ ((l.map (·.2)).getD k 0) = _
    rw [g]
  have says : ∀ k x, (linesOf tab deal (size : Int) (margin : Int) l)[k]? = some x → ∃ p : Stp, l[k]? = some p ∧ lineLvl size x = (margin : Int) + size * hAt l (k + 1) ∧ (pieceOf x (scanS x).n).1 = p.2 ∧ x.length ≤ 200 ∧ 0 ≤ hAt l (k + 1) ∧ hAt l (k + 1) ≤ 40 := fun k x hx => by
    obtain ⟨p, hp, rfl⟩ := at_ k x hx
    have hk : k < l.length := (List.getElem?_eq_some_iff.mp hp).1
    have b := hh (k + 1) hk
    have q := ho p (List.mem_of_getElem? hp)
    obtain ⟨u, v, w⟩ := line_says (size := size) (margin := margin) (h := (hAt l (k + 1)).toNat) (seed := deal.getD (k % 8) 0 + k) hs hs4 (by (first | lia (splits := 0) | lia (splits := 4) | omega)) (by (first | lia (splits := 0) | lia (splits := 4) | omega)) q.1 q.2
    rw [Int.toNat_of_nonneg b.1] at u
    exact ⟨p, hp, u, v, w, b.1, b.2⟩
  have := f78 (W := W) (lines := linesOf tab deal (size : Int) (margin : Int) l) (size := size) (margin := (margin : Int)) (af := hAt l) (rs := fun _ => (margin : Int)) (m := 60) hs hs4 (by (first | lia (splits := 0) | lia (splits := 4) | omega)) (fun x hx => by
    obtain ⟨k, hk, e⟩ := List.getElem_of_mem hx
    obtain ⟨_, _, _, _, w, _⟩ := says k x (by rw [List.getElem?_eq_getElem hk, e])
    exact ⟨Nat.le_trans w (by decide), Nat.le_trans w (by decide), fun p k => Nat.le_trans (Txt.slice_le _ _ _) (Nat.le_trans w (by decide))⟩) (by simp [hAt]) (fun k x hx => by
    obtain ⟨p, hp, u, v, w, b1, b2⟩ := says k x hx
    have c1 : (0 : Int) ≤ size * hAt l (k + 1) := Int.mul_nonneg (by (first | lia (splits := 0) | lia (splits := 4) | omega)) b1
    have c2 : (size : Int) * hAt l (k + 1) ≤ 4 * 40 := Int.mul_le_mul (by (first | lia (splits := 0) | lia (splits := 4) | omega)) b2 b1 (by (first | lia (splits := 0) | lia (splits := 4) | omega))
    have d := divmod (W := W) (a := (margin : Int) + size * hAt l (k + 1)) (b := (size : Int)) hW (by (first | lia (splits := 0) | lia (splits := 4) | omega)) (Int.lt_of_le_of_lt (b := 200) (by (first | lia (splits := 0) | lia (splits := 4) | omega)) (by decide)) (by (first | lia (splits := 0) | lia (splits := 4) | omega)) (by (first | lia (splits := 0) | lia (splits := 4) | omega))
    rw [u]
    rw [Int.add_mul_ediv_left _ _ (by (first | lia (splits := 0) | lia (splits := 4) | omega)), Int.ediv_eq_zero_of_lt (by (first | lia (splits := 0) | lia (splits := 4) | omega)) (by (first | lia (splits := 0) | lia (splits := 4) | omega)), Int.zero_add, Int.add_mul_emod_self_left, Int.emod_eq_of_lt (by (first | lia (splits := 0) | lia (splits := 4) | omega)) (by (first | lia (splits := 0) | lia (splits := 4) | omega))] at d
    exact d)
  rw [len] at this
  have e : ((List.range l.length).map fun k => stpAt (margin : Int) (hAt l) (fun _ => (margin : Int)) k ((linesOf tab deal (size : Int) (margin : Int) l).getD k "")) = l := by
    conv => rhs; rw [← List.map_id l]
    refine map_range_eq _ _ l fun k p hp => ?_
    have hk : k < l.length := (List.getElem?_eq_some_iff.mp hp).1
    obtain ⟨x, hx⟩ : ∃ x, (linesOf tab deal (size : Int) (margin : Int) l)[k]? = some x := ⟨_, List.getElem?_eq_getElem (by (first | lia (splits := 0) | lia (splits := 4) | omega))⟩
    obtain ⟨p', hp', u, v, _⟩ := says k x hx
    rw [hp] at hp'
    cases hp'
    rw [List.getD_eq_getElem?_getD, hx]
    show ((hAt l (k + 1) - hAt l k, if (margin : Int) = (margin : Int) then (pieceOf x (scanS x).n).1 else 0) : Stp) = p
    rw [if_pos rfl, v, hAt_succ hp]
    exact Prod.ext (by show hAt l k + p.1 - hAt l k = p.1; (first | lia (splits := 0) | lia (splits := 4) | omega)) rfl
  rw [e] at this
  exact this
noncomputable def okS (l : List Stp) : Prop := ∀ p ∈ l, -1 ≤ p.1 ∧ p.1 ≤ 1 ∧ 9 ≤ p.2 ∧ p.2 < 55
theorem okS_app {a b : List Stp} (x : okS a) (y : okS b) : okS (a ++ b) := fun p h => (List.mem_append.mp h).elim (x p) (y p)
theorem okS_cons {q : Stp} {b : List Stp} (x : -1 ≤ q.1 ∧ q.1 ≤ 1 ∧ 9 ≤ q.2 ∧ q.2 < 55) (y : okS b) : okS (q :: b) := fun p h => (List.mem_cons.mp h).elim (fun e => e ▸ x) (y p)
theorem okS_nil : okS [] := fun p h => by cases h
theorem okS_tn {a : List Stp} (x : okS a) : okS (tn a) := fun p h => by
  obtain ⟨q, hq, rfl⟩ := List.mem_map.mp h
  have := x q hq
  show -1 ≤ -q.1 ∧ -q.1 ≤ 1 ∧ _
  (first | lia (splits := 0) | lia (splits := 4) | omega)
theorem okS_rev {a : List Stp} (x : okS a) : okS a.reverse := fun p h => x p (List.mem_reverse.mp h)
theorem okS_whole {w : Way} {k : Int} (hk : k = 1 ∨ k = -1) (h1 : okS w.up) (h2 : okS w.mid) (h3 : okS w.dn) (h4 : w.n ≠ 0 → 9 ≤ w.op ∧ w.op < 55) : okS (whole w k) := by
  unfold whole
  split
  · exact h2
  · rename_i hn
    have := h4 hn
    refine okS_app (okS_app (okS_app h1 h2) (okS_cons ⟨by show -1 ≤ k; (first | lia (splits := 0) | lia (splits := 4) | omega), by show k ≤ 1; (first | lia (splits := 0) | lia (splits := 4) | omega), this.1, this.2⟩ okS_nil)) ?_
    split
    · exact h3
    · exact okS_tn (okS_rev h3)
theorem okS_way : ∀ t : Tr, t.good → okS (way t).up ∧ okS (way t).mid ∧ okS (way t).dn ∧ ((way t).n ≠ 0 → 9 ≤ (way t).op ∧ (way t).op < 55)
  | .x, _ => ⟨okS_nil, okS_nil, okS_nil, fun h => absurd rfl h⟩
  | .un o t, g => by
    obtain ⟨a, b, c, d⟩ := okS_way t g.2.2
    exact ⟨a, okS_cons ⟨by show (-1 : Int) ≤ 0; decide, by show (0 : Int) ≤ 1; decide, g.1, g.2.1⟩ b, c, d⟩
  | .bi o l r, g => by
    obtain ⟨g1, g2, g3, g4⟩ := g
    obtain ⟨a, b, c, d⟩ := okS_way l g3
    obtain ⟨a', b', c', d'⟩ := okS_way r g4
    have wl := fun k hk => okS_whole (k := k) hk a b c d
    have wr := fun k hk => okS_whole (k := k) hk a' b' c' d'
    have u : (-1 : Int) ≤ 1 ∧ (1 : Int) ≤ 1 ∧ 9 ≤ o ∧ o < 55 := ⟨by decide, by decide, g1, g2⟩
    have v : (-1 : Int) ≤ -1 ∧ (-1 : Int) ≤ 1 ∧ 9 ≤ o ∧ o < 55 := ⟨by decide, by decide, g1, g2⟩
    rw [way]
    split
    · exact ⟨okS_app (wl 1 (.inl rfl)) (okS_cons u okS_nil), okS_nil, wr 1 (.inl rfl), fun _ => ⟨g1, g2⟩⟩
    · split
      · exact ⟨a, okS_app (okS_app (okS_cons u (wr (-1) (.inr rfl))) (okS_cons v okS_nil)) b, c, d⟩
      · exact ⟨a', okS_app (okS_app (okS_cons v (okS_tn (wl (-1) (.inr rfl)))) (okS_cons u okS_nil)) b', c', d'⟩
theorem draw_good (deal : List Int) : ∀ s p, (draw deal s p).good := by
  intro s
  induction s using Nat.strongRecOn with
  | ind s ih =>
    intro p
    cases s with
    | zero => rw [draw_zero]; trivial
    | succ s =>
      have b := draw_kind (d := tot deal p) (s := s)
      have o1 := Int.fmod_nonneg_of_pos ((tot deal p).fdiv 8) (b := 46) (by decide)
      have o2 := Int.fmod_lt_of_pos ((tot deal p).fdiv 8) (b := 46) (by decide)
      obtain ⟨k, hk⟩ : ∃ k : Nat, (tot deal p).fmod ((s : Int) + 2) = k := ⟨_, (Int.toNat_of_nonneg b.1).symm⟩
      by_cases e : k = s + 1
      · rw [draw_un (by rw [hk, e]; (first | lia (splits := 0) | omega))]
        exact ⟨by (first | lia (splits := 0) | omega), by (first | lia (splits := 0) | omega), ih s (by (first | lia (splits := 0) | omega)) _⟩
      · rw [draw_bi hk e]
        exact ⟨by (first | lia (splits := 0) | omega), by (first | lia (splits := 0) | omega), ih k (by (first | lia (splits := 0) | omega)) _, ih (s - k) (by (first | lia (splits := 0) | omega)) _⟩
theorem good_ok : ∀ t : Tr, t.good → t.ok 48
  | .x, _ => trivial
  | .un o t, g => ⟨by have := g.1; (first | lia (splits := 0) | omega), by have := g.2.1; (first | lia (splits := 0) | omega), good_ok t g.2.2⟩
  | .bi o l r, g => ⟨by have := g.1; (first | lia (splits := 0) | omega), by have := g.2.1; (first | lia (splits := 0) | omega), good_ok l g.2.2.1, good_ok r g.2.2.2⟩
theorem st_ne (i : Itm) : i.st ≠ [] := by cases i <;> exact fun h => by cases h
theorem whole_ne {t : Tr} {k : Int} (h : t.ops ≠ 0) : whole (way t) k ≠ [] := fun e => by
  obtain ⟨is, c, e1, e2, e3, e4⟩ := dec t
  rcases e4 with ⟨h0, rfl, _, _⟩ | ⟨o, l, r, rfl, h1, h2, h3, h4, h5, h6, h7⟩
  · rw [whole_flat h0, e2] at e
    cases is with
    | nil => rw [e1] at h; exact h rfl
    | cons i is => exact st_ne i (List.append_eq_nil_iff.mp e).1
  · have hn : (way t).n ≠ 0 := by have := way_n l; (first | lia (splits := 0) | omega)
    rw [whole_core hn, h3] at e
    simp at e
theorem hit_ex (t : Tr) {k : Int} (hk : k = 1 ∨ k = -1) : ∃ j, j ≤ (whole (way t) k).length ∧ hAt (whole (way t) k) j = p2 (way t).n - 1 := by
  have ihp : ∀ r : Tr, r.ops < t.ops → Pth r := fun r hr => pth r.ops r (Nat.le_refl _)
  obtain ⟨is, c, e1, e2, e3, e4⟩ := dec t
  rcases e4 with ⟨h0, rfl, _, _⟩ | ⟨o, l, r, rfl, h1, h2, h3, h4, h5, h6, h7⟩
  · exact ⟨0, Nat.zero_le _, by rw [h0]; simp [hAt]; rfl⟩
  · have C : Cre t is o l r := ⟨h1, h2, e2, h3, h4, h5, e3, h6, h7, e1⟩
    obtain ⟨_, _, u2, _⟩ := C.up_path ihp
    have hn : (way t).n ≠ 0 := by have := way_n l; (first | lia (splits := 0) | omega)
    exact ⟨(way t).up.length, by rw [whole_core hn, List.length_append]; (first | lia (splits := 0) | omega), by rw [← u2, whole_core hn]; simp [hAt, rise]⟩
theorem law_true {W : Wd} {sc : List Int} (hW : W.nest = nestT) (hsc : sc.length ≤ 1000) : Fn W (fd 81).name [.list (intD sc)] (.bool true) 80 := by
  obtain ⟨s7, h7⟩ : ∃ s, dealAt sc 7 = s := ⟨_, rfl⟩
  have dl : (deal8 sc).length = 8 := by simp [deal8]
  obtain ⟨size, hsize⟩ : ∃ n : Nat, 2 + s7.fmod 3 = n := ⟨(2 + s7.fmod 3).toNat, by have := Int.fmod_nonneg_of_pos s7 (b := 3) (by decide); (first | lia (splits := 0) | lia (splits := 4) | omega)⟩
  have hs1 := Int.fmod_nonneg_of_pos s7 (b := 3) (by decide)
  have hs2 := Int.fmod_lt_of_pos s7 (b := 3) (by decide)
  have he1 := Int.fmod_nonneg_of_pos (s7.fdiv 3) (b := (size : Int)) (by (first | lia (splits := 0) | lia (splits := 4) | omega))
  have he2 := Int.fmod_lt_of_pos (s7.fdiv 3) (b := (size : Int)) (by (first | lia (splits := 0) | lia (splits := 4) | omega))
  obtain ⟨edge, hedge⟩ : ∃ n : Nat, (s7.fdiv 3).fmod (size : Int) = n := ⟨_, (Int.toNat_of_nonneg he1).symm⟩
  have hk1 := Int.fmod_nonneg_of_pos (s7.fdiv 12) (b := 4) (by decide)
  have hk2 := Int.fmod_lt_of_pos (s7.fdiv 12) (b := 4) (by decide)
  obtain ⟨k, hk⟩ : ∃ n : Nat, 4 + (s7.fdiv 12).fmod 4 = n := ⟨(4 + (s7.fdiv 12).fmod 4).toNat, by (first | lia (splits := 0) | lia (splits := 4) | omega)⟩
  have c67 := f67 (W := W) (deal := deal8 sc) (by (first | lia (splits := 0) | lia (splits := 4) | omega)) (s := k) (p := 0) (by (first | lia (splits := 0) | lia (splits := 4) | omega))
  have ops := draw_ops (deal8 sc) k 0
  have good := draw_good (deal8 sc) k 0
  generalize draw (deal8 sc) k 0 = t at c67 ops good
  have hkk : 4 ≤ k ∧ k ≤ 7 := by (first | lia (splits := 0) | lia (splits := 4) | omega)
  have hlen : (whole (way t) (-1)).length ≤ 40 := by have := whole_way_length t (-1); (first | lia (splits := 0) | lia (splits := 4) | omega)
  have wl := way_length t
  obtain ⟨o1, o2, o3, o4⟩ := okS_way t good
  have okd := okS_whole (k := -1) (.inr rfl) o1 o2 o3 o4
  have P := (pth t.ops t (Nat.le_refl _)).2.2.1
  have n0 := way_n t
  have pb := p2_ops t
  have pl := p2_le_toNat n0 pb
  obtain ⟨mx, hm, hx, b1, b2⟩ := top_of n0 P (hit_ex t (.inr rfl))
  have hne := whole_ne (t := t) (k := -1) (by (first | lia (splits := 0) | lia (splits := 4) | omega))
  have und := undone (W := W) hW t.ops t (Nat.le_refl _) (by (first | lia (splits := 0) | lia (splits := 4) | omega)) (-1) (.inr rfl)
  have hh : ∀ j, j ≤ (whole (way t) (-1)).length → 0 ≤ hAt (whole (way t) (-1)) j ∧ hAt (whole (way t) (-1)) j ≤ 40 := fun j _ => by
    have := P.at j
    (first | lia (splits := 0) | lia (splits := 4) | omega)
  have c72 := f72 (W := W) (w := way t) (t := -1) (by (first | lia (splits := 0) | lia (splits := 4) | omega)) (by (first | lia (splits := 0) | lia (splits := 4) | omega)) (by (first | lia (splits := 0) | lia (splits := 4) | omega))
  have c74 := f74 (W := W) (l := whole (way t) (-1)) (by (first | lia (splits := 0) | lia (splits := 4) | omega))
  have tl : tab.length = 48 := by simp [tab]
  have t3 : ∀ s ∈ tab, s.length ≤ 3 := by decide +kernel
  have c77 := f77 (W := W) (signs := tab) (deal := deal8 sc) (size := (size : Int)) (margin := (edge : Int)) hlen dl (by (first | lia (splits := 0) | lia (splits := 4) | omega)) (by (first | lia (splits := 0) | lia (splits := 4) | omega)) (by (first | lia (splits := 0) | lia (splits := 4) | omega)) (by (first | lia (splits := 0) | lia (splits := 4) | omega)) hh (fun p hp => by have := okd p hp; (first | lia (splits := 0) | lia (splits := 4) | omega)) (by (first | lia (splits := 0) | lia (splits := 4) | omega)) t3
  have c78 := told (W := W) (deal := deal8 sc) (size := size) (margin := edge) hW (by (first | lia (splits := 0) | lia (splits := 4) | omega)) (by (first | lia (splits := 0) | lia (splits := 4) | omega)) (by (first | lia (splits := 0) | lia (splits := 4) | omega)) hlen hh (fun p hp => (okd p hp).2.2)
  have c79 := packed (W := W) hW hlen (fun p hp => by have := okd p hp; (first | lia (splits := 0) | lia (splits := 4) | omega)) hne
  generalize whole (way t) (-1) = due at *
  have hbits := bits_eq b1 b2
  have d0 : 0 ≤ mx + 1 := by have := two_pos (way t).n.toNat; (first | lia (splits := 0) | lia (splits := 4) | omega)
  have c5 := f5 (W := W) (k := 1) (len := (way t).n.toNat + 1) (a := mx + 1) hW (by decide) (by decide) d0 (by rw [hbits, Nat.div_one]; (first | lia (splits := 0) | lia (splits := 4) | omega)) (by (first | lia (splits := 0) | lia (splits := 4) | omega))
  have bl := digs_len 1 ((way t).n.toNat + 1) (mx + 1)
  have c6 := f6 (W := W) (k := 1) (ds := digs 1 ((way t).n.toNat + 1) (mx + 1)) hW (by decide) (by decide) (by (first | lia (splits := 0) | lia (splits := 4) | omega)) (digs_figs _ _ _)
  rw [dval_digs 1 _ _ d0 (by rw [Nat.one_mul]; exact b2), bl] at c6
  have c76 := f76 (W := W) (t := t) (by (first | lia (splits := 0) | lia (splits := 4) | omega))
  rw [need_eq, show (way t).n + 1 = ((digs 1 ((way t).n.toNat + 1) (mx + 1)).length : Int) by rw [bl]; (first | lia (splits := 0) | lia (splits := 4) | omega)] at c76
  have c68 := f68 (W := W) (signs := tab) t3 (by (first | lia (splits := 0) | lia (splits := 4) | omega)) (t := t) (by (first | lia (splits := 0) | lia (splits := 4) | omega)) (by rw [tl]; exact good_ok t good)
  have c70 := read_back (W := W) good (by have := txt_le t3 t; (first | lia (splits := 0) | lia (splits := 4) | omega))
  refine (f81 (W := W) (m := 71) hsc h7 hsize hedge hk (by (first | lia (splits := 0) | lia (splits := 4) | omega)) (by (first | lia (splits := 0) | lia (splits := 4) | omega)) (by (first | lia (splits := 0) | lia (splits := 4) | omega)) (c67.le (by (first | lia (splits := 0) | lia (splits := 4) | omega))) ((f73 (W := W) (t := t) (by (first | lia (splits := 0) | lia (splits := 4) | omega))).le (by (first | lia (splits := 0) | lia (splits := 4) | omega))) (c72.le (by (first | lia (splits := 0) | lia (splits := 4) | omega))) (c77.le (by (first | lia (splits := 0) | lia (splits := 4) | omega))) (c78.le (by (first | lia (splits := 0) | lia (splits := 4) | omega))) (c68.le (by (first | lia (splits := 0) | lia (splits := 4) | omega))) (c70.le (by (first | lia (splits := 0) | lia (splits := 4) | omega))) (und.le (by (first | lia (splits := 0) | lia (splits := 4) | omega))) (c79.le (by (first | lia (splits := 0) | lia (splits := 4) | omega))) ?_ (c74.le (by (first | lia (splits := 0) | lia (splits := 4) | omega))) hm hx (c5.le (by (first | lia (splits := 0) | lia (splits := 4) | omega))) (c6.le (by (first | lia (splits := 0) | lia (splits := 4) | omega))) (c76.le (by (first | lia (splits := 0) | lia (splits := 4) | omega)))).le (by decide)
  intro a ha
  have r1 := Int.fmod_nonneg_of_pos (dealAt sc 0) (b := 65536) (by decide)
  have r2 := Int.fmod_lt_of_pos (dealAt sc 0) (b := 65536) (by decide)
  simp only [List.mem_cons, List.not_mem_nil, or_false] at ha
  have : 0 ≤ a ∧ a < 65536 := by (first | lia (splits := 0) | lia (splits := 4) | omega)
  exact (symbol hW this.1 this.2).le (by decide)
noncomputable def es3 (P : Params) : Array DictEntry := match (o3 P).data with | .dict es _ => es | _ => #[]
noncomputable abbrev Says (P : Params) (h : Heap) : Prop := ∀ b o, (Hfin P).get? b = some o → h.get? b = some o
section
variable {P : Params} {h : Heap} {mg mb : Str → Option Value} {p : Program} {w : World}
theorem mg_eq (g : h.Ns mainGlobals mg) (y : Says P h) (x : Str) : mg x = nsFind (es3 P) x := by
  obtain ⟨o, es, ep, e, d, _, f⟩ := g
  have e' := y 3 (o3 P) (by kernel_rfl)
  rw [show h.get? mainGlobals = h.get? 3 from rfl, e'] at e
  cases e
  rw [← f x]
  unfold es3
  rw [d]
theorem fa3 (g : h.Ns mainGlobals mg) (y : Says w.params h) : FnIs ⟨p, w, mg, mb, nestT⟩ h 3 28 (.ref 27) :=
  ⟨(mg_eq g y _).trans (by kernel_rfl), ⟨o28 w.params, .str t103 194, .none, y 28 _ (by kernel_rfl), by kernel_rfl⟩, ⟨27, o27 w.params, _, 199, rfl, y 27 _ (by kernel_rfl), rfl, by kernel_rfl⟩⟩
theorem fa5 (g : h.Ns mainGlobals mg) (y : Says w.params h) : FnIs ⟨p, w, mg, mb, nestT⟩ h 5 42 (.ref 41) :=
  ⟨(mg_eq g y _).trans (by kernel_rfl), ⟨o42 w.params, .str t103 194, .none, y 42 _ (by kernel_rfl), by kernel_rfl⟩, ⟨41, o41 w.params, _, 230, rfl, y 41 _ (by kernel_rfl), rfl, by kernel_rfl⟩⟩
theorem fa6 (g : h.Ns mainGlobals mg) (y : Says w.params h) : FnIs ⟨p, w, mg, mb, nestT⟩ h 6 49 (.ref 48) :=
  ⟨(mg_eq g y _).trans (by kernel_rfl), ⟨o49 w.params, .str t103 194, .none, y 49 _ (by kernel_rfl), by kernel_rfl⟩, ⟨48, o48 w.params, _, 241, rfl, y 48 _ (by kernel_rfl), rfl, by kernel_rfl⟩⟩
theorem fa7 (g : h.Ns mainGlobals mg) (y : Says w.params h) : FnIs ⟨p, w, mg, mb, nestT⟩ h 7 56 (.ref 55) :=
  ⟨(mg_eq g y _).trans (by kernel_rfl), ⟨o56 w.params, .str t103 194, .none, y 56 _ (by kernel_rfl), by kernel_rfl⟩, ⟨55, o55 w.params, _, 252, rfl, y 55 _ (by kernel_rfl), rfl, by kernel_rfl⟩⟩
theorem fa8 (g : h.Ns mainGlobals mg) (y : Says w.params h) : FnIs ⟨p, w, mg, mb, nestT⟩ h 8 63 (.ref 62) :=
  ⟨(mg_eq g y _).trans (by kernel_rfl), ⟨o63 w.params, .str t103 194, .none, y 63 _ (by kernel_rfl), by kernel_rfl⟩, ⟨62, o62 w.params, _, 267, rfl, y 62 _ (by kernel_rfl), rfl, by kernel_rfl⟩⟩
theorem fa63 (g : h.Ns mainGlobals mg) (y : Says w.params h) : FnIs ⟨p, w, mg, mb, nestT⟩ h 63 139 (.ref 138) :=
  ⟨(mg_eq g y _).trans (by kernel_rfl), ⟨o139 w.params, .str t200 374, .none, y 139 _ (by kernel_rfl), by kernel_rfl⟩, ⟨138, o138 w.params, _, 574, rfl, y 138 _ (by kernel_rfl), rfl, by kernel_rfl⟩⟩
theorem fa64 (g : h.Ns mainGlobals mg) (y : Says w.params h) : FnIs ⟨p, w, mg, mb, nestT⟩ h 64 146 (.ref 145) :=
  ⟨(mg_eq g y _).trans (by kernel_rfl), ⟨o146 w.params, .str t200 374, .none, y 146 _ (by kernel_rfl), by kernel_rfl⟩, ⟨145, o145 w.params, _, 581, rfl, y 145 _ (by kernel_rfl), rfl, by kernel_rfl⟩⟩
theorem fa65 (g : h.Ns mainGlobals mg) (y : Says w.params h) : FnIs ⟨p, w, mg, mb, nestT⟩ h 65 153 (.ref 152) :=
  ⟨(mg_eq g y _).trans (by kernel_rfl), ⟨o153 w.params, .str t200 374, .none, y 153 _ (by kernel_rfl), by kernel_rfl⟩, ⟨152, o152 w.params, _, 588, rfl, y 152 _ (by kernel_rfl), rfl, by kernel_rfl⟩⟩
theorem fa67 (g : h.Ns mainGlobals mg) (y : Says w.params h) : FnIs ⟨p, w, mg, mb, nestT⟩ h 67 160 (.ref 159) :=
  ⟨(mg_eq g y _).trans (by kernel_rfl), ⟨o160 w.params, .str t1 594, .none, y 160 _ (by kernel_rfl), by kernel_rfl⟩, ⟨159, o159 w.params, _, 597, rfl, y 159 _ (by kernel_rfl), rfl, by kernel_rfl⟩⟩
theorem fa68 (g : h.Ns mainGlobals mg) (y : Says w.params h) : FnIs ⟨p, w, mg, mb, nestT⟩ h 68 165 (.ref 164) :=
  ⟨(mg_eq g y _).trans (by kernel_rfl), ⟨o165 w.params, .str t1 594, .none, y 165 _ (by kernel_rfl), by kernel_rfl⟩, ⟨164, o164 w.params, _, 610, rfl, y 164 _ (by kernel_rfl), rfl, by kernel_rfl⟩⟩
theorem fa69 (g : h.Ns mainGlobals mg) (y : Says w.params h) : FnIs ⟨p, w, mg, mb, nestT⟩ h 69 172 (.ref 171) :=
  ⟨(mg_eq g y _).trans (by kernel_rfl), ⟨o172 w.params, .str t1 594, .none, y 172 _ (by kernel_rfl), by kernel_rfl⟩, ⟨171, o171 w.params, _, 616, rfl, y 171 _ (by kernel_rfl), rfl, by kernel_rfl⟩⟩
theorem fa70 (g : h.Ns mainGlobals mg) (y : Says w.params h) : FnIs ⟨p, w, mg, mb, nestT⟩ h 70 177 (.ref 176) :=
  ⟨(mg_eq g y _).trans (by kernel_rfl), ⟨o177 w.params, .str t1 594, .none, y 177 _ (by kernel_rfl), by kernel_rfl⟩, ⟨176, o176 w.params, _, 625, rfl, y 176 _ (by kernel_rfl), rfl, by kernel_rfl⟩⟩
theorem fa71 (g : h.Ns mainGlobals mg) (y : Says w.params h) : FnIs ⟨p, w, mg, mb, nestT⟩ h 71 182 (.ref 181) :=
  ⟨(mg_eq g y _).trans (by kernel_rfl), ⟨o182 w.params, .str t1 594, .none, y 182 _ (by kernel_rfl), by kernel_rfl⟩, ⟨181, o181 w.params, _, 631, rfl, y 181 _ (by kernel_rfl), rfl, by kernel_rfl⟩⟩
theorem fa72 (g : h.Ns mainGlobals mg) (y : Says w.params h) : FnIs ⟨p, w, mg, mb, nestT⟩ h 72 189 (.ref 188) :=
  ⟨(mg_eq g y _).trans (by kernel_rfl), ⟨o189 w.params, .str t1 594, .none, y 189 _ (by kernel_rfl), by kernel_rfl⟩, ⟨188, o188 w.params, _, 637, rfl, y 188 _ (by kernel_rfl), rfl, by kernel_rfl⟩⟩
theorem fa73 (g : h.Ns mainGlobals mg) (y : Says w.params h) : FnIs ⟨p, w, mg, mb, nestT⟩ h 73 194 (.ref 193) :=
  ⟨(mg_eq g y _).trans (by kernel_rfl), ⟨o194 w.params, .str t1 594, .none, y 194 _ (by kernel_rfl), by kernel_rfl⟩, ⟨193, o193 w.params, _, 645, rfl, y 193 _ (by kernel_rfl), rfl, by kernel_rfl⟩⟩
theorem fa74 (g : h.Ns mainGlobals mg) (y : Says w.params h) : FnIs ⟨p, w, mg, mb, nestT⟩ h 74 201 (.ref 200) :=
  ⟨(mg_eq g y _).trans (by kernel_rfl), ⟨o201 w.params, .str t1 594, .none, y 201 _ (by kernel_rfl), by kernel_rfl⟩, ⟨200, o200 w.params, _, 651, rfl, y 200 _ (by kernel_rfl), rfl, by kernel_rfl⟩⟩
theorem fa75 (g : h.Ns mainGlobals mg) (y : Says w.params h) : FnIs ⟨p, w, mg, mb, nestT⟩ h 75 206 (.ref 205) :=
  ⟨(mg_eq g y _).trans (by kernel_rfl), ⟨o206 w.params, .str t1 594, .none, y 206 _ (by kernel_rfl), by kernel_rfl⟩, ⟨205, o205 w.params, _, 660, rfl, y 205 _ (by kernel_rfl), rfl, by kernel_rfl⟩⟩
theorem fa76 (g : h.Ns mainGlobals mg) (y : Says w.params h) : FnIs ⟨p, w, mg, mb, nestT⟩ h 76 211 (.ref 210) :=
  ⟨(mg_eq g y _).trans (by kernel_rfl), ⟨o211 w.params, .str t1 594, .none, y 211 _ (by kernel_rfl), by kernel_rfl⟩, ⟨210, o210 w.params, _, 666, rfl, y 210 _ (by kernel_rfl), rfl, by kernel_rfl⟩⟩
theorem fa77 (g : h.Ns mainGlobals mg) (y : Says w.params h) : FnIs ⟨p, w, mg, mb, nestT⟩ h 77 218 (.ref 217) :=
  ⟨(mg_eq g y _).trans (by kernel_rfl), ⟨o218 w.params, .str t1 594, .none, y 218 _ (by kernel_rfl), by kernel_rfl⟩, ⟨217, o217 w.params, _, 672, rfl, y 217 _ (by kernel_rfl), rfl, by kernel_rfl⟩⟩
theorem fa78 (g : h.Ns mainGlobals mg) (y : Says w.params h) : FnIs ⟨p, w, mg, mb, nestT⟩ h 78 225 (.ref 224) :=
  ⟨(mg_eq g y _).trans (by kernel_rfl), ⟨o225 w.params, .str t1 594, .none, y 225 _ (by kernel_rfl), by kernel_rfl⟩, ⟨224, o224 w.params, _, 690, rfl, y 224 _ (by kernel_rfl), rfl, by kernel_rfl⟩⟩
theorem fa79 (g : h.Ns mainGlobals mg) (y : Says w.params h) : FnIs ⟨p, w, mg, mb, nestT⟩ h 79 230 (.ref 229) :=
  ⟨(mg_eq g y _).trans (by kernel_rfl), ⟨o230 w.params, .str t1 594, .none, y 230 _ (by kernel_rfl), by kernel_rfl⟩, ⟨229, o229 w.params, _, 705, rfl, y 229 _ (by kernel_rfl), rfl, by kernel_rfl⟩⟩
theorem fa80 (g : h.Ns mainGlobals mg) (y : Says w.params h) : FnIs ⟨p, w, mg, mb, nestT⟩ h 80 235 (.ref 234) :=
  ⟨(mg_eq g y _).trans (by kernel_rfl), ⟨o235 w.params, .str t1 594, .none, y 235 _ (by kernel_rfl), by kernel_rfl⟩, ⟨234, o234 w.params, _, 711, rfl, y 234 _ (by kernel_rfl), rfl, by kernel_rfl⟩⟩
theorem fa81 (g : h.Ns mainGlobals mg) (y : Says w.params h) : FnIs ⟨p, w, mg, mb, nestT⟩ h 81 240 (.ref 239) :=
  ⟨(mg_eq g y _).trans (by kernel_rfl), ⟨o240 w.params, .str t1 594, .none, y 240 _ (by kernel_rfl), by kernel_rfl⟩, ⟨239, o239 w.params, _, 717, rfl, y 239 _ (by kernel_rfl), rfl, by kernel_rfl⟩⟩
theorem fn_all (g : h.Ns mainGlobals mg) (y : Says w.params h) : ∀ i ∈ fnIdx, ∃ fa cd, FnIs ⟨p, w, mg, mb, nestT⟩ h i fa cd := by
  intro i hi
  simp only [fnIdx, List.mem_cons, List.not_mem_nil, or_false] at hi
  rcases hi with rfl | rfl | rfl | rfl | rfl | rfl | rfl | rfl | rfl | rfl | rfl | rfl | rfl | rfl | rfl | rfl | rfl | rfl | rfl | rfl | rfl | rfl | rfl
  · exact ⟨_, _, fa3 g y⟩
  · exact ⟨_, _, fa5 g y⟩
  · exact ⟨_, _, fa6 g y⟩
  · exact ⟨_, _, fa7 g y⟩
  · exact ⟨_, _, fa8 g y⟩
  · exact ⟨_, _, fa63 g y⟩
  · exact ⟨_, _, fa64 g y⟩
  · exact ⟨_, _, fa65 g y⟩
  · exact ⟨_, _, fa67 g y⟩
  · exact ⟨_, _, fa68 g y⟩
  · exact ⟨_, _, fa69 g y⟩
  · exact ⟨_, _, fa70 g y⟩
  · exact ⟨_, _, fa71 g y⟩
  · exact ⟨_, _, fa72 g y⟩
  · exact ⟨_, _, fa73 g y⟩
  · exact ⟨_, _, fa74 g y⟩
  · exact ⟨_, _, fa75 g y⟩
  · exact ⟨_, _, fa76 g y⟩
  · exact ⟨_, _, fa77 g y⟩
  · exact ⟨_, _, fa78 g y⟩
  · exact ⟨_, _, fa79 g y⟩
  · exact ⟨_, _, fa80 g y⟩
  · exact ⟨_, _, fa81 g y⟩
theorem bn_all (g : h.Ns mainGlobals mg) (y : Says P h) : ∀ x ∈ bNames, mg x = none := by
  intro x hx
  rw [mg_eq g y]
  simp only [bNames, List.mem_cons, List.not_mem_nil, or_false] at hx
  rcases hx with rfl | rfl | rfl | rfl | rfl | rfl | rfl | rfl <;> kernel_rfl
theorem kin_all (y : Says P h) : (KK P).In h := fun a o e => by
  have m := mem_lookup e
  simp only [KK, List.mem_cons, List.not_mem_nil, or_false] at m
  rcases m with m | m | m | m | m | m | m | m <;> (cases m; exact y _ _ (by kernel_rfl))
end
section
variable {P : Params} {h : Heap} {mg mb : Str → Option Value} {p : Program} {w : World}
theorem nt_ok (g : h.Ns mainGlobals mg) (y : Says P h) : ∃ t, mg "NT_OFFSET" = some (.int 256 t) := ⟨474, (mg_eq g y _).trans (by kernel_rfl)⟩
theorem em_ok (g : h.Ns mainGlobals mg) (y : Says P h) : ∃ t, mg "ENDMARKER" = some (.int 0 t) := ⟨376, (mg_eq g y _).trans (by kernel_rfl)⟩
theorem dl_ok (g : h.Ns mainGlobals mg) (y : Says P h) : ∃ t, mg "_DIV_LIMIT" = some (.int 4000 t) := ⟨196, (mg_eq g y _).trans (by kernel_rfl)⟩
theorem ws_ok (g : h.Ns mainGlobals mg) (y : Says P h) : mg "Whitespace" = some (.ref 125) := (mg_eq g y _).trans (by kernel_rfl)
theorem bm_ok (g : h.Ns mainGlobals mg) (y : Says P h) : mg "__builtins__" = some (.ref 4) := (mg_eq g y _).trans (by kernel_rfl)
theorem ett_ok (g : h.Ns mainGlobals mg) (y : Says P h) : mg "EXACT_TOKEN_TYPES" = some (.ref 130) := (mg_eq g y _).trans (by kernel_rfl)
theorem nst_ok (g : h.Ns mainGlobals mg) (y : Says w.params h) : ∀ q ∈ nestT, ∃ fa, FnIs ⟨p, w, mg, mb, nestT⟩ h q.i fa (.ref q.c) := by
  intro q hq
  simp only [nestT, List.mem_cons, List.not_mem_nil, or_false] at hq
  rcases hq with rfl | rfl
  · exact ⟨_, fa5 g y⟩
  · exact ⟨_, fa6 g y⟩
end
noncomputable def rows : List (Str × Nat × Int × Nat) := [(t151, 476, 54, 472), (t152, 478, 28, 420), (t153, 480, 24, 412), (t154, 482, 40, 444), (t155, 484, 19, 402), (t156, 486, 41, 446), (t157, 488, 7, 378), (t158, 490, 8, 380), (t159, 492, 16, 396), (t160, 494, 35, 434), (t161, 496, 46, 456), (t162, 498, 38, 440), (t163, 500, 14, 392), (t164, 502, 36, 436), (t165, 504, 12, 388), (t166, 506, 15, 394), (t167, 508, 37, 438), (t168, 510, 51, 466), (t169, 512, 23, 410), (t170, 514, 52, 468), (t171, 516, 17, 398), (t172, 518, 47, 458), (t173, 520, 48, 460), (t174, 522, 39, 442), (t175, 524, 11, 386), (t176, 526, 53, 470), (t177, 528, 13, 390), (t178, 530, 20, 404), (t179, 532, 33, 430), (t180, 534, 44, 452), (t181, 536, 29, 422), (t182, 538, 22, 408), (t183, 540, 27, 418), (t184, 542, 21, 406), (t185, 544, 30, 424), (t186, 545, 34, 432), (t187, 546, 45, 454), (t188, 547, 49, 462), (t189, 548, 50, 464), (t190, 549, 9, 382), (t191, 550, 10, 384), (t192, 551, 32, 428), (t193, 552, 43, 450), (t194, 553, 25, 414), (t195, 554, 18, 400), (t196, 555, 42, 448), (t197, 556, 26, 416), (t198, 557, 31, 426)]
theorem rows_ett : rows.map (fun r => (r.1, r.2.2.1)) = ETT := by kernel_rfl
section
variable {P : Params} {h : Heap} {p : Program} {w : World}
noncomputable def enR (P : Params) (r : Str × Nat × Int × Nat) : DictEntry := en P r.1 r.2.1 (.int r.2.2.1 r.2.2.2)
noncomputable def ep130 (P : Params) := match (o130 P).data with | .dict _ ep => ep | _ => 0
theorem key_hash (x : Str) : PyData.keyHash w.params x = hashStr w x := by rfl
theorem pairs_rows : ∀ R : List (Str × Nat × Int × Nat), Pairs (strKind p w) (R.map (enR w.params)) (R.map fun r => (r.1, Value.int r.2.2.1 r.2.2.2))
  | [] => .nil
  | r :: R => .cons (by show Value.isStrOf r.1 (.str r.1 r.2.1) = true; exact beq_self_eq_true r.1) rfl (pairs_rows R)
theorem flat_rows : ∀ R : List (Str × Nat × Int × Nat), PyProof.V.FlatPairs PyData.str (R.map fun r => (r.1, Value.int r.2.2.1 r.2.2.2)) (kdpD (R.map fun r => (r.1, r.2.2.1)))
  | [] => .nil
  | r :: R => .cons (PyProof.V.Flat.int _ _) (flat_rows R)
theorem tk_ok (y : Says w.params h) : StrTab p w h 130 (kdpD ETT) := by
  refine ⟨by decide +kernel, rows.map (fun r => (r.1, Value.int r.2.2.1 r.2.2.2)), ⟨o130 w.params, (rows.map (enR w.params)).toArray, ep130 w.params, y 130 _ (by kernel_rfl), ?_, ?_, ?_, ?_, ?_⟩, ?_⟩
  · exact ⟨rfl, rfl, rfl⟩
  · kernel_rfl
  · intro e he
    obtain ⟨r, _, rfl⟩ := List.mem_map.mp (List.mem_toArray.mp he)
    exact ⟨r.1, beq_self_eq_true r.1, key_hash r.1⟩
  · exact pairs_rows rows
  · rw [List.map_map]
    decide +kernel
  · rw [← rows_ett]; exact flat_rows rows
end
theorem gs_ok {p : Program} {w : World} {h : Heap} {mg mb : Str → Option Value} (g : h.Ns mainGlobals mg) (b : h.Ns builtinsNs mb) (nl : h.NoLimit) (bl : ∀ x : Str, x ≠ "__name__" → mb x = bootBuiltins x) (y : Says w.params h) : GS ⟨p, w, mg, mb, nestT⟩ h where
  g := g
  b := b
  nolimit := nl
  blt := bl
  fn := fn_all g y
  nst := nst_ok g y
  bn := bn_all g y
  nt := nt_ok g y
  em := em_ok g y
  dl := dl_ok g y
  tk := ⟨130, ett_ok g y, tk_ok y⟩
  kin := kin_all y
  ws := ws_ok g y
  bm := bm_ok g y
section
variable {P : Params} {h : Heap}
theorem hd_tab (y : Says P h) : ∀ q ∈ nestT, CodeHd h q.c q.P ∧ h.get? q.P = some (tabObj #[]) := by
  intro q hq
  simp only [nestT, List.mem_cons, List.not_mem_nil, or_false] at hq
  rcases hq with rfl | rfl
  · exact ⟨⟨o41 P, _, t9, 238, 3, 0, true, 181, 0, y 41 _ (by kernel_rfl), by kernel_rfl, rfl, by kernel_rfl, by kernel_rfl, by kernel_rfl, by kernel_rfl, by kernel_rfl, by kernel_rfl, by decide⟩, y 37 (tabObj #[]) (by kernel_rfl)⟩
  · exact ⟨⟨o48 P, _, t9, 249, 3, 0, true, 181, 0, y 48 _ (by kernel_rfl), by kernel_rfl, rfl, by kernel_rfl, by kernel_rfl, by kernel_rfl, by kernel_rfl, by kernel_rfl, by kernel_rfl, by decide⟩, y 44 (tabObj #[]) (by kernel_rfl)⟩
end
theorem tb_ok {p : Program} {w : World} {h : Heap} {mg mb : Str → Option Value} (y : Says w.params h) : TB ⟨p, w, mg, mb, nestT⟩ (fun _ => False) h := fun q hq =>
  ⟨id, id, (hd_tab y q hq).1, .inl (hd_tab y q hq).2⟩
theorem ints_has : ∀ {xs : List WData}, WShape.hasItems [] xs .int = true → ∃ is : List Int, xs = is.map WData.int
  | [], _ => ⟨[], rfl⟩
  | x :: xs, h => by
    unfold WShape.hasItems at h
    rw [Bool.and_eq_true] at h
    obtain ⟨is, rfl⟩ := ints_has h.2
    have h1 := h.1
    obtain ⟨i, rfl⟩ := hasW_int h1
    exact ⟨i :: is, rfl⟩
theorem well_int {P : Params} {h : Heap} {v : Value} {i : Int} (w : Well P h v (.int i)) : ∃ t, v = .int i t := by cases w; exact ⟨_, rfl⟩
theorem well_list {P : Params} {h : Heap} {v : Value} {xs : List WData} (w : Well P h v (.list xs)) : ∃ a vs, v = .ref a ∧ h.get? a = some { cls := .type "list", data := .seq (vs : List Value).toArray } ∧ WellAll P h vs xs := by
  cases w with | list e r => exact ⟨_, _, rfl, e, r⟩
theorem well_nil {P : Params} {h : Heap} {vs : List Value} (w : WellAll P h vs []) : vs = [] := by cases w; rfl
theorem well_cons {P : Params} {h : Heap} {vs : List Value} {x : WData} {xs : List WData} (w : WellAll P h vs (x :: xs)) : ∃ v r, vs = v :: r ∧ Well P h v x ∧ WellAll P h r xs := by
  cases w with | cons a b => exact ⟨_, _, rfl, a, b⟩
theorem ints_well {P : Params} {h : Heap} {M : MS} : ∀ {vs : List Value} {is : List Int}, WellAll P h vs (is.map WData.int) → RepL M h vs (intD is)
  | _, [], w => by obtain rfl := well_nil w; exact .nil
  | _, i :: is, w => by
    obtain ⟨v, r, rfl, a, b⟩ := well_cons w
    obtain ⟨t, rfl⟩ := well_int a
    exact .cons (.int _ _) (ints_well b)
theorem args_of {args : List WData} (hpre : rwL.row.toRowW.claim.pre args = true) : ∃ is : List Int, args = [.list (is.map WData.int)] ∧ is.length ≤ 63 := by
  obtain ⟨h1, h2⟩ := pre_splitW (r := rwL.row.toRowW) hpre
  have h1' : WShape.hasAll [] args [.list .int] = true := h1
  obtain ⟨d, r, rfl, hd, hr⟩ := hasAllW_cons h1'
  obtain rfl := hasAllW_nil hr
  have h2' : WTm.holds [] (.and (.not (.lt (.lit (.int 63)) (.len (.arg 0)))) (.lit (.bool true))) { args := [d] } = true := h2
  obtain ⟨xs, rfl, hx⟩ := hasW_list hd
  obtain ⟨is, rfl⟩ := ints_has hx
  refine ⟨is, rfl, ?_⟩
  have e : less? (.int 63) (.int (is.length : Int)) = some (decide (63 < (is.length : Int))) := rfl
  by_cases hh : is.length ≤ 63
  · exact hh
  · simp [WTm.holds, WTm.value, e, show (63 : Int) < (is.length : Int) by (first | lia (splits := 0) | omega)] at h2'
theorem ext_oldk {T : List Addr} {h h' : Heap} (k : Ext T h h') (t : ∀ b ∈ T, isCodeTable h b) : OldK h h' where
  old := fun b o e => (k b o e).imp id fun q => .inl ⟨t b q.1, q.2⟩
  there := fun b o e => k.some e
theorem post_ok (args ds : List WData) : rwL.row.toRowW.claim.post args (.bool true) ds = true := by
  have a : WShape.has [] (.bool true) .bool = true := rfl
  have b : WTm.holds [] (.eq .res (.lit (.bool true))) { args := args, res := some (.bool true), after := ds } = true := by
    simp [WTm.holds, WTm.value, show PySem.W.same (.bool true) (.bool true) = true by simp [PySem.W.same]]
  exact Bool.and_eq_true_iff.mpr ⟨a, b⟩
theorem walk : WalkO qP looseT (fun _ _ => True) SaysT rwL.row.toRowW dLaw [] fun f vs => PySem.call f vs := by
  intro w s₀ s₁ mg mb G y a o pm cd doc dV kV ha hd hcode hdfl hmg hdf args vals as hpre hlay hrd hwell hsys
  obtain ⟨is, rfl, hl⟩ := args_of hpre
  obtain ⟨v, r, rfl, w1, w2⟩ := well_cons hwell
  obtain rfl := well_nil w2
  obtain ⟨b, vs, rfl, e1, wl⟩ := well_list w1
  clear hrd hwell w1 w2 hsys
  refine law_true (W := ⟨rwL.row.toRowW.prog, w, mg, mb, nestT⟩) (sc := is) rfl (Nat.le_trans hl (by decide)) (fun _ => False) callerA _ s₁ _ _ a ⟨rfl, by decide +kernel, by decide +kernel⟩ hmg (gs_ok G.T.g G.T.b G.T.nolimit G.T.builtins y) (tb_ok y) (fun _ z => z.elim)
    (.cons (.list e1 id (ints_well wl)) .nil) fun r h' tk k tb' rr => ?_
  obtain rfl := rr.iBool
  exact ⟨.inl ⟨.bool true, .bool true, [], rfl, fun _ => rfl, .bool true, post_ok _ _, fun _ => ⟨.nil, fun _ q => by cases q⟩⟩, ext_oldk k (by
    intro b hb
    obtain ⟨q, hq, rfl⟩ := List.mem_map.1 hb
    obtain ⟨o, vs, _, _, _, _, _, _, _, e, c1, d1, e1, _⟩ := (hd_tab y q hq).1
    exact ⟨_, o, vs, e, c1, d1, e1⟩), rfl, .of_eq hdf⟩
theorem holds_it : rwL.Holds := hd walk
end Mine
theorem PySem.Challenge.cw_sc0104_01_holds : PySem.Challenge.rw_sc0104_01.Holds :=
  Mine.holds_it
