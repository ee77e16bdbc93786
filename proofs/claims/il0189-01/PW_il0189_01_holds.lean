import PyProof.Rows.All
import Wide.All
import OpenK.AllK
import Wide.FinOn
import Lean
import PySem.Challenge.RW_il0189_01
set_option Elab.async false
set_option compiler.extract_closed false

section
open PySem PySem.W PyProof.Rows
set_option maxRecDepth 100000
set_option maxHeartbeats 0

namespace Mine.Hd
abbrev pw : Program := PySem.Challenge.pw_il0189_01
noncomputable def fB (i : Nat) : FuncBody := match pw.main.body[i]? with | some (.FunctionDef _ _ b ..) => .stmts b | _ => .stmts []
noncomputable def fP (i : Nat) : Arguments := match pw.main.body[i]? with | some (.FunctionDef _ a ..) => a | _ => default
noncomputable def fS (i : Nat) : Scope := match pw.main.body[i]? with | some (.FunctionDef _ _ _ _ _ _ s ..) => s | _ => default

noncomputable def s0 : Str := ⟨#[95,95,110,97,109,101,95,95]⟩
noncomputable def s1 : Str := ⟨#[98,117,105,108,116,105,110,115]⟩
noncomputable def s2 : Str := ⟨#[95,95,100,111,99,95,95]⟩
noncomputable def s3 : Str := ⟨#[95,95,112,97,99,107,97,103,101,95,95]⟩
noncomputable def s4 : Str := ⟨#[95,95,108,111,97,100,101,114,95,95]⟩
noncomputable def s5 : Str := ⟨#[95,95,115,112,101,99,95,95]⟩
noncomputable def s6 : Str := ⟨#[95,95,98,117,105,108,100,95,99,108,97,115,115,95,95]⟩
noncomputable def s7 : Str := ⟨#[95,95,105,109,112,111,114,116,95,95]⟩
noncomputable def s8 : Str := ⟨#[97,98,115]⟩
noncomputable def s9 : Str := ⟨#[97,108,108]⟩
noncomputable def s10 : Str := ⟨#[97,110,121]⟩
noncomputable def s11 : Str := ⟨#[97,115,99,105,105]⟩
noncomputable def s12 : Str := ⟨#[98,105,110]⟩
noncomputable def s13 : Str := ⟨#[98,114,101,97,107,112,111,105,110,116]⟩
noncomputable def s14 : Str := ⟨#[99,97,108,108,97,98,108,101]⟩
noncomputable def s15 : Str := ⟨#[99,104,114]⟩
noncomputable def s16 : Str := ⟨#[99,111,109,112,105,108,101]⟩
noncomputable def s17 : Str := ⟨#[100,101,108,97,116,116,114]⟩
noncomputable def s18 : Str := ⟨#[100,105,114]⟩
noncomputable def s19 : Str := ⟨#[100,105,118,109,111,100]⟩
noncomputable def s20 : Str := ⟨#[101,118,97,108]⟩
noncomputable def s21 : Str := ⟨#[101,120,101,99]⟩
noncomputable def s22 : Str := ⟨#[102,111,114,109,97,116]⟩
noncomputable def s23 : Str := ⟨#[103,101,116,97,116,116,114]⟩
noncomputable def s24 : Str := ⟨#[103,108,111,98,97,108,115]⟩
noncomputable def s25 : Str := ⟨#[104,97,115,97,116,116,114]⟩
noncomputable def s26 : Str := ⟨#[104,97,115,104]⟩
noncomputable def s27 : Str := ⟨#[104,101,120]⟩
noncomputable def s28 : Str := ⟨#[105,110,112,117,116]⟩
noncomputable def s29 : Str := ⟨#[105,115,105,110,115,116,97,110,99,101]⟩
noncomputable def s30 : Str := ⟨#[105,115,115,117,98,99,108,97,115,115]⟩
noncomputable def s31 : Str := ⟨#[105,116,101,114]⟩
noncomputable def s32 : Str := ⟨#[97,105,116,101,114]⟩
noncomputable def s33 : Str := ⟨#[108,101,110]⟩
noncomputable def s34 : Str := ⟨#[108,111,99,97,108,115]⟩
noncomputable def s35 : Str := ⟨#[109,97,120]⟩
noncomputable def s36 : Str := ⟨#[109,105,110]⟩
noncomputable def s37 : Str := ⟨#[110,101,120,116]⟩
noncomputable def s38 : Str := ⟨#[97,110,101,120,116]⟩
noncomputable def s39 : Str := ⟨#[111,99,116]⟩
noncomputable def s40 : Str := ⟨#[111,114,100]⟩
noncomputable def s41 : Str := ⟨#[112,111,119]⟩
noncomputable def s42 : Str := ⟨#[112,114,105,110,116]⟩
noncomputable def s43 : Str := ⟨#[114,101,112,114]⟩
noncomputable def s44 : Str := ⟨#[114,111,117,110,100]⟩
noncomputable def s45 : Str := ⟨#[115,101,116,97,116,116,114]⟩
noncomputable def s46 : Str := ⟨#[115,111,114,116,101,100]⟩
noncomputable def s47 : Str := ⟨#[115,117,109]⟩
noncomputable def s48 : Str := ⟨#[118,97,114,115]⟩
noncomputable def s49 : Str := ⟨#[78,111,110,101]⟩
noncomputable def s50 : Str := ⟨#[69,108,108,105,112,115,105,115]⟩
noncomputable def s51 : Str := ⟨#[78,111,116,73,109,112,108,101,109,101,110,116,101,100]⟩
noncomputable def s52 : Str := ⟨#[70,97,108,115,101]⟩
noncomputable def s53 : Str := ⟨#[84,114,117,101]⟩
noncomputable def s54 : Str := ⟨#[98,111,111,108]⟩
noncomputable def s55 : Str := ⟨#[109,101,109,111,114,121,118,105,101,119]⟩
noncomputable def s56 : Str := ⟨#[98,121,116,101,97,114,114,97,121]⟩
noncomputable def s57 : Str := ⟨#[98,121,116,101,115]⟩
noncomputable def s58 : Str := ⟨#[99,108,97,115,115,109,101,116,104,111,100]⟩
noncomputable def s59 : Str := ⟨#[99,111,109,112,108,101,120]⟩
noncomputable def s60 : Str := ⟨#[100,105,99,116]⟩
noncomputable def s61 : Str := ⟨#[101,110,117,109,101,114,97,116,101]⟩
noncomputable def s62 : Str := ⟨#[102,105,108,116,101,114]⟩
noncomputable def s63 : Str := ⟨#[102,108,111,97,116]⟩
noncomputable def s64 : Str := ⟨#[102,114,111,122,101,110,115,101,116]⟩
noncomputable def s65 : Str := ⟨#[112,114,111,112,101,114,116,121]⟩
noncomputable def s66 : Str := ⟨#[105,110,116]⟩
noncomputable def s67 : Str := ⟨#[108,105,115,116]⟩
noncomputable def s68 : Str := ⟨#[109,97,112]⟩
noncomputable def s69 : Str := ⟨#[111,98,106,101,99,116]⟩
noncomputable def s70 : Str := ⟨#[114,97,110,103,101]⟩
noncomputable def s71 : Str := ⟨#[114,101,118,101,114,115,101,100]⟩
noncomputable def s72 : Str := ⟨#[115,101,116]⟩
noncomputable def s73 : Str := ⟨#[115,108,105,99,101]⟩
noncomputable def s74 : Str := ⟨#[115,116,97,116,105,99,109,101,116,104,111,100]⟩
noncomputable def s75 : Str := ⟨#[115,116,114]⟩
noncomputable def s76 : Str := ⟨#[115,117,112,101,114]⟩
noncomputable def s77 : Str := ⟨#[116,117,112,108,101]⟩
noncomputable def s78 : Str := ⟨#[116,121,112,101]⟩
noncomputable def s79 : Str := ⟨#[122,105,112]⟩
noncomputable def s80 : Str := ⟨#[95,95,100,101,98,117,103,95,95]⟩
noncomputable def s81 : Str := ⟨#[66,97,115,101,69,120,99,101,112,116,105,111,110]⟩
noncomputable def s82 : Str := ⟨#[66,97,115,101,69,120,99,101,112,116,105,111,110,71,114,111,117,112]⟩
noncomputable def s83 : Str := ⟨#[69,120,99,101,112,116,105,111,110]⟩
noncomputable def s84 : Str := ⟨#[71,101,110,101,114,97,116,111,114,69,120,105,116]⟩
noncomputable def s85 : Str := ⟨#[75,101,121,98,111,97,114,100,73,110,116,101,114,114,117,112,116]⟩
noncomputable def s86 : Str := ⟨#[83,121,115,116,101,109,69,120,105,116]⟩
noncomputable def s87 : Str := ⟨#[65,114,105,116,104,109,101,116,105,99,69,114,114,111,114]⟩
noncomputable def s88 : Str := ⟨#[65,115,115,101,114,116,105,111,110,69,114,114,111,114]⟩
noncomputable def s89 : Str := ⟨#[65,116,116,114,105,98,117,116,101,69,114,114,111,114]⟩
noncomputable def s90 : Str := ⟨#[66,117,102,102,101,114,69,114,114,111,114]⟩
noncomputable def s91 : Str := ⟨#[69,79,70,69,114,114,111,114]⟩
noncomputable def s92 : Str := ⟨#[73,109,112,111,114,116,69,114,114,111,114]⟩
noncomputable def s93 : Str := ⟨#[76,111,111,107,117,112,69,114,114,111,114]⟩
noncomputable def s94 : Str := ⟨#[77,101,109,111,114,121,69,114,114,111,114]⟩
noncomputable def s95 : Str := ⟨#[78,97,109,101,69,114,114,111,114]⟩
noncomputable def s96 : Str := ⟨#[79,83,69,114,114,111,114]⟩
noncomputable def s97 : Str := ⟨#[82,101,102,101,114,101,110,99,101,69,114,114,111,114]⟩
noncomputable def s98 : Str := ⟨#[82,117,110,116,105,109,101,69,114,114,111,114]⟩
noncomputable def s99 : Str := ⟨#[83,116,111,112,65,115,121,110,99,73,116,101,114,97,116,105,111,110]⟩
noncomputable def s100 : Str := ⟨#[83,116,111,112,73,116,101,114,97,116,105,111,110]⟩
noncomputable def s101 : Str := ⟨#[83,121,110,116,97,120,69,114,114,111,114]⟩
noncomputable def s102 : Str := ⟨#[83,121,115,116,101,109,69,114,114,111,114]⟩
noncomputable def s103 : Str := ⟨#[84,121,112,101,69,114,114,111,114]⟩
noncomputable def s104 : Str := ⟨#[86,97,108,117,101,69,114,114,111,114]⟩
noncomputable def s105 : Str := ⟨#[87,97,114,110,105,110,103]⟩
noncomputable def s106 : Str := ⟨#[70,108,111,97,116,105,110,103,80,111,105,110,116,69,114,114,111,114]⟩
noncomputable def s107 : Str := ⟨#[79,118,101,114,102,108,111,119,69,114,114,111,114]⟩
noncomputable def s108 : Str := ⟨#[90,101,114,111,68,105,118,105,115,105,111,110,69,114,114,111,114]⟩
noncomputable def s109 : Str := ⟨#[66,121,116,101,115,87,97,114,110,105,110,103]⟩
noncomputable def s110 : Str := ⟨#[68,101,112,114,101,99,97,116,105,111,110,87,97,114,110,105,110,103]⟩
noncomputable def s111 : Str := ⟨#[69,110,99,111,100,105,110,103,87,97,114,110,105,110,103]⟩
noncomputable def s112 : Str := ⟨#[70,117,116,117,114,101,87,97,114,110,105,110,103]⟩
noncomputable def s113 : Str := ⟨#[73,109,112,111,114,116,87,97,114,110,105,110,103]⟩
noncomputable def s114 : Str := ⟨#[80,101,110,100,105,110,103,68,101,112,114,101,99,97,116,105,111,110,87,97,114,110,105,110,103]⟩
noncomputable def s115 : Str := ⟨#[82,101,115,111,117,114,99,101,87,97,114,110,105,110,103]⟩
noncomputable def s116 : Str := ⟨#[82,117,110,116,105,109,101,87,97,114,110,105,110,103]⟩
noncomputable def s117 : Str := ⟨#[83,121,110,116,97,120,87,97,114,110,105,110,103]⟩
noncomputable def s118 : Str := ⟨#[85,110,105,99,111,100,101,87,97,114,110,105,110,103]⟩
noncomputable def s119 : Str := ⟨#[85,115,101,114,87,97,114,110,105,110,103]⟩
noncomputable def s120 : Str := ⟨#[66,108,111,99,107,105,110,103,73,79,69,114,114,111,114]⟩
noncomputable def s121 : Str := ⟨#[67,104,105,108,100,80,114,111,99,101,115,115,69,114,114,111,114]⟩
noncomputable def s122 : Str := ⟨#[67,111,110,110,101,99,116,105,111,110,69,114,114,111,114]⟩
noncomputable def s123 : Str := ⟨#[70,105,108,101,69,120,105,115,116,115,69,114,114,111,114]⟩
noncomputable def s124 : Str := ⟨#[70,105,108,101,78,111,116,70,111,117,110,100,69,114,114,111,114]⟩
noncomputable def s125 : Str := ⟨#[73,110,116,101,114,114,117,112,116,101,100,69,114,114,111,114]⟩
noncomputable def s126 : Str := ⟨#[73,115,65,68,105,114,101,99,116,111,114,121,69,114,114,111,114]⟩
noncomputable def s127 : Str := ⟨#[78,111,116,65,68,105,114,101,99,116,111,114,121,69,114,114,111,114]⟩
noncomputable def s128 : Str := ⟨#[80,101,114,109,105,115,115,105,111,110,69,114,114,111,114]⟩
noncomputable def s129 : Str := ⟨#[80,114,111,99,101,115,115,76,111,111,107,117,112,69,114,114,111,114]⟩
noncomputable def s130 : Str := ⟨#[84,105,109,101,111,117,116,69,114,114,111,114]⟩
noncomputable def s131 : Str := ⟨#[73,110,100,101,110,116,97,116,105,111,110,69,114,114,111,114]⟩
noncomputable def s132 : Str := ⟨#[95,73,110,99,111,109,112,108,101,116,101,73,110,112,117,116,69,114,114,111,114]⟩
noncomputable def s133 : Str := ⟨#[73,110,100,101,120,69,114,114,111,114]⟩
noncomputable def s134 : Str := ⟨#[75,101,121,69,114,114,111,114]⟩
noncomputable def s135 : Str := ⟨#[77,111,100,117,108,101,78,111,116,70,111,117,110,100,69,114,114,111,114]⟩
noncomputable def s136 : Str := ⟨#[78,111,116,73,109,112,108,101,109,101,110,116,101,100,69,114,114,111,114]⟩
noncomputable def s137 : Str := ⟨#[80,121,116,104,111,110,70,105,110,97,108,105,122,97,116,105,111,110,69,114,114,111,114]⟩
noncomputable def s138 : Str := ⟨#[82,101,99,117,114,115,105,111,110,69,114,114,111,114]⟩
noncomputable def s139 : Str := ⟨#[85,110,98,111,117,110,100,76,111,99,97,108,69,114,114,111,114]⟩
noncomputable def s140 : Str := ⟨#[85,110,105,99,111,100,101,69,114,114,111,114]⟩
noncomputable def s141 : Str := ⟨#[66,114,111,107,101,110,80,105,112,101,69,114,114,111,114]⟩
noncomputable def s142 : Str := ⟨#[67,111,110,110,101,99,116,105,111,110,65,98,111,114,116,101,100,69,114,114,111,114]⟩
noncomputable def s143 : Str := ⟨#[67,111,110,110,101,99,116,105,111,110,82,101,102,117,115,101,100,69,114,114,111,114]⟩
noncomputable def s144 : Str := ⟨#[67,111,110,110,101,99,116,105,111,110,82,101,115,101,116,69,114,114,111,114]⟩
noncomputable def s145 : Str := ⟨#[84,97,98,69,114,114,111,114]⟩
noncomputable def s146 : Str := ⟨#[85,110,105,99,111,100,101,68,101,99,111,100,101,69,114,114,111,114]⟩
noncomputable def s147 : Str := ⟨#[85,110,105,99,111,100,101,69,110,99,111,100,101,69,114,114,111,114]⟩
noncomputable def s148 : Str := ⟨#[85,110,105,99,111,100,101,84,114,97,110,115,108,97,116,101,69,114,114,111,114]⟩
noncomputable def s149 : Str := ⟨#[69,120,99,101,112,116,105,111,110,71,114,111,117,112]⟩
noncomputable def s150 : Str := ⟨#[69,110,118,105,114,111,110,109,101,110,116,69,114,114,111,114]⟩
noncomputable def s151 : Str := ⟨#[73,79,69,114,114,111,114]⟩
noncomputable def s152 : Str := ⟨#[111,112,101,110]⟩
noncomputable def s153 : Str := ⟨#[113,117,105,116]⟩
noncomputable def s154 : Str := ⟨#[101,120,105,116]⟩
noncomputable def s155 : Str := ⟨#[99,111,112,121,114,105,103,104,116]⟩
noncomputable def s156 : Str := ⟨#[99,114,101,100,105,116,115]⟩
noncomputable def s157 : Str := ⟨#[108,105,99,101,110,115,101]⟩
noncomputable def s158 : Str := ⟨#[104,101,108,112]⟩
noncomputable def s159 : Str := ⟨#[95,95,109,97,105,110,95,95]⟩
noncomputable def s160 : Str := ⟨#[95,115,114,101]⟩
noncomputable def s161 : Str := ⟨#[95,99,111,108,108,101,99,116,105,111,110,115]⟩
noncomputable def s162 : Str := ⟨#[105,109,112,111,114,116,46,108,111,97,100,101,100,46,95,115,114,101]⟩
noncomputable def s163 : Str := ⟨#[99,108,97,115,115,46,95,102,114,111,122,101,110,95,105,109,112,111,114,116,108,105,98,46,66,117,105,108,116,105,110,73,109,112,111,114,116,101,114]⟩
noncomputable def s164 : Str := ⟨#[119,97,116,99,104,101,100,46,105,109,112,111,114,116]⟩
noncomputable def s165 : Str := ⟨#[99,108,97,115,115,46,95,102,114,111,122,101,110,95,105,109,112,111,114,116,108,105,98,46,77,111,100,117,108,101,83,112,101,99]⟩
noncomputable def s166 : Str := ⟨#[115,121,115,46,109,111,100,117,108,101,115,46,98,111,111,107,101,100,45,101,112,111,99,104]⟩
noncomputable def s167 : Str := ⟨#[105,109,112,111,114,116,46,108,97,116,101,114,45,108,97,105,100,46,95,115,114,101]⟩
noncomputable def s168 : Str := ⟨#[119,97,116,99,104,101,100,46,108,105,98,114,97,114,121]⟩
noncomputable def s169 : Str := ⟨#[119,97,116,99,104,101,100,46,108,105,98,114,97,114,121,45,111,98,106,101,99,116,115]⟩
noncomputable def s170 : Str := ⟨#[119,97,116,99,104,101,100,46,108,105,98,114,97,114,121,45,100,101,101,112,46,95,115,114,101]⟩
noncomputable def s171 : Str := ⟨#[4,0,0,11,4,0,0,11,4,0,0,3,4,0,0,11,8,4,100,105,99,116,2]⟩
noncomputable def s172 : Str := ⟨#[105,109,112,111,114,116,46,108,111,97,100,101,100,46,95,99,111,108,108,101,99,116,105,111,110,115]⟩
noncomputable def s173 : Str := ⟨#[115,121,115,46,109,111,100,117,108,101,115,46,108,97,110,100,101,100,46,95,99,111,108,108,101,99,116,105,111,110,115]⟩
noncomputable def s174 : Str := ⟨#[105,109,112,111,114,116,46,108,97,116,101,114,45,108,97,105,100,46,95,99,111,108,108,101,99,116,105,111,110,115]⟩
noncomputable def s175 : Str := ⟨#[119,97,116,99,104,101,100,46,108,105,98,114,97,114,121,45,100,101,101,112,46,95,99,111,108,108,101,99,116,105,111,110,115]⟩
noncomputable def s176 : Str := ⟨#[4,0,0,29,4,0,0,29,4,0,0,3,4,0,0,29,8,4,100,105,99,116,2]⟩
noncomputable def s177 : Str := ⟨#[95,95,97,110,110,111,116,97,116,105,111,110,115,95,95]⟩
noncomputable def s178 : Str := ⟨#[95,95,98,117,105,108,116,105,110,115,95,95]⟩
noncomputable def s179 : Str := ⟨#[95,95,102,105,108,101,95,95]⟩
noncomputable def s180 : Str := ⟨#[47,99,108,97,105,109,47,99,117,116,46,112,121]⟩
noncomputable def s181 : Str := ⟨#[95,95,99,97,99,104,101,100,95,95]⟩
noncomputable def s182 : Str := ⟨#[100,101,113,117,101]⟩
noncomputable def s183 : Str := ⟨#[60,109,111,100,117,108,101,62]⟩
noncomputable def s184 : Str := ⟨#[116,101,109,112,108,97,116,101]⟩
noncomputable def s185 : Str := ⟨#[103,101,116,99,111,100,101,115,105,122,101]⟩
noncomputable def s186 : Str := ⟨#[97,115,99,105,105,95,105,115,99,97,115,101,100]⟩
noncomputable def s187 : Str := ⟨#[117,110,105,99,111,100,101,95,105,115,99,97,115,101,100]⟩
noncomputable def s188 : Str := ⟨#[97,115,99,105,105,95,116,111,108,111,119,101,114]⟩
noncomputable def s189 : Str := ⟨#[117,110,105,99,111,100,101,95,116,111,108,111,119,101,114]⟩
noncomputable def s190 : Str := ⟨#[77,65,71,73,67]⟩
noncomputable def s191 : Str := ⟨#[67,79,68,69,83,73,90,69]⟩
noncomputable def s192 : Str := ⟨#[77,65,88,82,69,80,69,65,84]⟩
noncomputable def s193 : Str := ⟨#[77,65,88,71,82,79,85,80,83]⟩
noncomputable def s194 : Str := ⟨#[32,83,82,69,32,50,46,50,46,50,32,67,111,112,121,114,105,103,104,116,32,40,99,41,32,49,57,57,55,45,50,48,48,50,32,98,121,32,83,101,99,114,101,116,32,76,97,98,115,32,65,66,32]⟩
noncomputable def s195 : Str := ⟨#[95,95,109,111,100,117,108,101,95,95]⟩
noncomputable def s196 : Str := ⟨#[95,102,114,111,122,101,110,95,105,109,112,111,114,116,108,105,98]⟩
noncomputable def s197 : Str := ⟨#[95,95,102,105,114,115,116,108,105,110,101,110,111,95,95]⟩
noncomputable def s198 : Str := ⟨#[95,79,82,73,71,73,78]⟩
noncomputable def s199 : Str := ⟨#[98,117,105,108,116,45,105,110]⟩
noncomputable def s200 : Str := ⟨#[102,105,110,100,95,115,112,101,99]⟩
noncomputable def s201 : Str := ⟨#[99,114,101,97,116,101,95,109,111,100,117,108,101]⟩
noncomputable def s202 : Str := ⟨#[101,120,101,99,95,109,111,100,117,108,101]⟩
noncomputable def s203 : Str := ⟨#[103,101,116,95,99,111,100,101]⟩
noncomputable def s204 : Str := ⟨#[103,101,116,95,115,111,117,114,99,101]⟩
noncomputable def s205 : Str := ⟨#[105,115,95,112,97,99,107,97,103,101]⟩
noncomputable def s206 : Str := ⟨#[108,111,97,100,95,109,111,100,117,108,101]⟩
noncomputable def s207 : Str := ⟨#[95,95,115,116,97,116,105,99,95,97,116,116,114,105,98,117,116,101,115,95,95]⟩
noncomputable def s208 : Str := ⟨#[95,95,100,105,99,116,95,95]⟩
noncomputable def s209 : Str := ⟨#[95,95,119,101,97,107,114,101,102,95,95]⟩
noncomputable def s210 : Str := ⟨#[66,117,105,108,116,105,110,73,109,112,111,114,116,101,114]⟩
noncomputable def s211 : Str := ⟨#[6,189,10,95,95,109,111,100,117,108,101,95,95,6,186,17,95,102,114,111,122,101,110,95,105,109,112,111,114,116,108,105,98,6,190,15,95,95,102,105,114,115,116,108,105,110,101,110,111,95,95,4,187,0,971,6,191,7,95,95,100,111,99,95,95,9,52,95,102,114,111,122,101,110,95,105,109,112,111,114,116,108,105,98,46,66,117,105,108,116,105,110,73,109,112,111,114,116,101,114,46,95,95,100,111,99,95,95,58,115,116,114,35,111,112,97,113,117,101,6,192,7,95,79,82,73,71,73,78,6,188,8,98,117,105,108,116,45,105,110,6,193,9,102,105,110,100,95,115,112,101,99,9,50,95,102,114,111,122,101,110,95,105,109,112,111,114,116,108,105,98,46,66,117,105,108,116,105,110,73,109,112,111,114,116,101,114,46,102,105,110,100,95,115,112,101,99,35,111,112,97,113,117,101,6,194,13,99,114,101,97,116,101,95,109,111,100,117,108,101,9,54,95,102,114,111,122,101,110,95,105,109,112,111,114,116,108,105,98,46,66,117,105,108,116,105,110,73,109,112,111,114,116,101,114,46,99,114,101,97,116,101,95,109,111,100,117,108,101,35,111,112,97,113,117,101,6,195,11,101,120,101,99,95,109,111,100,117,108,101,9,52,95,102,114,111,122,101,110,95,105,109,112,111,114,116,108,105,98,46,66,117,105,108,116,105,110,73,109,112,111,114,116,101,114,46,101,120,101,99,95,109,111,100,117,108,101,35,111,112,97,113,117,101,6,196,8,103,101,116,95,99,111,100,101,9,49,95,102,114,111,122,101,110,95,105,109,112,111,114,116,108,105,98,46,66,117,105,108,116,105,110,73,109,112,111,114,116,101,114,46,103,101,116,95,99,111,100,101,35,111,112,97,113,117,101,6,197,10,103,101,116,95,115,111,117,114,99,101,9,51,95,102,114,111,122,101,110,95,105,109,112,111,114,116,108,105,98,46,66,117,105,108,116,105,110,73,109,112,111,114,116,101,114,46,103,101,116,95,115,111,117,114,99,101,35,111,112,97,113,117,101,6,198,10,105,115,95,112,97,99,107,97,103,101,9,51,95,102,114,111,122,101,110,95,105,109,112,111,114,116,108,105,98,46,66,117,105,108,116,105,110,73,109,112,111,114,116,101,114,46,105,115,95,112,97,99,107,97,103,101,35,111,112,97,113,117,101,6,199,11,108,111,97,100,95,109,111,100,117,108,101,9,52,95,102,114,111,122,101,110,95,105,109,112,111,114,116,108,105,98,46,66,117,105,108,116,105,110,73,109,112,111,114,116,101,114,46,108,111,97,100,95,109,111,100,117,108,101,35,111,112,97,113,117,101,6,200,21,95,95,115,116,97,116,105,99,95,97,116,116,114,105,98,117,116,101,115,95,95,4,0,0,15,6,202,8,95,95,100,105,99,116,95,95,4,0,0,16,6,204,11,95,95,119,101,97,107,114,101,102,95,95,4,0,0,17]⟩
noncomputable def s212 : Str := ⟨#[6,227,10,95,95,109,111,100,117,108,101,95,95,6,217,17,95,102,114,111,122,101,110,95,105,109,112,111,114,116,108,105,98,6,228,15,95,95,102,105,114,115,116,108,105,110,101,110,111,95,95,4,218,0,562,6,229,7,95,95,100,111,99,95,95,9,47,95,102,114,111,122,101,110,95,105,109,112,111,114,116,108,105,98,46,77,111,100,117,108,101,83,112,101,99,46,95,95,100,111,99,95,95,58,115,116,114,35,111,112,97,113,117,101,6,230,8,95,95,105,110,105,116,95,95,9,44,95,102,114,111,122,101,110,95,105,109,112,111,114,116,108,105,98,46,77,111,100,117,108,101,83,112,101,99,46,95,95,105,110,105,116,95,95,35,111,112,97,113,117,101,6,231,8,95,95,114,101,112,114,95,95,9,44,95,102,114,111,122,101,110,95,105,109,112,111,114,116,108,105,98,46,77,111,100,117,108,101,83,112,101,99,46,95,95,114,101,112,114,95,95,35,111,112,97,113,117,101,6,232,6,95,95,101,113,95,95,9,42,95,102,114,111,122,101,110,95,105,109,112,111,114,116,108,105,98,46,77,111,100,117,108,101,83,112,101,99,46,95,95,101,113,95,95,35,111,112,97,113,117,101,6,233,6,99,97,99,104,101,100,9,42,95,102,114,111,122,101,110,95,105,109,112,111,114,116,108,105,98,46,77,111,100,117,108,101,83,112,101,99,46,99,97,99,104,101,100,35,111,112,97,113,117,101,6,234,6,112,97,114,101,110,116,9,42,95,102,114,111,122,101,110,95,105,109,112,111,114,116,108,105,98,46,77,111,100,117,108,101,83,112,101,99,46,112,97,114,101,110,116,35,111,112,97,113,117,101,6,235,12,104,97,115,95,108,111,99,97,116,105,111,110,9,48,95,102,114,111,122,101,110,95,105,109,112,111,114,116,108,105,98,46,77,111,100,117,108,101,83,112,101,99,46,104,97,115,95,108,111,99,97,116,105,111,110,35,111,112,97,113,117,101,6,236,21,95,95,115,116,97,116,105,99,95,97,116,116,114,105,98,117,116,101,115,95,95,4,0,0,23,6,238,8,95,95,100,105,99,116,95,95,4,0,0,24,6,240,11,95,95,119,101,97,107,114,101,102,95,95,4,0,0,25,6,241,8,95,95,104,97,115,104,95,95,0]⟩
noncomputable def s213 : Str := ⟨#[110,97,109,101]⟩
noncomputable def s214 : Str := ⟨#[108,111,97,100,101,114]⟩
noncomputable def s215 : Str := ⟨#[111,114,105,103,105,110]⟩
noncomputable def s216 : Str := ⟨#[108,111,97,100,101,114,95,115,116,97,116,101]⟩
noncomputable def s217 : Str := ⟨#[115,117,98,109,111,100,117,108,101,95,115,101,97,114,99,104,95,108,111,99,97,116,105,111,110,115]⟩
noncomputable def s218 : Str := ⟨#[95,117,110,105,110,105,116,105,97,108,105,122,101,100,95,115,117,98,109,111,100,117,108,101,115]⟩
noncomputable def s219 : Str := ⟨#[95,115,101,116,95,102,105,108,101,97,116,116,114]⟩
noncomputable def s220 : Str := ⟨#[95,99,97,99,104,101,100]⟩
noncomputable def s221 : Str := ⟨#[95,105,110,105,116,105,97,108,105,122,105,110,103]⟩
noncomputable def s222 : Str := ⟨#[95,95,105,110,105,116,95,95]⟩
noncomputable def s223 : Str := ⟨#[95,95,114,101,112,114,95,95]⟩
noncomputable def s224 : Str := ⟨#[95,95,101,113,95,95]⟩
noncomputable def s225 : Str := ⟨#[99,97,99,104,101,100]⟩
noncomputable def s226 : Str := ⟨#[112,97,114,101,110,116]⟩
noncomputable def s227 : Str := ⟨#[104,97,115,95,108,111,99,97,116,105,111,110]⟩
noncomputable def s228 : Str := ⟨#[95,95,104,97,115,104,95,95]⟩
noncomputable def s229 : Str := ⟨#[77,111,100,117,108,101,83,112,101,99]⟩
noncomputable def s230 : Str := ⟨#[6,296,8,95,95,110,97,109,101,95,95,6,295,12,95,99,111,108,108,101,99,116,105,111,110,115,6,297,7,95,95,100,111,99,95,95,9,31,95,99,111,108,108,101,99,116,105,111,110,115,46,95,95,100,111,99,95,95,58,115,116,114,35,111,112,97,113,117,101,6,299,11,95,95,112,97,99,107,97,103,101,95,95,6,298,0,6,300,10,95,95,108,111,97,100,101,114,95,95,4,0,0,14,6,301,8,95,95,115,112,101,99,95,95,4,0,0,33,6,302,15,95,99,111,117,110,116,95,101,108,101,109,101,110,116,115,9,28,95,99,111,108,108,101,99,116,105,111,110,115,46,95,99,111,117,110,116,95,101,108,101,109,101,110,116,115,6,303,5,100,101,113,117,101,8,17,99,111,108,108,101,99,116,105,111,110,115,46,100,101,113,117,101,6,304,11,100,101,102,97,117,108,116,100,105,99,116,8,23,99,111,108,108,101,99,116,105,111,110,115,46,100,101,102,97,117,108,116,100,105,99,116,6,305,15,95,100,101,113,117,101,95,105,116,101,114,97,116,111,114,8,27,99,111,108,108,101,99,116,105,111,110,115,46,95,100,101,113,117,101,95,105,116,101,114,97,116,111,114,6,306,23,95,100,101,113,117,101,95,114,101,118,101,114,115,101,95,105,116,101,114,97,116,111,114,8,35,99,111,108,108,101,99,116,105,111,110,115,46,95,100,101,113,117,101,95,114,101,118,101,114,115,101,95,105,116,101,114,97,116,111,114,6,307,12,95,116,117,112,108,101,103,101,116,116,101,114,8,24,99,111,108,108,101,99,116,105,111,110,115,46,95,116,117,112,108,101,103,101,116,116,101,114,6,308,11,79,114,100,101,114,101,100,68,105,99,116,8,23,99,111,108,108,101,99,116,105,111,110,115,46,79,114,100,101,114,101,100,68,105,99,116]⟩
noncomputable def s231 : Str := ⟨#[95,99,111,117,110,116,95,101,108,101,109,101,110,116,115]⟩
noncomputable def s232 : Str := ⟨#[100,101,102,97,117,108,116,100,105,99,116]⟩
noncomputable def s233 : Str := ⟨#[95,100,101,113,117,101,95,105,116,101,114,97,116,111,114]⟩
noncomputable def s234 : Str := ⟨#[95,100,101,113,117,101,95,114,101,118,101,114,115,101,95,105,116,101,114,97,116,111,114]⟩
noncomputable def s235 : Str := ⟨#[95,116,117,112,108,101,103,101,116,116,101,114]⟩
noncomputable def s236 : Str := ⟨#[79,114,100,101,114,101,100,68,105,99,116]⟩
noncomputable def s237 : Str := ⟨#[99,112,121,51,49,51,46,117,110,105,116,116,101,115,116,46,117,116,105,108]⟩
noncomputable def s238 : Str := ⟨#[95,119,97,108,108]⟩
noncomputable def s239 : Str := ⟨#[117,110,111,114,100,101,114,97,98,108,101,95,108,105,115,116,95,100,105,102,102,101,114,101,110,99,101]⟩
noncomputable def s240 : Str := ⟨#[116,104,114,101,101,95,119,97,121,95,99,109,112]⟩
noncomputable def s241 : Str := ⟨#[95,81,85,79,80,82,73,95,77,65,80]⟩
noncomputable def s242 : Str := ⟨#[101,120,112,101,99,116,101,100]⟩
noncomputable def s243 : Str := ⟨#[97,99,116,117,97,108]⟩
noncomputable def s244 : Str := ⟨#[109,105,115,115,105,110,103]⟩
noncomputable def s245 : Str := ⟨#[105,116,101,109]⟩
noncomputable def s246 : Str := ⟨#[61,48,48]⟩
noncomputable def s247 : Str := ⟨#[61,48,49]⟩
noncomputable def s248 : Str := ⟨#[61,48,50]⟩
noncomputable def s249 : Str := ⟨#[61,48,51]⟩
noncomputable def s250 : Str := ⟨#[61,48,52]⟩
noncomputable def s251 : Str := ⟨#[61,48,53]⟩
noncomputable def s252 : Str := ⟨#[61,48,54]⟩
noncomputable def s253 : Str := ⟨#[61,48,55]⟩
noncomputable def s254 : Str := ⟨#[61,48,56]⟩
noncomputable def s255 : Str := ⟨#[61,48,57]⟩
noncomputable def s256 : Str := ⟨#[61,48,65]⟩
noncomputable def s257 : Str := ⟨#[61,48,66]⟩
noncomputable def s258 : Str := ⟨#[61,48,67]⟩
noncomputable def s259 : Str := ⟨#[61,48,68]⟩
noncomputable def s260 : Str := ⟨#[61,48,69]⟩
noncomputable def s261 : Str := ⟨#[61,48,70]⟩
noncomputable def s262 : Str := ⟨#[61,49,48]⟩
noncomputable def s263 : Str := ⟨#[61,49,49]⟩
noncomputable def s264 : Str := ⟨#[61,49,50]⟩
noncomputable def s265 : Str := ⟨#[61,49,51]⟩
noncomputable def s266 : Str := ⟨#[61,49,52]⟩
noncomputable def s267 : Str := ⟨#[61,49,53]⟩
noncomputable def s268 : Str := ⟨#[61,49,54]⟩
noncomputable def s269 : Str := ⟨#[61,49,55]⟩
noncomputable def s270 : Str := ⟨#[61,49,56]⟩
noncomputable def s271 : Str := ⟨#[61,49,57]⟩
noncomputable def s272 : Str := ⟨#[61,49,65]⟩
noncomputable def s273 : Str := ⟨#[61,49,66]⟩
noncomputable def s274 : Str := ⟨#[61,49,67]⟩
noncomputable def s275 : Str := ⟨#[61,49,68]⟩
noncomputable def s276 : Str := ⟨#[61,49,69]⟩
noncomputable def s277 : Str := ⟨#[61,49,70]⟩
noncomputable def s278 : Str := ⟨#[61,50,48]⟩
noncomputable def s279 : Str := ⟨#[61,50,49]⟩
noncomputable def s280 : Str := ⟨#[61,50,50]⟩
noncomputable def s281 : Str := ⟨#[61,50,51]⟩
noncomputable def s282 : Str := ⟨#[61,50,52]⟩
noncomputable def s283 : Str := ⟨#[61,50,53]⟩
noncomputable def s284 : Str := ⟨#[61,50,54]⟩
noncomputable def s285 : Str := ⟨#[61,50,55]⟩
noncomputable def s286 : Str := ⟨#[61,50,56]⟩
noncomputable def s287 : Str := ⟨#[61,50,57]⟩
noncomputable def s288 : Str := ⟨#[61,50,65]⟩
noncomputable def s289 : Str := ⟨#[61,50,66]⟩
noncomputable def s290 : Str := ⟨#[61,50,67]⟩
noncomputable def s291 : Str := ⟨#[61,50,68]⟩
noncomputable def s292 : Str := ⟨#[61,50,69]⟩
noncomputable def s293 : Str := ⟨#[61,50,70]⟩
noncomputable def s294 : Str := ⟨#[61,51,48]⟩
noncomputable def s295 : Str := ⟨#[61,51,49]⟩
noncomputable def s296 : Str := ⟨#[61,51,50]⟩
noncomputable def s297 : Str := ⟨#[61,51,51]⟩
noncomputable def s298 : Str := ⟨#[61,51,52]⟩
noncomputable def s299 : Str := ⟨#[61,51,53]⟩
noncomputable def s300 : Str := ⟨#[61,51,54]⟩
noncomputable def s301 : Str := ⟨#[61,51,55]⟩
noncomputable def s302 : Str := ⟨#[61,51,56]⟩
noncomputable def s303 : Str := ⟨#[61,51,57]⟩
noncomputable def s304 : Str := ⟨#[61,51,65]⟩
noncomputable def s305 : Str := ⟨#[61,51,66]⟩
noncomputable def s306 : Str := ⟨#[61,51,67]⟩
noncomputable def s307 : Str := ⟨#[61,51,68]⟩
noncomputable def s308 : Str := ⟨#[61,51,69]⟩
noncomputable def s309 : Str := ⟨#[61,51,70]⟩
noncomputable def s310 : Str := ⟨#[61,52,48]⟩
noncomputable def s311 : Str := ⟨#[61,52,49]⟩
noncomputable def s312 : Str := ⟨#[61,52,50]⟩
noncomputable def s313 : Str := ⟨#[61,52,51]⟩
noncomputable def s314 : Str := ⟨#[61,52,52]⟩
noncomputable def s315 : Str := ⟨#[61,52,53]⟩
noncomputable def s316 : Str := ⟨#[61,52,54]⟩
noncomputable def s317 : Str := ⟨#[61,52,55]⟩
noncomputable def s318 : Str := ⟨#[61,52,56]⟩
noncomputable def s319 : Str := ⟨#[61,52,57]⟩
noncomputable def s320 : Str := ⟨#[61,52,65]⟩
noncomputable def s321 : Str := ⟨#[61,52,66]⟩
noncomputable def s322 : Str := ⟨#[61,52,67]⟩
noncomputable def s323 : Str := ⟨#[61,52,68]⟩
noncomputable def s324 : Str := ⟨#[61,52,69]⟩
noncomputable def s325 : Str := ⟨#[61,52,70]⟩
noncomputable def s326 : Str := ⟨#[61,53,48]⟩
noncomputable def s327 : Str := ⟨#[61,53,49]⟩
noncomputable def s328 : Str := ⟨#[61,53,50]⟩
noncomputable def s329 : Str := ⟨#[61,53,51]⟩
noncomputable def s330 : Str := ⟨#[61,53,52]⟩
noncomputable def s331 : Str := ⟨#[61,53,53]⟩
noncomputable def s332 : Str := ⟨#[61,53,54]⟩
noncomputable def s333 : Str := ⟨#[61,53,55]⟩
noncomputable def s334 : Str := ⟨#[61,53,56]⟩
noncomputable def s335 : Str := ⟨#[61,53,57]⟩
noncomputable def s336 : Str := ⟨#[61,53,65]⟩
noncomputable def s337 : Str := ⟨#[61,53,66]⟩
noncomputable def s338 : Str := ⟨#[61,53,67]⟩
noncomputable def s339 : Str := ⟨#[61,53,68]⟩
noncomputable def s340 : Str := ⟨#[61,53,69]⟩
noncomputable def s341 : Str := ⟨#[61,53,70]⟩
noncomputable def s342 : Str := ⟨#[61,54,48]⟩
noncomputable def s343 : Str := ⟨#[61,54,49]⟩
noncomputable def s344 : Str := ⟨#[61,54,50]⟩
noncomputable def s345 : Str := ⟨#[61,54,51]⟩
noncomputable def s346 : Str := ⟨#[61,54,52]⟩
noncomputable def s347 : Str := ⟨#[61,54,53]⟩
noncomputable def s348 : Str := ⟨#[61,54,54]⟩
noncomputable def s349 : Str := ⟨#[61,54,55]⟩
noncomputable def s350 : Str := ⟨#[61,54,56]⟩
noncomputable def s351 : Str := ⟨#[61,54,57]⟩
noncomputable def s352 : Str := ⟨#[61,54,65]⟩
noncomputable def s353 : Str := ⟨#[61,54,66]⟩
noncomputable def s354 : Str := ⟨#[61,54,67]⟩
noncomputable def s355 : Str := ⟨#[61,54,68]⟩
noncomputable def s356 : Str := ⟨#[61,54,69]⟩
noncomputable def s357 : Str := ⟨#[61,54,70]⟩
noncomputable def s358 : Str := ⟨#[61,55,48]⟩
noncomputable def s359 : Str := ⟨#[61,55,49]⟩
noncomputable def s360 : Str := ⟨#[61,55,50]⟩
noncomputable def s361 : Str := ⟨#[61,55,51]⟩
noncomputable def s362 : Str := ⟨#[61,55,52]⟩
noncomputable def s363 : Str := ⟨#[61,55,53]⟩
noncomputable def s364 : Str := ⟨#[61,55,54]⟩
noncomputable def s365 : Str := ⟨#[61,55,55]⟩
noncomputable def s366 : Str := ⟨#[61,55,56]⟩
noncomputable def s367 : Str := ⟨#[61,55,57]⟩
noncomputable def s368 : Str := ⟨#[61,55,65]⟩
noncomputable def s369 : Str := ⟨#[61,55,66]⟩
noncomputable def s370 : Str := ⟨#[61,55,67]⟩
noncomputable def s371 : Str := ⟨#[61,55,68]⟩
noncomputable def s372 : Str := ⟨#[61,55,69]⟩
noncomputable def s373 : Str := ⟨#[61,55,70]⟩
noncomputable def s374 : Str := ⟨#[61,56,48]⟩
noncomputable def s375 : Str := ⟨#[61,56,49]⟩
noncomputable def s376 : Str := ⟨#[61,56,50]⟩
noncomputable def s377 : Str := ⟨#[61,56,51]⟩
noncomputable def s378 : Str := ⟨#[61,56,52]⟩
noncomputable def s379 : Str := ⟨#[61,56,53]⟩
noncomputable def s380 : Str := ⟨#[61,56,54]⟩
noncomputable def s381 : Str := ⟨#[61,56,55]⟩
noncomputable def s382 : Str := ⟨#[61,56,56]⟩
noncomputable def s383 : Str := ⟨#[61,56,57]⟩
noncomputable def s384 : Str := ⟨#[61,56,65]⟩
noncomputable def s385 : Str := ⟨#[61,56,66]⟩
noncomputable def s386 : Str := ⟨#[61,56,67]⟩
noncomputable def s387 : Str := ⟨#[61,56,68]⟩
noncomputable def s388 : Str := ⟨#[61,56,69]⟩
noncomputable def s389 : Str := ⟨#[61,56,70]⟩
noncomputable def s390 : Str := ⟨#[61,57,48]⟩
noncomputable def s391 : Str := ⟨#[61,57,49]⟩
noncomputable def s392 : Str := ⟨#[61,57,50]⟩
noncomputable def s393 : Str := ⟨#[61,57,51]⟩
noncomputable def s394 : Str := ⟨#[61,57,52]⟩
noncomputable def s395 : Str := ⟨#[61,57,53]⟩
noncomputable def s396 : Str := ⟨#[61,57,54]⟩
noncomputable def s397 : Str := ⟨#[61,57,55]⟩
noncomputable def s398 : Str := ⟨#[61,57,56]⟩
noncomputable def s399 : Str := ⟨#[61,57,57]⟩
noncomputable def s400 : Str := ⟨#[61,57,65]⟩
noncomputable def s401 : Str := ⟨#[61,57,66]⟩
noncomputable def s402 : Str := ⟨#[61,57,67]⟩
noncomputable def s403 : Str := ⟨#[61,57,68]⟩
noncomputable def s404 : Str := ⟨#[61,57,69]⟩
noncomputable def s405 : Str := ⟨#[61,57,70]⟩
noncomputable def s406 : Str := ⟨#[61,65,48]⟩
noncomputable def s407 : Str := ⟨#[61,65,49]⟩
noncomputable def s408 : Str := ⟨#[61,65,50]⟩
noncomputable def s409 : Str := ⟨#[61,65,51]⟩
noncomputable def s410 : Str := ⟨#[61,65,52]⟩
noncomputable def s411 : Str := ⟨#[61,65,53]⟩
noncomputable def s412 : Str := ⟨#[61,65,54]⟩
noncomputable def s413 : Str := ⟨#[61,65,55]⟩
noncomputable def s414 : Str := ⟨#[61,65,56]⟩
noncomputable def s415 : Str := ⟨#[61,65,57]⟩
noncomputable def s416 : Str := ⟨#[61,65,65]⟩
noncomputable def s417 : Str := ⟨#[61,65,66]⟩
noncomputable def s418 : Str := ⟨#[61,65,67]⟩
noncomputable def s419 : Str := ⟨#[61,65,68]⟩
noncomputable def s420 : Str := ⟨#[61,65,69]⟩
noncomputable def s421 : Str := ⟨#[61,65,70]⟩
noncomputable def s422 : Str := ⟨#[61,66,48]⟩
noncomputable def s423 : Str := ⟨#[61,66,49]⟩
noncomputable def s424 : Str := ⟨#[61,66,50]⟩
noncomputable def s425 : Str := ⟨#[61,66,51]⟩
noncomputable def s426 : Str := ⟨#[61,66,52]⟩
noncomputable def s427 : Str := ⟨#[61,66,53]⟩
noncomputable def s428 : Str := ⟨#[61,66,54]⟩
noncomputable def s429 : Str := ⟨#[61,66,55]⟩
noncomputable def s430 : Str := ⟨#[61,66,56]⟩
noncomputable def s431 : Str := ⟨#[61,66,57]⟩
noncomputable def s432 : Str := ⟨#[61,66,65]⟩
noncomputable def s433 : Str := ⟨#[61,66,66]⟩
noncomputable def s434 : Str := ⟨#[61,66,67]⟩
noncomputable def s435 : Str := ⟨#[61,66,68]⟩
noncomputable def s436 : Str := ⟨#[61,66,69]⟩
noncomputable def s437 : Str := ⟨#[61,66,70]⟩
noncomputable def s438 : Str := ⟨#[61,67,48]⟩
noncomputable def s439 : Str := ⟨#[61,67,49]⟩
noncomputable def s440 : Str := ⟨#[61,67,50]⟩
noncomputable def s441 : Str := ⟨#[61,67,51]⟩
noncomputable def s442 : Str := ⟨#[61,67,52]⟩
noncomputable def s443 : Str := ⟨#[61,67,53]⟩
noncomputable def s444 : Str := ⟨#[61,67,54]⟩
noncomputable def s445 : Str := ⟨#[61,67,55]⟩
noncomputable def s446 : Str := ⟨#[61,67,56]⟩
noncomputable def s447 : Str := ⟨#[61,67,57]⟩
noncomputable def s448 : Str := ⟨#[61,67,65]⟩
noncomputable def s449 : Str := ⟨#[61,67,66]⟩
noncomputable def s450 : Str := ⟨#[61,67,67]⟩
noncomputable def s451 : Str := ⟨#[61,67,68]⟩
noncomputable def s452 : Str := ⟨#[61,67,69]⟩
noncomputable def s453 : Str := ⟨#[61,67,70]⟩
noncomputable def s454 : Str := ⟨#[61,68,48]⟩
noncomputable def s455 : Str := ⟨#[61,68,49]⟩
noncomputable def s456 : Str := ⟨#[61,68,50]⟩
noncomputable def s457 : Str := ⟨#[61,68,51]⟩
noncomputable def s458 : Str := ⟨#[61,68,52]⟩
noncomputable def s459 : Str := ⟨#[61,68,53]⟩
noncomputable def s460 : Str := ⟨#[61,68,54]⟩
noncomputable def s461 : Str := ⟨#[61,68,55]⟩
noncomputable def s462 : Str := ⟨#[61,68,56]⟩
noncomputable def s463 : Str := ⟨#[61,68,57]⟩
noncomputable def s464 : Str := ⟨#[61,68,65]⟩
noncomputable def s465 : Str := ⟨#[61,68,66]⟩
noncomputable def s466 : Str := ⟨#[61,68,67]⟩
noncomputable def s467 : Str := ⟨#[61,68,68]⟩
noncomputable def s468 : Str := ⟨#[61,68,69]⟩
noncomputable def s469 : Str := ⟨#[61,68,70]⟩
noncomputable def s470 : Str := ⟨#[61,69,48]⟩
noncomputable def s471 : Str := ⟨#[61,69,49]⟩
noncomputable def s472 : Str := ⟨#[61,69,50]⟩
noncomputable def s473 : Str := ⟨#[61,69,51]⟩
noncomputable def s474 : Str := ⟨#[61,69,52]⟩
noncomputable def s475 : Str := ⟨#[61,69,53]⟩
noncomputable def s476 : Str := ⟨#[61,69,54]⟩
noncomputable def s477 : Str := ⟨#[61,69,55]⟩
noncomputable def s478 : Str := ⟨#[61,69,56]⟩
noncomputable def s479 : Str := ⟨#[61,69,57]⟩
noncomputable def s480 : Str := ⟨#[61,69,65]⟩
noncomputable def s481 : Str := ⟨#[61,69,66]⟩
noncomputable def s482 : Str := ⟨#[61,69,67]⟩
noncomputable def s483 : Str := ⟨#[61,69,68]⟩
noncomputable def s484 : Str := ⟨#[61,69,69]⟩
noncomputable def s485 : Str := ⟨#[61,69,70]⟩
noncomputable def s486 : Str := ⟨#[61,70,48]⟩
noncomputable def s487 : Str := ⟨#[61,70,49]⟩
noncomputable def s488 : Str := ⟨#[61,70,50]⟩
noncomputable def s489 : Str := ⟨#[61,70,51]⟩
noncomputable def s490 : Str := ⟨#[61,70,52]⟩
noncomputable def s491 : Str := ⟨#[61,70,53]⟩
noncomputable def s492 : Str := ⟨#[61,70,54]⟩
noncomputable def s493 : Str := ⟨#[61,70,55]⟩
noncomputable def s494 : Str := ⟨#[61,70,56]⟩
noncomputable def s495 : Str := ⟨#[61,70,57]⟩
noncomputable def s496 : Str := ⟨#[61,70,65]⟩
noncomputable def s497 : Str := ⟨#[61,70,66]⟩
noncomputable def s498 : Str := ⟨#[61,70,67]⟩
noncomputable def s499 : Str := ⟨#[61,70,68]⟩
noncomputable def s500 : Str := ⟨#[61,70,69]⟩
noncomputable def s501 : Str := ⟨#[61,70,70]⟩
noncomputable def s502 : Str := ⟨#[99,112,121,51,49,51,46,101,109,97,105,108,46,113,117,111,112,114,105,109,105,109,101]⟩
noncomputable def s503 : Str := ⟨#[95,81,85,79,80,82,73,95,72,69,65,68,69,82,95,77,65,80]⟩
noncomputable def s504 : Str := ⟨#[95,81,85,79,80,82,73,95,66,79,68,89,95,77,65,80]⟩
noncomputable def s505 : Str := ⟨#[97,115,99,105,105,95,108,111,119,101,114,99,97,115,101]⟩
noncomputable def s506 : Str := ⟨#[97,98,99,100,101,102,103,104,105,106,107,108,109,110,111,112,113,114,115,116,117,118,119,120,121,122]⟩
noncomputable def s507 : Str := ⟨#[97,115,99,105,105,95,117,112,112,101,114,99,97,115,101]⟩
noncomputable def s508 : Str := ⟨#[65,66,67,68,69,70,71,72,73,74,75,76,77,78,79,80,81,82,83,84,85,86,87,88,89,90]⟩
noncomputable def s509 : Str := ⟨#[97,115,99,105,105,95,108,101,116,116,101,114,115]⟩
noncomputable def s510 : Str := ⟨#[97,98,99,100,101,102,103,104,105,106,107,108,109,110,111,112,113,114,115,116,117,118,119,120,121,122,65,66,67,68,69,70,71,72,73,74,75,76,77,78,79,80,81,82,83,84,85,86,87,88,89,90]⟩
noncomputable def s511 : Str := ⟨#[100,105,103,105,116,115]⟩
noncomputable def s512 : Str := ⟨#[48,49,50,51,52,53,54,55,56,57]⟩
noncomputable def s513 : Str := ⟨#[104,101,120,100,105,103,105,116,115]⟩
noncomputable def s514 : Str := ⟨#[48,49,50,51,52,53,54,55,56,57,97,98,99,100,101,102,65,66,67,68,69,70]⟩
noncomputable def s515 : Str := ⟨#[117,110,113,117,111,116,101]⟩
noncomputable def s516 : Str := ⟨#[113,117,111,116,101]⟩
noncomputable def s517 : Str := ⟨#[113,117,111,116,101,95,113,117,111,112,114,105,109,105,109,101]⟩
noncomputable def s518 : Str := ⟨#[95,81,85,79,80,82,73,95,66,79,68,89,95,69,78,67,79,68,69,95,77,65,80]⟩
noncomputable def z0 (P : Params) : Obj := ⟨(.type PySem.W.SL.s14018661285674007319x4),.none,(.dict #[⟨(PySem.PyData.keyHash P s0),(.str s0 1),(.str s1 160)⟩,⟨(PySem.PyData.keyHash P s2),(.str s2 2),(.builtin "builtins.__doc__:str#opaque")⟩,⟨(PySem.PyData.keyHash P s3),(.str s3 3),(.builtin "builtins.__package__:str#opaque")⟩,⟨(PySem.PyData.keyHash P s4),(.str s4 4),(.builtin "builtins.__loader__:shared#opaque")⟩,⟨(PySem.PyData.keyHash P s5),(.str s5 5),(.builtin PySem.W.SL.s11665532747177232413x24)⟩,⟨(PySem.PyData.keyHash P s6),(.str s6 6),(.builtin PySem.W.SL.s15183661809925369436x15)⟩,⟨(PySem.PyData.keyHash P s7),(.str s7 7),(.builtin PySem.W.SL.s13915890719876406383x10)⟩,⟨(PySem.PyData.keyHash P s8),(.str s8 8),(.builtin PySem.W.SL.s13459172003223722735x3)⟩,⟨(PySem.PyData.keyHash P s9),(.str s9 9),(.builtin PySem.W.SL.s10557405761357834076x3)⟩,⟨(PySem.PyData.keyHash P s10),(.str s10 10),(.builtin PySem.W.SL.s4233737765568776869x3)⟩,⟨(PySem.PyData.keyHash P s11),(.str s11 11),(.builtin PySem.W.SL.s2508922471967985374x5)⟩,⟨(PySem.PyData.keyHash P s12),(.str s12 12),(.builtin PySem.W.SL.s15574269061696679450x3)⟩,⟨(PySem.PyData.keyHash P s13),(.str s13 13),(.builtin PySem.W.SL.s6016482663378992977x10)⟩,⟨(PySem.PyData.keyHash P s14),(.str s14 14),(.builtin PySem.W.SL.s5596568736180474577x8)⟩,⟨(PySem.PyData.keyHash P s15),(.str s15 15),(.builtin PySem.W.SL.s2839554839881490554x3)⟩,⟨(PySem.PyData.keyHash P s16),(.str s16 16),(.builtin PySem.W.SL.s725004073602090463x7)⟩,⟨(PySem.PyData.keyHash P s17),(.str s17 17),(.builtin PySem.W.SL.s9436932552931045734x7)⟩,⟨(PySem.PyData.keyHash P s18),(.str s18 18),(.builtin PySem.W.SL.s2754603736356183583x3)⟩,⟨(PySem.PyData.keyHash P s19),(.str s19 19),(.builtin PySem.W.SL.s15185746759980889043x6)⟩,⟨(PySem.PyData.keyHash P s20),(.str s20 20),(.builtin PySem.W.SL.s8192189862530294059x4)⟩,⟨(PySem.PyData.keyHash P s21),(.str s21 21),(.builtin PySem.W.SL.s7038307821325472102x4)⟩,⟨(PySem.PyData.keyHash P s22),(.str s22 22),(.builtin PySem.W.SL.s5662562618415449548x6)⟩,⟨(PySem.PyData.keyHash P s23),(.str s23 23),(.builtin PySem.W.SL.s15281542589158584767x7)⟩,⟨(PySem.PyData.keyHash P s24),(.str s24 24),(.builtin PySem.W.SL.s17651547275483570877x7)⟩,⟨(PySem.PyData.keyHash P s25),(.str s25 25),(.builtin PySem.W.SL.s4036449017235975746x7)⟩,⟨(PySem.PyData.keyHash P s26),(.str s26 26),(.builtin PySem.W.SL.s8879979712987360175x4)⟩,⟨(PySem.PyData.keyHash P s27),(.str s27 27),(.builtin PySem.W.SL.s1801250619170735830x3)⟩,⟨(PySem.PyData.keyHash P ⟨#[105,100]⟩),(.str ⟨#[105,100]⟩ 28),(.builtin PySem.W.SL.s17659931425627118568x2)⟩,⟨(PySem.PyData.keyHash P s28),(.str s28 29),(.builtin PySem.W.SL.s6063217899685152688x5)⟩,⟨(PySem.PyData.keyHash P s29),(.str s29 30),(.builtin PySem.W.SL.s8008927332132565319x10)⟩,⟨(PySem.PyData.keyHash P s30),(.str s30 31),(.builtin PySem.W.SL.s3544116645089599534x10)⟩,⟨(PySem.PyData.keyHash P s31),(.str s31 32),(.builtin PySem.W.SL.s13761710972054866084x4)⟩,⟨(PySem.PyData.keyHash P s32),(.str s32 33),(.builtin PySem.W.SL.s12896375587409280029x5)⟩,⟨(PySem.PyData.keyHash P s33),(.str s33 34),(.builtin PySem.W.SL.s13014049009108672802x3)⟩,⟨(PySem.PyData.keyHash P s34),(.str s34 35),(.builtin PySem.W.SL.s13935586738268321596x6)⟩,⟨(PySem.PyData.keyHash P s35),(.str s35 36),(.builtin PySem.W.SL.s8200498257699607233x3)⟩,⟨(PySem.PyData.keyHash P s36),(.str s36 37),(.builtin PySem.W.SL.s14114244577727609259x3)⟩,⟨(PySem.PyData.keyHash P s37),(.str s37 38),(.builtin PySem.W.SL.s1499430450269397089x4)⟩,⟨(PySem.PyData.keyHash P s38),(.str s38 39),(.builtin PySem.W.SL.s8755793994789770505x5)⟩,⟨(PySem.PyData.keyHash P s39),(.str s39 40),(.builtin PySem.W.SL.s15725212667919936108x3)⟩,⟨(PySem.PyData.keyHash P s40),(.str s40 41),(.builtin PySem.W.SL.s15791221867095933363x3)⟩,⟨(PySem.PyData.keyHash P s41),(.str s41 42),(.builtin PySem.W.SL.s81309575031448614x3)⟩,⟨(PySem.PyData.keyHash P s42),(.str s42 43),(.builtin PySem.W.SL.s8069831620301644142x5)⟩,⟨(PySem.PyData.keyHash P s43),(.str s43 44),(.builtin PySem.W.SL.s10061844253413749634x4)⟩,⟨(PySem.PyData.keyHash P s44),(.str s44 45),(.builtin PySem.W.SL.s9496514870978017513x5)⟩,⟨(PySem.PyData.keyHash P s45),(.str s45 46),(.builtin PySem.W.SL.s8899691144933366716x7)⟩,⟨(PySem.PyData.keyHash P s46),(.str s46 47),(.builtin PySem.W.SL.s15201008993051130160x6)⟩,⟨(PySem.PyData.keyHash P s47),(.str s47 48),(.builtin PySem.W.SL.s741896355592496720x3)⟩,⟨(PySem.PyData.keyHash P s48),(.str s48 49),(.builtin PySem.W.SL.s17925004256654032244x4)⟩,⟨(PySem.PyData.keyHash P s49),(.str s49 50),.none⟩,⟨(PySem.PyData.keyHash P s50),(.str s50 51),.ellipsis⟩,⟨(PySem.PyData.keyHash P s51),(.str s51 52),.notImplemented⟩,⟨(PySem.PyData.keyHash P s52),(.str s52 53),(.bool .false)⟩,⟨(PySem.PyData.keyHash P s53),(.str s53 54),(.bool .true)⟩,⟨(PySem.PyData.keyHash P s54),(.str s54 55),(.type PySem.W.SL.s11695548795398191787x4)⟩,⟨(PySem.PyData.keyHash P s55),(.str s55 56),(.type PySem.W.SL.s4156966113859768872x10)⟩,⟨(PySem.PyData.keyHash P s56),(.str s56 57),(.type PySem.W.SL.s9501651726347032510x9)⟩,⟨(PySem.PyData.keyHash P s57),(.str s57 58),(.type PySem.W.SL.s15722918466584999320x5)⟩,⟨(PySem.PyData.keyHash P s58),(.str s58 59),(.type PySem.W.SL.s591115383303110208x11)⟩,⟨(PySem.PyData.keyHash P s59),(.str s59 60),(.type PySem.W.SL.s15721156781594690315x7)⟩,⟨(PySem.PyData.keyHash P s60),(.str s60 61),(.type PySem.W.SL.s14018661285674007319x4)⟩,⟨(PySem.PyData.keyHash P s61),(.str s61 62),(.type PySem.W.SL.s14340494229221121180x9)⟩,⟨(PySem.PyData.keyHash P s62),(.str s62 63),(.type PySem.W.SL.s13429844117177748173x6)⟩,⟨(PySem.PyData.keyHash P s63),(.str s63 64),(.type PySem.W.SL.s16463266125957815391x5)⟩,⟨(PySem.PyData.keyHash P s64),(.str s64 65),(.type PySem.W.SL.s4922535414793169389x9)⟩,⟨(PySem.PyData.keyHash P s65),(.str s65 66),(.type PySem.W.SL.s8101838861749082086x8)⟩,⟨(PySem.PyData.keyHash P s66),(.str s66 67),(.type PySem.W.SL.s7066276694103001551x3)⟩,⟨(PySem.PyData.keyHash P s67),(.str s67 68),(.type PySem.W.SL.s9222952809800978799x4)⟩,⟨(PySem.PyData.keyHash P s68),(.str s68 69),(.type PySem.W.SL.s462964344163437139x3)⟩,⟨(PySem.PyData.keyHash P s69),(.str s69 70),(.type PySem.W.SL.s2742458400755230247x6)⟩,⟨(PySem.PyData.keyHash P s70),(.str s70 71),(.type PySem.W.SL.s1438033511350832697x5)⟩,⟨(PySem.PyData.keyHash P s71),(.str s71 72),(.type PySem.W.SL.s14365286008749172514x8)⟩,⟨(PySem.PyData.keyHash P s72),(.str s72 73),(.type PySem.W.SL.s3642769012341782148x3)⟩,⟨(PySem.PyData.keyHash P s73),(.str s73 74),(.type PySem.W.SL.s4674234679698826739x5)⟩,⟨(PySem.PyData.keyHash P s74),(.str s74 75),(.type PySem.W.SL.s16656946322747308186x12)⟩,⟨(PySem.PyData.keyHash P s75),(.str s75 76),(.type PySem.W.SL.s10796804682411823810x3)⟩,⟨(PySem.PyData.keyHash P s76),(.str s76 77),(.type PySem.W.SL.s4290257624100764138x5)⟩,⟨(PySem.PyData.keyHash P s77),(.str s77 78),(.type PySem.W.SL.s2766695959194262286x5)⟩,⟨(PySem.PyData.keyHash P s78),(.str s78 79),(.type PySem.W.SL.s17162191345867700912x4)⟩,⟨(PySem.PyData.keyHash P s79),(.str s79 80),(.type PySem.W.SL.s14339709457334898076x3)⟩,⟨(PySem.PyData.keyHash P s80),(.str s80 81),(.bool .true)⟩,⟨(PySem.PyData.keyHash P s81),(.str s81 82),(.type PySem.W.SL.s4278001404047624695x13)⟩,⟨(PySem.PyData.keyHash P s82),(.str s82 83),(.type PySem.W.SL.s6585700554429387442x18)⟩,⟨(PySem.PyData.keyHash P s83),(.str s83 84),(.type PySem.W.SL.s5946037652744460706x9)⟩,⟨(PySem.PyData.keyHash P s84),(.str s84 85),(.type PySem.W.SL.s7410770068591931388x13)⟩,⟨(PySem.PyData.keyHash P s85),(.str s85 86),(.type PySem.W.SL.s11817881795495490833x17)⟩,⟨(PySem.PyData.keyHash P s86),(.str s86 87),(.type PySem.W.SL.s15679963881808890155x10)⟩,⟨(PySem.PyData.keyHash P s87),(.str s87 88),(.type PySem.W.SL.s3871700062485845797x15)⟩,⟨(PySem.PyData.keyHash P s88),(.str s88 89),(.type PySem.W.SL.s7689518266570723881x14)⟩,⟨(PySem.PyData.keyHash P s89),(.str s89 90),(.type PySem.W.SL.s9001593270443806431x14)⟩,⟨(PySem.PyData.keyHash P s90),(.str s90 91),(.type PySem.W.SL.s6882542574934516792x11)⟩,⟨(PySem.PyData.keyHash P s91),(.str s91 92),(.type PySem.W.SL.s14403400214490484960x8)⟩,⟨(PySem.PyData.keyHash P s92),(.str s92 93),(.type PySem.W.SL.s14457978657717015782x11)⟩,⟨(PySem.PyData.keyHash P s93),(.str s93 94),(.type PySem.W.SL.s1753610191782819921x11)⟩,⟨(PySem.PyData.keyHash P s94),(.str s94 95),(.type PySem.W.SL.s14119380538032626715x11)⟩,⟨(PySem.PyData.keyHash P s95),(.str s95 96),(.type PySem.W.SL.s11437920000406562045x9)⟩,⟨(PySem.PyData.keyHash P s96),(.str s96 97),(.type PySem.W.SL.s10852414792293593619x7)⟩,⟨(PySem.PyData.keyHash P s97),(.str s97 98),(.type PySem.W.SL.s14816307405966870543x14)⟩,⟨(PySem.PyData.keyHash P s98),(.str s98 99),(.type PySem.W.SL.s8682627914449686677x12)⟩,⟨(PySem.PyData.keyHash P s99),(.str s99 100),(.type PySem.W.SL.s4428170145600203450x18)⟩,⟨(PySem.PyData.keyHash P s100),(.str s100 101),(.type PySem.W.SL.s5991306692159431302x13)⟩,⟨(PySem.PyData.keyHash P s101),(.str s101 102),(.type PySem.W.SL.s16067994140765818257x11)⟩,⟨(PySem.PyData.keyHash P s102),(.str s102 103),(.type PySem.W.SL.s2327743974964600596x11)⟩,⟨(PySem.PyData.keyHash P s103),(.str s103 104),(.type PySem.W.SL.s2804747833354056582x9)⟩,⟨(PySem.PyData.keyHash P s104),(.str s104 105),(.type PySem.W.SL.s6070975301684473832x10)⟩,⟨(PySem.PyData.keyHash P s105),(.str s105 106),(.type PySem.W.SL.s14270485950484850486x7)⟩,⟨(PySem.PyData.keyHash P s106),(.str s106 107),(.type PySem.W.SL.s12041534306414923332x18)⟩,⟨(PySem.PyData.keyHash P s107),(.str s107 108),(.type PySem.W.SL.s2531307568338490285x13)⟩,⟨(PySem.PyData.keyHash P s108),(.str s108 109),(.type PySem.W.SL.s631175304937289666x17)⟩,⟨(PySem.PyData.keyHash P s109),(.str s109 110),(.type PySem.W.SL.s5144983644357021410x12)⟩,⟨(PySem.PyData.keyHash P s110),(.str s110 111),(.type PySem.W.SL.s18039099521571816885x18)⟩,⟨(PySem.PyData.keyHash P s111),(.str s111 112),(.type PySem.W.SL.s6011586214260557989x15)⟩,⟨(PySem.PyData.keyHash P s112),(.str s112 113),(.type PySem.W.SL.s5430567037509283100x13)⟩,⟨(PySem.PyData.keyHash P s113),(.str s113 114),(.type PySem.W.SL.s8117915138073963741x13)⟩,⟨(PySem.PyData.keyHash P s114),(.str s114 115),(.type PySem.W.SL.s3423317712779056401x25)⟩,⟨(PySem.PyData.keyHash P s115),(.str s115 116),(.type PySem.W.SL.s2007317383269046180x15)⟩,⟨(PySem.PyData.keyHash P s116),(.str s116 117),(.type PySem.W.SL.s17481586968713580700x14)⟩,⟨(PySem.PyData.keyHash P s117),(.str s117 118),(.type PySem.W.SL.s2450899226349176912x13)⟩,⟨(PySem.PyData.keyHash P s118),(.str s118 119),(.type PySem.W.SL.s16626165730633575011x14)⟩,⟨(PySem.PyData.keyHash P s119),(.str s119 120),(.type PySem.W.SL.s14288496050688921416x11)⟩,⟨(PySem.PyData.keyHash P s120),(.str s120 121),(.type PySem.W.SL.s5735081916595925998x15)⟩,⟨(PySem.PyData.keyHash P s121),(.str s121 122),(.type PySem.W.SL.s3865607918536308442x17)⟩,⟨(PySem.PyData.keyHash P s122),(.str s122 123),(.type PySem.W.SL.s13337502604062700212x15)⟩,⟨(PySem.PyData.keyHash P s123),(.str s123 124),(.type PySem.W.SL.s13114017843053701147x15)⟩,⟨(PySem.PyData.keyHash P s124),(.str s124 125),(.type PySem.W.SL.s17467278006356818441x17)⟩,⟨(PySem.PyData.keyHash P s125),(.str s125 126),(.type PySem.W.SL.s17722149559621369488x16)⟩,⟨(PySem.PyData.keyHash P s126),(.str s126 127),(.type PySem.W.SL.s7855274175708717672x17)⟩,⟨(PySem.PyData.keyHash P s127),(.str s127 128),(.type PySem.W.SL.s13351283678309829046x18)⟩,⟨(PySem.PyData.keyHash P s128),(.str s128 129),(.type PySem.W.SL.s6668348653404991179x15)⟩,⟨(PySem.PyData.keyHash P s129),(.str s129 130),(.type PySem.W.SL.s12913350958174193794x18)⟩,⟨(PySem.PyData.keyHash P s130),(.str s130 131),(.type PySem.W.SL.s16115879512475548326x12)⟩,⟨(PySem.PyData.keyHash P s131),(.str s131 132),(.type PySem.W.SL.s15920661018069861047x16)⟩,⟨(PySem.PyData.keyHash P s132),(.str s132 133),(.type PySem.W.SL.s10779130036587390575x21)⟩,⟨(PySem.PyData.keyHash P s133),(.str s133 134),(.type PySem.W.SL.s7801419657504700863x10)⟩,⟨(PySem.PyData.keyHash P s134),(.str s134 135),(.type PySem.W.SL.s1688129525768580628x8)⟩,⟨(PySem.PyData.keyHash P s135),(.str s135 136),(.type PySem.W.SL.s1031832959479892071x19)⟩,⟨(PySem.PyData.keyHash P s136),(.str s136 137),(.type PySem.W.SL.s8991790508128307865x19)⟩,⟨(PySem.PyData.keyHash P s137),(.str s137 138),(.type PySem.W.SL.s14539662485746970245x23)⟩,⟨(PySem.PyData.keyHash P s138),(.str s138 139),(.type PySem.W.SL.s11643622729373238714x14)⟩,⟨(PySem.PyData.keyHash P s139),(.str s139 140),(.type PySem.W.SL.s3386828779285465597x17)⟩,⟨(PySem.PyData.keyHash P s140),(.str s140 141),(.type PySem.W.SL.s13042696260734638735x12)⟩,⟨(PySem.PyData.keyHash P s141),(.str s141 142),(.type PySem.W.SL.s18239426817015966623x15)⟩,⟨(PySem.PyData.keyHash P s142),(.str s142 143),(.type PySem.W.SL.s1270395311379034370x22)⟩,⟨(PySem.PyData.keyHash P s143),(.str s143 144),(.type PySem.W.SL.s10696252587037064777x22)⟩,⟨(PySem.PyData.keyHash P s144),(.str s144 145),(.type PySem.W.SL.s7852717498200857586x20)⟩,⟨(PySem.PyData.keyHash P s145),(.str s145 146),(.type PySem.W.SL.s6377248116197321094x8)⟩,⟨(PySem.PyData.keyHash P s146),(.str s146 147),(.type PySem.W.SL.s3834378056692298002x18)⟩,⟨(PySem.PyData.keyHash P s147),(.str s147 148),(.type PySem.W.SL.s17586630440231065808x18)⟩,⟨(PySem.PyData.keyHash P s148),(.str s148 149),(.type PySem.W.SL.s15234114252648025395x21)⟩,⟨(PySem.PyData.keyHash P s149),(.str s149 150),(.type PySem.W.SL.s8496462677383758984x14)⟩,⟨(PySem.PyData.keyHash P s150),(.str s150 151),(.type PySem.W.SL.s10852414792293593619x7)⟩,⟨(PySem.PyData.keyHash P s151),(.str s151 152),(.type PySem.W.SL.s10852414792293593619x7)⟩,⟨(PySem.PyData.keyHash P s152),(.str s152 153),(.builtin PySem.W.SL.s16789243406116112673x4)⟩,⟨(PySem.PyData.keyHash P s153),(.str s153 154),(.builtin PySem.W.SL.s14400166428656793546x20)⟩,⟨(PySem.PyData.keyHash P s154),(.str s154 155),(.builtin PySem.W.SL.s5857708277339239366x20)⟩,⟨(PySem.PyData.keyHash P s155),(.str s155 156),(.builtin "builtins.copyright#opaque")⟩,⟨(PySem.PyData.keyHash P s156),(.str s156 157),(.builtin "builtins.credits#opaque")⟩,⟨(PySem.PyData.keyHash P s157),(.str s157 158),(.builtin "builtins.license#opaque")⟩,⟨(PySem.PyData.keyHash P s158),(.str s158 159),(.builtin PySem.W.SL.s7804999707787243718x20)⟩] 159),#[]⟩
noncomputable def z1 (P : Params) : Obj := ⟨(.type PySem.W.SL.s14018661285674007319x4),.none,(.dict #[⟨(PySem.PyData.keyHash P s1),(.str s1 162),(.ref 4)⟩,⟨(PySem.PyData.keyHash P s159),(.str s159 163),(.ref 5)⟩,⟨(PySem.PyData.keyHash P s160),(.str s160 244),(.ref 12)⟩,⟨(PySem.PyData.keyHash P s161),(.str s161 292),(.ref 30)⟩] 4),#[]⟩
noncomputable def z2 (P : Params) : Obj := ⟨.none,.none,(.dict #[⟨(PySem.PyData.keyHash P s162),(.str s162 183),(.bool .true)⟩,⟨(PySem.PyData.keyHash P s163),(.str s163 185),(.ref 14)⟩,⟨(PySem.PyData.keyHash P s164),(.str s164 206),(.ref 18)⟩,⟨(PySem.PyData.keyHash P s165),(.str s165 216),(.ref 22)⟩,⟨(PySem.PyData.keyHash P s166),(.str s166 245),(.int 4 0)⟩,⟨(PySem.PyData.keyHash P s167),(.str s167 270),(.bool .true)⟩,⟨(PySem.PyData.keyHash P s168),(.str s168 272),(.ref 27)⟩,⟨(PySem.PyData.keyHash P s169),(.str s169 0),(.str ⟨#[12,30]⟩ 0)⟩,⟨(PySem.PyData.keyHash P s170),(.str s170 273),(.str s171 0)⟩,⟨(PySem.PyData.keyHash P s172),(.str s172 280),(.bool .true)⟩,⟨(PySem.PyData.keyHash P s173),(.str s173 294),(.bool .true)⟩,⟨(PySem.PyData.keyHash P s174),(.str s174 309),(.bool .true)⟩,⟨(PySem.PyData.keyHash P s175),(.str s175 311),(.str s176 0)⟩] 13),#[]⟩
noncomputable def z3 (P : Params) : Obj := ⟨(.type PySem.W.SL.s14018661285674007319x4),.none,(.dict #[⟨(PySem.PyData.keyHash P s0),(.str s0 165),(.str s159 164)⟩,⟨(PySem.PyData.keyHash P s2),(.str s2 166),.none⟩,⟨(PySem.PyData.keyHash P s3),(.str s3 167),.none⟩,⟨(PySem.PyData.keyHash P s4),(.str s4 168),(.builtin PySem.W.SL.s7097527257260152453x26)⟩,⟨(PySem.PyData.keyHash P s5),(.str s5 169),.none⟩,⟨(PySem.PyData.keyHash P s177),(.str s177 170),(.ref 6)⟩,⟨(PySem.PyData.keyHash P s178),(.str s178 171),(.ref 4)⟩,⟨(PySem.PyData.keyHash P s179),(.str s179 173),(.str s180 172)⟩,⟨(PySem.PyData.keyHash P s181),(.str s181 174),.none⟩,⟨(PySem.PyData.keyHash P s160),(.str s160 275),(.ref 12)⟩,⟨(PySem.PyData.keyHash P s182),(.str s182 317),(.type PySem.W.SL.s5314052453082223887x17)⟩] 11),#[]⟩
noncomputable def z4 (P : Params) : Obj := ⟨(.type PySem.W.SL.s6658869562736209489x6),(.some 0),.plain,#[]⟩
noncomputable def z5 (P : Params) : Obj := ⟨(.type PySem.W.SL.s6658869562736209489x6),(.some 3),.plain,#[]⟩
noncomputable def z6 (P : Params) : Obj := ⟨(.type PySem.W.SL.s14018661285674007319x4),.none,(.dict #[] 0),#[]⟩
noncomputable def z7 (P : Params) : Obj := ⟨(.type PySem.W.SL.s2766695959194262286x5),.none,(.seq #[] 0),#[]⟩
noncomputable def z8 (P : Params) : Obj := ⟨.none,.none,(.fields #[]),#[]⟩
noncomputable def z9 (P : Params) : Obj := ⟨(.type PySem.W.SL.s5856160107412720595x4),.none,(.fields #[(.str s183 176),(.str s183 177),(.str s180 178),(.int 1 0),(.int 0 0),(.int 0 0),(.int 0 0),(.int 0 0),(.ref 7),(.bool .false),(.int 175 0),(.ref 8),.none,.none,.none,.none,(.int 179 0),(.int 1 0),(.str s180 180)]),#[]⟩
noncomputable def z10 (P : Params) : Obj := ⟨(.type PySem.W.SL.s658472552662922059x5),.none,.plain,#[(.some (.ref 9)),(.some (.ref 3)),(.some (.ref 3)),.none,(.some (.str s159 164)),.none,(.some (.ref 0))]⟩
noncomputable def z11 (P : Params) : Obj := ⟨(.type PySem.W.SL.s14018661285674007319x4),.none,(.dict #[⟨(PySem.PyData.keyHash P s0),(.str s0 247),(.str s160 246)⟩,⟨(PySem.PyData.keyHash P s2),(.str s2 248),.none⟩,⟨(PySem.PyData.keyHash P s3),(.str s3 250),(.str ⟨#[]⟩ 249)⟩,⟨(PySem.PyData.keyHash P s4),(.str s4 251),(.builtin "off-the-table:_sre.__loader__:shared#opaque")⟩,⟨(PySem.PyData.keyHash P s5),(.str s5 252),(.builtin "off-the-table:_sre.__spec__:shared#opaque")⟩,⟨(PySem.PyData.keyHash P s16),(.str s16 253),(.builtin PySem.W.SL.s492968859115322481x12)⟩,⟨(PySem.PyData.keyHash P s184),(.str s184 254),(.builtin "off-the-table:_sre.template:shared#opaque")⟩,⟨(PySem.PyData.keyHash P s185),(.str s185 255),(.builtin "off-the-table:_sre.getcodesize:shared#opaque")⟩,⟨(PySem.PyData.keyHash P s186),(.str s186 256),(.builtin "off-the-table:_sre.ascii_iscased:shared#opaque")⟩,⟨(PySem.PyData.keyHash P s187),(.str s187 257),(.builtin "off-the-table:_sre.unicode_iscased:shared#opaque")⟩,⟨(PySem.PyData.keyHash P s188),(.str s188 258),(.builtin "off-the-table:_sre.ascii_tolower:shared#opaque")⟩,⟨(PySem.PyData.keyHash P s189),(.str s189 259),(.builtin "off-the-table:_sre.unicode_tolower:shared#opaque")⟩,⟨(PySem.PyData.keyHash P s190),(.str s190 261),(.int 20230612 260)⟩,⟨(PySem.PyData.keyHash P s191),(.str s191 263),(.int 4 262)⟩,⟨(PySem.PyData.keyHash P s192),(.str s192 265),(.int 4294967295 264)⟩,⟨(PySem.PyData.keyHash P s193),(.str s193 267),(.int 1073741823 266)⟩,⟨(PySem.PyData.keyHash P s155),(.str s155 269),(.str s194 268)⟩] 17),#[]⟩
noncomputable def z12 (P : Params) : Obj := ⟨(.type PySem.W.SL.s6658869562736209489x6),(.some 11),.plain,#[]⟩
noncomputable def z13 (P : Params) : Obj := ⟨(.type PySem.W.SL.s14018661285674007319x4),.none,(.dict #[⟨(PySem.PyData.keyHash P s195),(.str s195 189),(.str s196 186)⟩,⟨(PySem.PyData.keyHash P s197),(.str s197 190),(.int 971 187)⟩,⟨(PySem.PyData.keyHash P s2),(.str s2 191),(.builtin "_frozen_importlib.BuiltinImporter.__doc__:str#opaque")⟩,⟨(PySem.PyData.keyHash P s198),(.str s198 192),(.str s199 188)⟩,⟨(PySem.PyData.keyHash P s200),(.str s200 193),(.builtin "_frozen_importlib.BuiltinImporter.find_spec#opaque")⟩,⟨(PySem.PyData.keyHash P s201),(.str s201 194),(.builtin "_frozen_importlib.BuiltinImporter.create_module#opaque")⟩,⟨(PySem.PyData.keyHash P s202),(.str s202 195),(.builtin "_frozen_importlib.BuiltinImporter.exec_module#opaque")⟩,⟨(PySem.PyData.keyHash P s203),(.str s203 196),(.builtin "_frozen_importlib.BuiltinImporter.get_code#opaque")⟩,⟨(PySem.PyData.keyHash P s204),(.str s204 197),(.builtin "_frozen_importlib.BuiltinImporter.get_source#opaque")⟩,⟨(PySem.PyData.keyHash P s205),(.str s205 198),(.builtin "_frozen_importlib.BuiltinImporter.is_package#opaque")⟩,⟨(PySem.PyData.keyHash P s206),(.str s206 199),(.builtin "_frozen_importlib.BuiltinImporter.load_module#opaque")⟩,⟨(PySem.PyData.keyHash P s207),(.str s207 200),(.ref 15)⟩,⟨(PySem.PyData.keyHash P s208),(.str s208 202),(.ref 16)⟩,⟨(PySem.PyData.keyHash P s209),(.str s209 204),(.ref 17)⟩] 14),#[]⟩
noncomputable def z14 (P : Params) : Obj := ⟨(.type PySem.W.SL.s17162191345867700912x4),.none,(.cls ⟨s210,[(.type PySem.W.SL.s2742458400755230247x6)],[(.ref 14),(.type PySem.W.SL.s2742458400755230247x6)],13,s210,.true,[],[],.false,.none,.false⟩),#[]⟩
noncomputable def z15 (P : Params) : Obj := ⟨(.type PySem.W.SL.s2766695959194262286x5),.none,(.seq #[] 0),#[]⟩
noncomputable def z16 (P : Params) : Obj := ⟨(.type PySem.W.SL.s14755015743595814543x17),.none,(.fields #[(.str s208 201),(.ref 14),(.builtin PySem.W.SL.s6511155373996960695x17),(.builtin PySem.W.SL.s12411053484034534018x21)]),#[]⟩
noncomputable def z17 (P : Params) : Obj := ⟨(.type PySem.W.SL.s14755015743595814543x17),.none,(.fields #[(.str s209 203),(.ref 14),(.builtin PySem.W.SL.s10220274742760427390x26),.none]),#[]⟩
noncomputable def z18 (P : Params) : Obj := ⟨.none,.none,(.seq #[(.int 13 0),(.str s211 0),(.bool .true),(.bool .true),(.str ⟨#[]⟩ 205),(.int 21 0),(.str s212 0),(.bool .true),(.bool .true),(.str ⟨#[]⟩ 242)] 1),#[]⟩
noncomputable def z19 (P : Params) : Obj := ⟨(.type PySem.W.SL.s9222952809800978799x4),.none,(.seq #[] 0),#[]⟩
noncomputable def z20 (P : Params) : Obj := ⟨(.type PySem.W.SL.s14018661285674007319x4),.none,(.dict #[⟨(PySem.PyData.keyHash P s213),(.str s213 208),(.str s160 207)⟩,⟨(PySem.PyData.keyHash P s214),(.str s214 209),(.ref 14)⟩,⟨(PySem.PyData.keyHash P s215),(.str s215 210),(.str s199 184)⟩,⟨(PySem.PyData.keyHash P s216),(.str s216 211),.none⟩,⟨(PySem.PyData.keyHash P s217),(.str s217 212),.none⟩,⟨(PySem.PyData.keyHash P s218),(.str s218 213),(.ref 19)⟩,⟨(PySem.PyData.keyHash P s219),(.str s219 214),(.bool .false)⟩,⟨(PySem.PyData.keyHash P s220),(.str s220 215),.none⟩,⟨(PySem.PyData.keyHash P s221),(.str s221 243),(.bool .false)⟩] 9),#[]⟩
noncomputable def z21 (P : Params) : Obj := ⟨(.type PySem.W.SL.s14018661285674007319x4),.none,(.dict #[⟨(PySem.PyData.keyHash P s195),(.str s195 227),(.str s196 217)⟩,⟨(PySem.PyData.keyHash P s197),(.str s197 228),(.int 562 218)⟩,⟨(PySem.PyData.keyHash P s2),(.str s2 229),(.builtin "_frozen_importlib.ModuleSpec.__doc__:str#opaque")⟩,⟨(PySem.PyData.keyHash P s222),(.str s222 230),(.builtin "_frozen_importlib.ModuleSpec.__init__#opaque")⟩,⟨(PySem.PyData.keyHash P s223),(.str s223 231),(.builtin "_frozen_importlib.ModuleSpec.__repr__#opaque")⟩,⟨(PySem.PyData.keyHash P s224),(.str s224 232),(.builtin "_frozen_importlib.ModuleSpec.__eq__#opaque")⟩,⟨(PySem.PyData.keyHash P s225),(.str s225 233),(.builtin "_frozen_importlib.ModuleSpec.cached#opaque")⟩,⟨(PySem.PyData.keyHash P s226),(.str s226 234),(.builtin "_frozen_importlib.ModuleSpec.parent#opaque")⟩,⟨(PySem.PyData.keyHash P s227),(.str s227 235),(.builtin "_frozen_importlib.ModuleSpec.has_location#opaque")⟩,⟨(PySem.PyData.keyHash P s207),(.str s207 236),(.ref 23)⟩,⟨(PySem.PyData.keyHash P s208),(.str s208 238),(.ref 24)⟩,⟨(PySem.PyData.keyHash P s209),(.str s209 240),(.ref 25)⟩,⟨(PySem.PyData.keyHash P s228),(.str s228 241),.none⟩] 13),#[]⟩
noncomputable def z22 (P : Params) : Obj := ⟨(.type PySem.W.SL.s17162191345867700912x4),.none,(.cls ⟨s229,[(.type PySem.W.SL.s2742458400755230247x6)],[(.ref 22),(.type PySem.W.SL.s2742458400755230247x6)],21,s229,.true,[],[],.false,.none,.false⟩),#[]⟩
noncomputable def z23 (P : Params) : Obj := ⟨(.type PySem.W.SL.s2766695959194262286x5),.none,(.seq #[(.str s220 219),(.str s219 220),(.str s218 221),(.str s214 222),(.str s216 223),(.str s213 224),(.str s215 225),(.str s217 226)] 0),#[]⟩
noncomputable def z24 (P : Params) : Obj := ⟨(.type PySem.W.SL.s14755015743595814543x17),.none,(.fields #[(.str s208 237),(.ref 22),(.builtin PySem.W.SL.s6511155373996960695x17),(.builtin PySem.W.SL.s12411053484034534018x21)]),#[]⟩
noncomputable def z25 (P : Params) : Obj := ⟨(.type PySem.W.SL.s14755015743595814543x17),.none,(.fields #[(.str s209 239),(.ref 22),(.builtin PySem.W.SL.s10220274742760427390x26),.none]),#[]⟩
noncomputable def z26 (P : Params) : Obj := ⟨(.ref 22),(.some 20),.plain,#[]⟩
noncomputable def z27 (P : Params) : Obj := ⟨.none,.none,(.seq #[(.int 11 0),(.str ⟨#[6,247,8,95,95,110,97,109,101,95,95,6,246,4,95,115,114,101,6,248,7,95,95,100,111,99,95,95,0,6,250,11,95,95,112,97,99,107,97,103,101,95,95,6,249,0,6,251,10,95,95,108,111,97,100,101,114,95,95,4,0,0,14,6,252,8,95,95,115,112,101,99,95,95,4,0,0,26,6,253,7,99,111,109,112,105,108,101,9,12,95,115,114,101,46,99,111,109,112,105,108,101,6,254,8,116,101,109,112,108,97,116,101,9,13,95,115,114,101,46,116,101,109,112,108,97,116,101,6,255,11,103,101,116,99,111,100,101,115,105,122,101,9,16,95,115,114,101,46,103,101,116,99,111,100,101,115,105,122,101,6,256,13,97,115,99,105,105,95,105,115,99,97,115,101,100,9,18,95,115,114,101,46,97,115,99,105,105,95,105,115,99,97,115,101,100,6,257,15,117,110,105,99,111,100,101,95,105,115,99,97,115,101,100,9,20,95,115,114,101,46,117,110,105,99,111,100,101,95,105,115,99,97,115,101,100,6,258,13,97,115,99,105,105,95,116,111,108,111,119,101,114,9,18,95,115,114,101,46,97,115,99,105,105,95,116,111,108,111,119,101,114,6,259,15,117,110,105,99,111,100,101,95,116,111,108,111,119,101,114,9,20,95,115,114,101,46,117,110,105,99,111,100,101,95,116,111,108,111,119,101,114,6,261,5,77,65,71,73,67,4,260,0,20230612,6,263,8,67,79,68,69,83,73,90,69,4,262,0,4,6,265,9,77,65,88,82,69,80,69,65,84,4,264,0,4294967295,6,267,9,77,65,88,71,82,79,85,80,83,4,266,0,1073741823,6,269,9,99,111,112,121,114,105,103,104,116,6,268,53,32,83,82,69,32,50,46,50,46,50,32,67,111,112,121,114,105,103,104,116,32,40,99,41,32,49,57,57,55,45,50,48,48,50,32,98,121,32,83,101,99,114,101,116,32,76,97,98,115,32,65,66,32]⟩ 0),(.bool .true),(.bool .false),(.str s160 271),(.int 29 0),(.str s230 0),(.bool .true),(.bool .false),(.str s161 310)] 1),#[]⟩
noncomputable def z28 (P : Params) : Obj := ⟨(.type PySem.W.SL.s2766695959194262286x5),.none,(.seq #[(.str s182 277)] 0),#[]⟩
noncomputable def z29 (P : Params) : Obj := ⟨(.type PySem.W.SL.s14018661285674007319x4),.none,(.dict #[⟨(PySem.PyData.keyHash P s0),(.str s0 296),(.str s161 295)⟩,⟨(PySem.PyData.keyHash P s2),(.str s2 297),(.builtin "off-the-table:_collections.__doc__:shared#opaque")⟩,⟨(PySem.PyData.keyHash P s3),(.str s3 299),(.str ⟨#[]⟩ 298)⟩,⟨(PySem.PyData.keyHash P s4),(.str s4 300),(.builtin "off-the-table:_collections.__loader__:shared#opaque")⟩,⟨(PySem.PyData.keyHash P s5),(.str s5 301),(.builtin "off-the-table:_collections.__spec__:shared#opaque")⟩,⟨(PySem.PyData.keyHash P s231),(.str s231 302),(.builtin PySem.W.SL.s5957113450721151568x28)⟩,⟨(PySem.PyData.keyHash P s182),(.str s182 303),(.type PySem.W.SL.s5314052453082223887x17)⟩,⟨(PySem.PyData.keyHash P s232),(.str s232 304),(.type PySem.W.SL.s9278979716766391425x23)⟩,⟨(PySem.PyData.keyHash P s233),(.str s233 305),(.builtin "off-the-table:_collections._deque_iterator:shared#opaque")⟩,⟨(PySem.PyData.keyHash P s234),(.str s234 306),(.builtin "off-the-table:_collections._deque_reverse_iterator:shared#opaque")⟩,⟨(PySem.PyData.keyHash P s235),(.str s235 307),(.type PySem.W.SL.s13209474081997913071x24)⟩,⟨(PySem.PyData.keyHash P s236),(.str s236 308),(.type PySem.W.SL.s8302156878143849030x23)⟩] 12),#[]⟩
noncomputable def z30 (P : Params) : Obj := ⟨(.type PySem.W.SL.s6658869562736209489x6),(.some 29),.plain,#[]⟩
noncomputable def z31 (P : Params) : Obj := ⟨(.type PySem.W.SL.s9222952809800978799x4),.none,(.seq #[] 0),#[]⟩
noncomputable def z32 (P : Params) : Obj := ⟨(.type PySem.W.SL.s14018661285674007319x4),.none,(.dict #[⟨(PySem.PyData.keyHash P s213),(.str s213 283),(.str s161 282)⟩,⟨(PySem.PyData.keyHash P s214),(.str s214 284),(.ref 14)⟩,⟨(PySem.PyData.keyHash P s215),(.str s215 285),(.str s199 281)⟩,⟨(PySem.PyData.keyHash P s216),(.str s216 286),.none⟩,⟨(PySem.PyData.keyHash P s217),(.str s217 287),.none⟩,⟨(PySem.PyData.keyHash P s218),(.str s218 288),(.ref 31)⟩,⟨(PySem.PyData.keyHash P s219),(.str s219 289),(.bool .false)⟩,⟨(PySem.PyData.keyHash P s220),(.str s220 290),.none⟩,⟨(PySem.PyData.keyHash P s221),(.str s221 291),(.bool .false)⟩] 9),#[]⟩
noncomputable def z33 (P : Params) : Obj := ⟨(.ref 22),(.some 32),.plain,#[]⟩
noncomputable def tz (P : Params) : BT := (.node (z0 P) (.node (z1 P) (.node (z3 P) (.node (z7 P) (.node (z15 P) (.node (z31 P) .nil .nil) .nil) (.node (z23 P) .nil .nil)) (.node (z11 P) (.node (z19 P) .nil .nil) (.node (z27 P) .nil .nil))) (.node (z5 P) (.node (z9 P) (.node (z17 P) (.node (z33 P) .nil .nil) .nil) (.node (z25 P) .nil .nil)) (.node (z13 P) (.node (z21 P) .nil .nil) (.node (z29 P) .nil .nil)))) (.node (z2 P) (.node (z4 P) (.node (z8 P) (.node (z16 P) (.node (z32 P) .nil .nil) .nil) (.node (z24 P) .nil .nil)) (.node (z12 P) (.node (z20 P) .nil .nil) (.node (z28 P) .nil .nil))) (.node (z6 P) (.node (z10 P) (.node (z18 P) .nil .nil) (.node (z26 P) .nil .nil)) (.node (z14 P) (.node (z22 P) .nil .nil) (.node (z30 P) .nil .nil)))))
noncomputable def hz (P : Params) : Heap := ⟨#[z0 P,z1 P,z2 P,z3 P,z4 P,z5 P,z6 P,z7 P,z8 P,z9 P,z10 P,z11 P,z12 P,z13 P,z14 P,z15 P,z16 P,z17 P,z18 P,z19 P,z20 P,z21 P,z22 P,z23 P,z24 P,z25 P,z26 P,z27 P,z28 P,z29 P,z30 P,z31 P,z32 P,z33 P], ⟨[],[],[],0,[],[],.false,#[],[],0,.false,.false,.false,0,[2000,10,10],.false,0,.true,[],[],0,.false⟩⟩
noncomputable def a34 (P : Params) : Obj := ⟨(.type PySem.W.SL.s2766695959194262286x5),.none,(.seq #[] 0),#[]⟩
noncomputable def a35 (P : Params) : Obj := ⟨.none,.none,(.fields #[]),#[]⟩
noncomputable def a36 (P : Params) : Obj := ⟨(.type PySem.W.SL.s5856160107412720595x4),.none,(.fields #[(.str s183 319),(.str s183 320),(.str s180 321),(.int 1 0),(.int 0 0),(.int 0 0),(.int 0 0),(.int 0 0),(.ref 34),(.bool .false),(.int 318 0),(.ref 35),.none,.none,.none,.none,(.int 322 0),(.int 1 0),(.str s180 323)]),#[]⟩
noncomputable def a37 (P : Params) : Obj := ⟨(.type PySem.W.SL.s658472552662922059x5),.none,.plain,#[(.some (.ref 36)),(.some (.ref 3)),(.some (.ref 3)),.none,(.some (.str s159 164)),.none,(.some (.ref 0))]⟩
noncomputable def ta (P : Params) : BT := (.node (z0 P) (.node (z1 P) (.node (z3 P) (.node (z7 P) (.node (z15 P) (.node (z31 P) .nil .nil) .nil) (.node (z23 P) .nil .nil)) (.node (z11 P) (.node (z19 P) (.node (a35 P) .nil .nil) .nil) (.node (z27 P) .nil .nil))) (.node (z5 P) (.node (z9 P) (.node (z17 P) (.node (z33 P) .nil .nil) .nil) (.node (z25 P) .nil .nil)) (.node (z13 P) (.node (z21 P) (.node (a37 P) .nil .nil) .nil) (.node (z29 P) .nil .nil)))) (.node (z2 P) (.node (z4 P) (.node (z8 P) (.node (z16 P) (.node (z32 P) .nil .nil) .nil) (.node (z24 P) .nil .nil)) (.node (z12 P) (.node (z20 P) (.node (a36 P) .nil .nil) .nil) (.node (z28 P) .nil .nil))) (.node (z6 P) (.node (z10 P) (.node (z18 P) (.node (a34 P) .nil .nil) .nil) (.node (z26 P) .nil .nil)) (.node (z14 P) (.node (z22 P) .nil .nil) (.node (z30 P) .nil .nil)))))
noncomputable def b3 (P : Params) : Obj := ⟨(.type PySem.W.SL.s14018661285674007319x4),.none,(.dict #[⟨(PySem.PyData.keyHash P s0),(.str s0 165),(.str s237 331)⟩,⟨(PySem.PyData.keyHash P s2),(.str s2 166),.none⟩,⟨(PySem.PyData.keyHash P s3),(.str s3 167),.none⟩,⟨(PySem.PyData.keyHash P s4),(.str s4 168),(.builtin PySem.W.SL.s7097527257260152453x26)⟩,⟨(PySem.PyData.keyHash P s5),(.str s5 169),.none⟩,⟨(PySem.PyData.keyHash P s177),(.str s177 170),(.ref 6)⟩,⟨(PySem.PyData.keyHash P s178),(.str s178 171),(.ref 4)⟩,⟨(PySem.PyData.keyHash P s179),(.str s179 173),(.str s180 172)⟩,⟨(PySem.PyData.keyHash P s181),(.str s181 174),.none⟩,⟨(PySem.PyData.keyHash P s160),(.str s160 275),(.ref 12)⟩,⟨(PySem.PyData.keyHash P s182),(.str s182 317),(.type PySem.W.SL.s5314052453082223887x17)⟩,⟨(PySem.PyData.keyHash P s238),(.str s238 330),(.ref 44)⟩,⟨(PySem.PyData.keyHash P s239),(.str s239 342),(.ref 51)⟩,⟨(PySem.PyData.keyHash P s240),(.str s240 350),(.ref 58)⟩,⟨(PySem.PyData.keyHash P ⟨#[78,76]⟩),(.str ⟨#[78,76]⟩ 352),(.str ⟨#[10]⟩ 351)⟩,⟨(PySem.PyData.keyHash P s241),(.str s241 1380),(.ref 61)⟩] 16),#[]⟩
noncomputable def b35 (P : Params) : Obj := ⟨.none,.none,(.fields #[(.int 3 0),(.int 0 0),(.ref 43),(.int 7 0),(.int 0 0),(.ref 50),(.int 16 0),(.int 0 0),(.ref 57)]),#[]⟩
noncomputable def b38 (P : Params) : Obj := ⟨(.type PySem.W.SL.s2766695959194262286x5),.none,(.seq #[] 0),#[]⟩
noncomputable def b39 (P : Params) : Obj := ⟨.none,.none,(.fields #[]),#[]⟩
noncomputable def b40 (P : Params) : Obj := ⟨(.type PySem.W.SL.s2766695959194262286x5),.none,(.seq #[(.str ⟨#[107]⟩ 327)] 0),#[]⟩
noncomputable def b41 (P : Params) : Obj := ⟨(.type PySem.W.SL.s2766695959194262286x5),.none,(.seq #[] 0),#[]⟩
noncomputable def b42 (P : Params) : Obj := ⟨.none,.none,(.func ⟨s238,s238,(fP 2),(fB 2),(fS 2),0,[],.none,.none,.none,.none,.none,.none,.none,0⟩),#[]⟩
noncomputable def b43 (P : Params) : Obj := ⟨(.type PySem.W.SL.s5856160107412720595x4),.none,(.fields #[(.str s238 324),(.str s238 325),(.str s180 326),(.int 3 0),(.int 1 0),(.int 0 0),(.int 0 0),(.int 3 0),(.ref 38),(.bool .true),(.int 318 0),(.ref 39),.none,(.ref 40),(.ref 41),(.ref 42),(.int 328 0),(.int 3 0),(.str s180 329)]),#[]⟩
noncomputable def b44 (P : Params) : Obj := ⟨(.type PySem.W.SL.s7174869446012820540x8),.none,(.func ⟨s238,s238,(fP 2),(fB 2),(fS 2),3,[],.none,.none,.none,(.str s159 164),.none,(.ref 43),.none,0⟩),#[]⟩
noncomputable def b45 (P : Params) : Obj := ⟨(.type PySem.W.SL.s2766695959194262286x5),.none,(.seq #[] 0),#[]⟩
noncomputable def b46 (P : Params) : Obj := ⟨.none,.none,(.fields #[]),#[]⟩
noncomputable def b47 (P : Params) : Obj := ⟨(.type PySem.W.SL.s2766695959194262286x5),.none,(.seq #[(.str s242 336),(.str s243 337),(.str s244 338),(.str s245 339)] 0),#[]⟩
noncomputable def b48 (P : Params) : Obj := ⟨(.type PySem.W.SL.s2766695959194262286x5),.none,(.seq #[] 0),#[]⟩
noncomputable def b49 (P : Params) : Obj := ⟨.none,.none,(.func ⟨s239,s239,(fP 4),(fB 4),(fS 4),0,[],.none,.none,.none,.none,.none,.none,.none,0⟩),#[]⟩
noncomputable def b50 (P : Params) : Obj := ⟨(.type PySem.W.SL.s5856160107412720595x4),.none,(.fields #[(.str s239 333),(.str s239 334),(.str s180 335),(.int 7 0),(.int 2 0),(.int 0 0),(.int 0 0),(.int 3 0),(.ref 45),(.bool .true),(.int 318 0),(.ref 46),.none,(.ref 47),(.ref 48),(.ref 49),(.int 340 0),(.int 7 0),(.str s180 341)]),#[]⟩
noncomputable def b51 (P : Params) : Obj := ⟨(.type PySem.W.SL.s7174869446012820540x8),.none,(.func ⟨s239,s239,(fP 4),(fB 4),(fS 4),3,[],.none,.none,.none,(.str s237 331),.none,(.ref 50),.none,0⟩),#[]⟩
noncomputable def b52 (P : Params) : Obj := ⟨(.type PySem.W.SL.s2766695959194262286x5),.none,(.seq #[] 0),#[]⟩
noncomputable def b53 (P : Params) : Obj := ⟨.none,.none,(.fields #[]),#[]⟩
noncomputable def b54 (P : Params) : Obj := ⟨(.type PySem.W.SL.s2766695959194262286x5),.none,(.seq #[(.str ⟨#[120]⟩ 346),(.str ⟨#[121]⟩ 347)] 0),#[]⟩
noncomputable def b55 (P : Params) : Obj := ⟨(.type PySem.W.SL.s2766695959194262286x5),.none,(.seq #[] 0),#[]⟩
noncomputable def b56 (P : Params) : Obj := ⟨.none,.none,(.func ⟨s240,s240,(fP 5),(fB 5),(fS 5),0,[],.none,.none,.none,.none,.none,.none,.none,0⟩),#[]⟩
noncomputable def b57 (P : Params) : Obj := ⟨(.type PySem.W.SL.s5856160107412720595x4),.none,(.fields #[(.str s240 343),(.str s240 344),(.str s180 345),(.int 16 0),(.int 2 0),(.int 0 0),(.int 0 0),(.int 3 0),(.ref 52),(.bool .true),(.int 318 0),(.ref 53),.none,(.ref 54),(.ref 55),(.ref 56),(.int 348 0),(.int 16 0),(.str s180 349)]),#[]⟩
noncomputable def b58 (P : Params) : Obj := ⟨(.type PySem.W.SL.s7174869446012820540x8),.none,(.func ⟨s240,s240,(fP 5),(fB 5),(fS 5),3,[],.none,.none,.none,(.str s237 331),.none,(.ref 57),.none,0⟩),#[]⟩
noncomputable def b59 (P : Params) : Obj := ⟨(.type PySem.W.SL.s1438033511350832697x5),.none,(.fields #[(.int 0 354),(.int 256 353),(.int 1 355)]),#[]⟩
noncomputable def b60 (P : Params) : Obj := ⟨(.type PySem.W.SL.s15992201931430999065x14),.none,(.fields #[(.int 256 0),(.int 0 0),(.int 1 0)]),#[]⟩
noncomputable def b61 (P : Params) : Obj := ⟨(.type PySem.W.SL.s9222952809800978799x4),.none,(.seq #[(.str s246 359),(.str s247 363),(.str s248 367),(.str s249 371),(.str s250 375),(.str s251 379),(.str s252 383),(.str s253 387),(.str s254 391),(.str s255 395),(.str s256 399),(.str s257 403),(.str s258 407),(.str s259 411),(.str s260 415),(.str s261 419),(.str s262 423),(.str s263 427),(.str s264 431),(.str s265 435),(.str s266 439),(.str s267 443),(.str s268 447),(.str s269 451),(.str s270 455),(.str s271 459),(.str s272 463),(.str s273 467),(.str s274 471),(.str s275 475),(.str s276 479),(.str s277 483),(.str s278 487),(.str s279 491),(.str s280 495),(.str s281 499),(.str s282 503),(.str s283 507),(.str s284 511),(.str s285 515),(.str s286 519),(.str s287 523),(.str s288 527),(.str s289 531),(.str s290 535),(.str s291 539),(.str s292 543),(.str s293 547),(.str s294 551),(.str s295 555),(.str s296 559),(.str s297 563),(.str s298 567),(.str s299 571),(.str s300 575),(.str s301 579),(.str s302 583),(.str s303 587),(.str s304 591),(.str s305 595),(.str s306 599),(.str s307 603),(.str s308 607),(.str s309 611),(.str s310 615),(.str s311 619),(.str s312 623),(.str s313 627),(.str s314 631),(.str s315 635),(.str s316 639),(.str s317 643),(.str s318 647),(.str s319 651),(.str s320 655),(.str s321 659),(.str s322 663),(.str s323 667),(.str s324 671),(.str s325 675),(.str s326 679),(.str s327 683),(.str s328 687),(.str s329 691),(.str s330 695),(.str s331 699),(.str s332 703),(.str s333 707),(.str s334 711),(.str s335 715),(.str s336 719),(.str s337 723),(.str s338 727),(.str s339 731),(.str s340 735),(.str s341 739),(.str s342 743),(.str s343 747),(.str s344 751),(.str s345 755),(.str s346 759),(.str s347 763),(.str s348 767),(.str s349 771),(.str s350 775),(.str s351 779),(.str s352 783),(.str s353 787),(.str s354 791),(.str s355 795),(.str s356 799),(.str s357 803),(.str s358 807),(.str s359 811),(.str s360 815),(.str s361 819),(.str s362 823),(.str s363 827),(.str s364 831),(.str s365 835),(.str s366 839),(.str s367 843),(.str s368 847),(.str s369 851),(.str s370 855),(.str s371 859),(.str s372 863),(.str s373 867),(.str s374 871),(.str s375 875),(.str s376 879),(.str s377 883),(.str s378 887),(.str s379 891),(.str s380 895),(.str s381 899),(.str s382 903),(.str s383 907),(.str s384 911),(.str s385 915),(.str s386 919),(.str s387 923),(.str s388 927),(.str s389 931),(.str s390 935),(.str s391 939),(.str s392 943),(.str s393 947),(.str s394 951),(.str s395 955),(.str s396 959),(.str s397 963),(.str s398 967),(.str s399 971),(.str s400 975),(.str s401 979),(.str s402 983),(.str s403 987),(.str s404 991),(.str s405 995),(.str s406 999),(.str s407 1003),(.str s408 1007),(.str s409 1011),(.str s410 1015),(.str s411 1019),(.str s412 1023),(.str s413 1027),(.str s414 1031),(.str s415 1035),(.str s416 1039),(.str s417 1043),(.str s418 1047),(.str s419 1051),(.str s420 1055),(.str s421 1059),(.str s422 1063),(.str s423 1067),(.str s424 1071),(.str s425 1075),(.str s426 1079),(.str s427 1083),(.str s428 1087),(.str s429 1091),(.str s430 1095),(.str s431 1099),(.str s432 1103),(.str s433 1107),(.str s434 1111),(.str s435 1115),(.str s436 1119),(.str s437 1123),(.str s438 1127),(.str s439 1131),(.str s440 1135),(.str s441 1139),(.str s442 1143),(.str s443 1147),(.str s444 1151),(.str s445 1155),(.str s446 1159),(.str s447 1163),(.str s448 1167),(.str s449 1171),(.str s450 1175),(.str s451 1179),(.str s452 1183),(.str s453 1187),(.str s454 1191),(.str s455 1195),(.str s456 1199),(.str s457 1203),(.str s458 1207),(.str s459 1211),(.str s460 1215),(.str s461 1219),(.str s462 1223),(.str s463 1227),(.str s464 1231),(.str s465 1235),(.str s466 1239),(.str s467 1243),(.str s468 1247),(.str s469 1251),(.str s470 1255),(.str s471 1259),(.str s472 1263),(.str s473 1267),(.str s474 1271),(.str s475 1275),(.str s476 1279),(.str s477 1283),(.str s478 1287),(.str s479 1291),(.str s480 1295),(.str s481 1299),(.str s482 1303),(.str s483 1307),(.str s484 1311),(.str s485 1315),(.str s486 1319),(.str s487 1323),(.str s488 1327),(.str s489 1331),(.str s490 1335),(.str s491 1339),(.str s492 1343),(.str s493 1347),(.str s494 1351),(.str s495 1355),(.str s496 1359),(.str s497 1363),(.str s498 1367),(.str s499 1371),(.str s500 1375),(.str s501 1379)] 256),#[]⟩
noncomputable def b62 (P : Params) : Obj := ⟨(.type PySem.W.SL.s14018661285674007319x4),.none,(.dict #[] 2),#[]⟩
noncomputable def b63 (P : Params) : Obj := ⟨(.type PySem.W.SL.s2766695959194262286x5),.none,(.seq #[] 0),#[]⟩
noncomputable def b64 (P : Params) : Obj := ⟨(.type PySem.W.SL.s5991306692159431302x13),.none,(.fields #[(.ref 63),.none,.none,.none,(.bool .false),.none]),#[]⟩
noncomputable def tb (P : Params) : BT := (.node (z0 P) (.node (z1 P) (.node (b3 P) (.node (z7 P) (.node (z15 P) (.node (z31 P) (.node (b63 P) .nil .nil) .nil) (.node (b47 P) .nil .nil)) (.node (z23 P) (.node (b39 P) .nil .nil) (.node (b55 P) .nil .nil))) (.node (z11 P) (.node (z19 P) (.node (b35 P) .nil .nil) (.node (b51 P) .nil .nil)) (.node (z27 P) (.node (b43 P) .nil .nil) (.node (b59 P) .nil .nil)))) (.node (z5 P) (.node (z9 P) (.node (z17 P) (.node (z33 P) .nil .nil) (.node (b49 P) .nil .nil)) (.node (z25 P) (.node (b41 P) .nil .nil) (.node (b57 P) .nil .nil))) (.node (z13 P) (.node (z21 P) (.node (a37 P) .nil .nil) (.node (b53 P) .nil .nil)) (.node (z29 P) (.node (b45 P) .nil .nil) (.node (b61 P) .nil .nil))))) (.node (z2 P) (.node (z4 P) (.node (z8 P) (.node (z16 P) (.node (z32 P) (.node (b64 P) .nil .nil) .nil) (.node (b48 P) .nil .nil)) (.node (z24 P) (.node (b40 P) .nil .nil) (.node (b56 P) .nil .nil))) (.node (z12 P) (.node (z20 P) (.node (a36 P) .nil .nil) (.node (b52 P) .nil .nil)) (.node (z28 P) (.node (b44 P) .nil .nil) (.node (b60 P) .nil .nil)))) (.node (z6 P) (.node (z10 P) (.node (z18 P) (.node (a34 P) .nil .nil) (.node (b50 P) .nil .nil)) (.node (z26 P) (.node (b42 P) .nil .nil) (.node (b58 P) .nil .nil))) (.node (z14 P) (.node (z22 P) (.node (b38 P) .nil .nil) (.node (b54 P) .nil .nil)) (.node (z30 P) (.node (b46 P) .nil .nil) (.node (b62 P) .nil .nil))))))
noncomputable def m3 (P : Params) : Obj := ⟨(.type PySem.W.SL.s14018661285674007319x4),.none,(.dict #[⟨(PySem.PyData.keyHash P s0),(.str s0 165),(.str s502 1396)⟩,⟨(PySem.PyData.keyHash P s2),(.str s2 166),.none⟩,⟨(PySem.PyData.keyHash P s3),(.str s3 167),.none⟩,⟨(PySem.PyData.keyHash P s4),(.str s4 168),(.builtin PySem.W.SL.s7097527257260152453x26)⟩,⟨(PySem.PyData.keyHash P s5),(.str s5 169),.none⟩,⟨(PySem.PyData.keyHash P s177),(.str s177 170),(.ref 6)⟩,⟨(PySem.PyData.keyHash P s178),(.str s178 171),(.ref 4)⟩,⟨(PySem.PyData.keyHash P s179),(.str s179 173),(.str s180 172)⟩,⟨(PySem.PyData.keyHash P s181),(.str s181 174),.none⟩,⟨(PySem.PyData.keyHash P s160),(.str s160 275),(.ref 12)⟩,⟨(PySem.PyData.keyHash P s182),(.str s182 317),(.type PySem.W.SL.s5314052453082223887x17)⟩,⟨(PySem.PyData.keyHash P s238),(.str s238 330),(.ref 44)⟩,⟨(PySem.PyData.keyHash P s239),(.str s239 342),(.ref 51)⟩,⟨(PySem.PyData.keyHash P s240),(.str s240 350),(.ref 58)⟩,⟨(PySem.PyData.keyHash P ⟨#[78,76]⟩),(.str ⟨#[78,76]⟩ 352),(.str ⟨#[10]⟩ 351)⟩,⟨(PySem.PyData.keyHash P s241),(.str s241 1380),(.ref 61)⟩,⟨(PySem.PyData.keyHash P s503),(.str s503 1381),(.ref 66)⟩,⟨(PySem.PyData.keyHash P s504),(.str s504 1382),(.ref 68)⟩,⟨(PySem.PyData.keyHash P s505),(.str s505 1384),(.str s506 1383)⟩,⟨(PySem.PyData.keyHash P s507),(.str s507 1386),(.str s508 1385)⟩,⟨(PySem.PyData.keyHash P s509),(.str s509 1388),(.str s510 1387)⟩,⟨(PySem.PyData.keyHash P s511),(.str s511 1390),(.str s512 1389)⟩,⟨(PySem.PyData.keyHash P s513),(.str s513 1395),(.str s514 1394)⟩,⟨(PySem.PyData.keyHash P ⟨#[99]⟩),(.str ⟨#[99]⟩ 1406),(.int 57 1603)⟩] 24),#[]⟩
noncomputable def m65 (P : Params) : Obj := ⟨(.type PySem.W.SL.s4674234679698826739x5),.none,(.fields #[.none,.none,.none]),#[]⟩
noncomputable def m66 (P : Params) : Obj := ⟨(.type PySem.W.SL.s9222952809800978799x4),.none,(.seq #[(.str s246 359),(.str s247 363),(.str s248 367),(.str s249 371),(.str s250 375),(.str s251 379),(.str s252 383),(.str s253 387),(.str s254 391),(.str s255 395),(.str s256 399),(.str s257 403),(.str s258 407),(.str s259 411),(.str s260 415),(.str s261 419),(.str s262 423),(.str s263 427),(.str s264 431),(.str s265 435),(.str s266 439),(.str s267 443),(.str s268 447),(.str s269 451),(.str s270 455),(.str s271 459),(.str s272 463),(.str s273 467),(.str s274 471),(.str s275 475),(.str s276 479),(.str s277 483),(.str ⟨#[95]⟩ 1606),(.str ⟨#[33]⟩ 1410),(.str s280 495),(.str s281 499),(.str s282 503),(.str s283 507),(.str s284 511),(.str s285 515),(.str s286 519),(.str s287 523),(.str ⟨#[42]⟩ 1413),(.str ⟨#[43]⟩ 1416),(.str s290 535),(.str ⟨#[45]⟩ 1407),(.str s292 543),(.str ⟨#[47]⟩ 1419),(.str ⟨#[48]⟩ 1578),(.str ⟨#[49]⟩ 1581),(.str ⟨#[50]⟩ 1584),(.str ⟨#[51]⟩ 1587),(.str ⟨#[52]⟩ 1590),(.str ⟨#[53]⟩ 1593),(.str ⟨#[54]⟩ 1596),(.str ⟨#[55]⟩ 1599),(.str ⟨#[56]⟩ 1602),(.str ⟨#[57]⟩ 1605),(.str s304 591),(.str s305 595),(.str s306 599),(.str s307 603),(.str s308 607),(.str s309 611),(.str s310 615),(.str ⟨#[65]⟩ 1500),(.str ⟨#[66]⟩ 1503),(.str ⟨#[67]⟩ 1506),(.str ⟨#[68]⟩ 1509),(.str ⟨#[69]⟩ 1512),(.str ⟨#[70]⟩ 1515),(.str ⟨#[71]⟩ 1518),(.str ⟨#[72]⟩ 1521),(.str ⟨#[73]⟩ 1524),(.str ⟨#[74]⟩ 1527),(.str ⟨#[75]⟩ 1530),(.str ⟨#[76]⟩ 1533),(.str ⟨#[77]⟩ 1536),(.str ⟨#[78]⟩ 1539),(.str ⟨#[79]⟩ 1542),(.str ⟨#[80]⟩ 1545),(.str ⟨#[81]⟩ 1548),(.str ⟨#[82]⟩ 1551),(.str ⟨#[83]⟩ 1554),(.str ⟨#[84]⟩ 1557),(.str ⟨#[85]⟩ 1560),(.str ⟨#[86]⟩ 1563),(.str ⟨#[87]⟩ 1566),(.str ⟨#[88]⟩ 1569),(.str ⟨#[89]⟩ 1572),(.str ⟨#[90]⟩ 1575),(.str s337 723),(.str s338 727),(.str s339 731),(.str s340 735),(.str s341 739),(.str s342 743),(.str ⟨#[97]⟩ 1422),(.str ⟨#[98]⟩ 1425),(.str ⟨#[99]⟩ 1428),(.str ⟨#[100]⟩ 1431),(.str ⟨#[101]⟩ 1434),(.str ⟨#[102]⟩ 1437),(.str ⟨#[103]⟩ 1440),(.str ⟨#[104]⟩ 1443),(.str ⟨#[105]⟩ 1446),(.str ⟨#[106]⟩ 1449),(.str ⟨#[107]⟩ 1452),(.str ⟨#[108]⟩ 1455),(.str ⟨#[109]⟩ 1458),(.str ⟨#[110]⟩ 1461),(.str ⟨#[111]⟩ 1464),(.str ⟨#[112]⟩ 1467),(.str ⟨#[113]⟩ 1470),(.str ⟨#[114]⟩ 1473),(.str ⟨#[115]⟩ 1476),(.str ⟨#[116]⟩ 1479),(.str ⟨#[117]⟩ 1482),(.str ⟨#[118]⟩ 1485),(.str ⟨#[119]⟩ 1488),(.str ⟨#[120]⟩ 1491),(.str ⟨#[121]⟩ 1494),(.str ⟨#[122]⟩ 1497),(.str s369 851),(.str s370 855),(.str s371 859),(.str s372 863),(.str s373 867),(.str s374 871),(.str s375 875),(.str s376 879),(.str s377 883),(.str s378 887),(.str s379 891),(.str s380 895),(.str s381 899),(.str s382 903),(.str s383 907),(.str s384 911),(.str s385 915),(.str s386 919),(.str s387 923),(.str s388 927),(.str s389 931),(.str s390 935),(.str s391 939),(.str s392 943),(.str s393 947),(.str s394 951),(.str s395 955),(.str s396 959),(.str s397 963),(.str s398 967),(.str s399 971),(.str s400 975),(.str s401 979),(.str s402 983),(.str s403 987),(.str s404 991),(.str s405 995),(.str s406 999),(.str s407 1003),(.str s408 1007),(.str s409 1011),(.str s410 1015),(.str s411 1019),(.str s412 1023),(.str s413 1027),(.str s414 1031),(.str s415 1035),(.str s416 1039),(.str s417 1043),(.str s418 1047),(.str s419 1051),(.str s420 1055),(.str s421 1059),(.str s422 1063),(.str s423 1067),(.str s424 1071),(.str s425 1075),(.str s426 1079),(.str s427 1083),(.str s428 1087),(.str s429 1091),(.str s430 1095),(.str s431 1099),(.str s432 1103),(.str s433 1107),(.str s434 1111),(.str s435 1115),(.str s436 1119),(.str s437 1123),(.str s438 1127),(.str s439 1131),(.str s440 1135),(.str s441 1139),(.str s442 1143),(.str s443 1147),(.str s444 1151),(.str s445 1155),(.str s446 1159),(.str s447 1163),(.str s448 1167),(.str s449 1171),(.str s450 1175),(.str s451 1179),(.str s452 1183),(.str s453 1187),(.str s454 1191),(.str s455 1195),(.str s456 1199),(.str s457 1203),(.str s458 1207),(.str s459 1211),(.str s460 1215),(.str s461 1219),(.str s462 1223),(.str s463 1227),(.str s464 1231),(.str s465 1235),(.str s466 1239),(.str s467 1243),(.str s468 1247),(.str s469 1251),(.str s470 1255),(.str s471 1259),(.str s472 1263),(.str s473 1267),(.str s474 1271),(.str s475 1275),(.str s476 1279),(.str s477 1283),(.str s478 1287),(.str s479 1291),(.str s480 1295),(.str s481 1299),(.str s482 1303),(.str s483 1307),(.str s484 1311),(.str s485 1315),(.str s486 1319),(.str s487 1323),(.str s488 1327),(.str s489 1331),(.str s490 1335),(.str s491 1339),(.str s492 1343),(.str s493 1347),(.str s494 1351),(.str s495 1355),(.str s496 1359),(.str s497 1363),(.str s498 1367),(.str s499 1371),(.str s500 1375),(.str s501 1379)] 0),#[]⟩
noncomputable def m67 (P : Params) : Obj := ⟨(.type PySem.W.SL.s4674234679698826739x5),.none,(.fields #[.none,.none,.none]),#[]⟩
noncomputable def m68 (P : Params) : Obj := ⟨(.type PySem.W.SL.s9222952809800978799x4),.none,(.seq #[(.str s246 359),(.str s247 363),(.str s248 367),(.str s249 371),(.str s250 375),(.str s251 379),(.str s252 383),(.str s253 387),(.str s254 391),(.str s255 395),(.str s256 399),(.str s257 403),(.str s258 407),(.str s259 411),(.str s260 415),(.str s261 419),(.str s262 423),(.str s263 427),(.str s264 431),(.str s265 435),(.str s266 439),(.str s267 443),(.str s268 447),(.str s269 451),(.str s270 455),(.str s271 459),(.str s272 463),(.str s273 467),(.str s274 471),(.str s275 475),(.str s276 479),(.str s277 483),(.str s278 487),(.str s279 491),(.str s280 495),(.str s281 499),(.str s282 503),(.str s283 507),(.str s284 511),(.str s285 515),(.str s286 519),(.str s287 523),(.str s288 527),(.str s289 531),(.str s290 535),(.str s291 539),(.str s292 543),(.str s293 547),(.str s294 551),(.str s295 555),(.str s296 559),(.str s297 563),(.str s298 567),(.str s299 571),(.str s300 575),(.str s301 579),(.str s302 583),(.str s303 587),(.str s304 591),(.str s305 595),(.str s306 599),(.str s307 603),(.str s308 607),(.str s309 611),(.str s310 615),(.str s311 619),(.str s312 623),(.str s313 627),(.str s314 631),(.str s315 635),(.str s316 639),(.str s317 643),(.str s318 647),(.str s319 651),(.str s320 655),(.str s321 659),(.str s322 663),(.str s323 667),(.str s324 671),(.str s325 675),(.str s326 679),(.str s327 683),(.str s328 687),(.str s329 691),(.str s330 695),(.str s331 699),(.str s332 703),(.str s333 707),(.str s334 711),(.str s335 715),(.str s336 719),(.str s337 723),(.str s338 727),(.str s339 731),(.str s340 735),(.str s341 739),(.str s342 743),(.str s343 747),(.str s344 751),(.str s345 755),(.str s346 759),(.str s347 763),(.str s348 767),(.str s349 771),(.str s350 775),(.str s351 779),(.str s352 783),(.str s353 787),(.str s354 791),(.str s355 795),(.str s356 799),(.str s357 803),(.str s358 807),(.str s359 811),(.str s360 815),(.str s361 819),(.str s362 823),(.str s363 827),(.str s364 831),(.str s365 835),(.str s366 839),(.str s367 843),(.str s368 847),(.str s369 851),(.str s370 855),(.str s371 859),(.str s372 863),(.str s373 867),(.str s374 871),(.str s375 875),(.str s376 879),(.str s377 883),(.str s378 887),(.str s379 891),(.str s380 895),(.str s381 899),(.str s382 903),(.str s383 907),(.str s384 911),(.str s385 915),(.str s386 919),(.str s387 923),(.str s388 927),(.str s389 931),(.str s390 935),(.str s391 939),(.str s392 943),(.str s393 947),(.str s394 951),(.str s395 955),(.str s396 959),(.str s397 963),(.str s398 967),(.str s399 971),(.str s400 975),(.str s401 979),(.str s402 983),(.str s403 987),(.str s404 991),(.str s405 995),(.str s406 999),(.str s407 1003),(.str s408 1007),(.str s409 1011),(.str s410 1015),(.str s411 1019),(.str s412 1023),(.str s413 1027),(.str s414 1031),(.str s415 1035),(.str s416 1039),(.str s417 1043),(.str s418 1047),(.str s419 1051),(.str s420 1055),(.str s421 1059),(.str s422 1063),(.str s423 1067),(.str s424 1071),(.str s425 1075),(.str s426 1079),(.str s427 1083),(.str s428 1087),(.str s429 1091),(.str s430 1095),(.str s431 1099),(.str s432 1103),(.str s433 1107),(.str s434 1111),(.str s435 1115),(.str s436 1119),(.str s437 1123),(.str s438 1127),(.str s439 1131),(.str s440 1135),(.str s441 1139),(.str s442 1143),(.str s443 1147),(.str s444 1151),(.str s445 1155),(.str s446 1159),(.str s447 1163),(.str s448 1167),(.str s449 1171),(.str s450 1175),(.str s451 1179),(.str s452 1183),(.str s453 1187),(.str s454 1191),(.str s455 1195),(.str s456 1199),(.str s457 1203),(.str s458 1207),(.str s459 1211),(.str s460 1215),(.str s461 1219),(.str s462 1223),(.str s463 1227),(.str s464 1231),(.str s465 1235),(.str s466 1239),(.str s467 1243),(.str s468 1247),(.str s469 1251),(.str s470 1255),(.str s471 1259),(.str s472 1263),(.str s473 1267),(.str s474 1271),(.str s475 1275),(.str s476 1279),(.str s477 1283),(.str s478 1287),(.str s479 1291),(.str s480 1295),(.str s481 1299),(.str s482 1303),(.str s483 1307),(.str s484 1311),(.str s485 1315),(.str s486 1319),(.str s487 1323),(.str s488 1327),(.str s489 1331),(.str s490 1335),(.str s491 1339),(.str s492 1343),(.str s493 1347),(.str s494 1351),(.str s495 1355),(.str s496 1359),(.str s497 1363),(.str s498 1367),(.str s499 1371),(.str s500 1375),(.str s501 1379)] 0),#[]⟩
noncomputable def m69 (P : Params) : Obj := ⟨(.type PySem.W.SL.s1378417608194177226x14),.none,(.fields #[.none,(.int 67 0)]),#[]⟩
noncomputable def m70 (P : Params) : Obj := ⟨(.type PySem.W.SL.s2766695959194262286x5),.none,(.seq #[] 0),#[]⟩
noncomputable def m71 (P : Params) : Obj := ⟨(.type PySem.W.SL.s5991306692159431302x13),.none,(.fields #[(.ref 70),.none,.none,.none,(.bool .false),.none]),#[]⟩
noncomputable def tm (P : Params) : BT := (.node (z0 P) (.node (z1 P) (.node (m3 P) (.node (z7 P) (.node (z15 P) (.node (z31 P) (.node (b63 P) .nil .nil) .nil) (.node (b47 P) .nil .nil)) (.node (z23 P) (.node (b39 P) (.node (m71 P) .nil .nil) .nil) (.node (b55 P) .nil .nil))) (.node (z11 P) (.node (z19 P) (.node (b35 P) (.node (m67 P) .nil .nil) .nil) (.node (b51 P) .nil .nil)) (.node (z27 P) (.node (b43 P) .nil .nil) (.node (b59 P) .nil .nil)))) (.node (z5 P) (.node (z9 P) (.node (z17 P) (.node (z33 P) (.node (m65 P) .nil .nil) .nil) (.node (b49 P) .nil .nil)) (.node (z25 P) (.node (b41 P) .nil .nil) (.node (b57 P) .nil .nil))) (.node (z13 P) (.node (z21 P) (.node (a37 P) (.node (m69 P) .nil .nil) .nil) (.node (b53 P) .nil .nil)) (.node (z29 P) (.node (b45 P) .nil .nil) (.node (b61 P) .nil .nil))))) (.node (z2 P) (.node (z4 P) (.node (z8 P) (.node (z16 P) (.node (z32 P) (.node (b64 P) .nil .nil) .nil) (.node (b48 P) .nil .nil)) (.node (z24 P) (.node (b40 P) .nil .nil) (.node (b56 P) .nil .nil))) (.node (z12 P) (.node (z20 P) (.node (a36 P) (.node (m68 P) .nil .nil) .nil) (.node (b52 P) .nil .nil)) (.node (z28 P) (.node (b44 P) .nil .nil) (.node (b60 P) .nil .nil)))) (.node (z6 P) (.node (z10 P) (.node (z18 P) (.node (a34 P) (.node (m66 P) .nil .nil) .nil) (.node (b50 P) .nil .nil)) (.node (z26 P) (.node (b42 P) .nil .nil) (.node (b58 P) .nil .nil))) (.node (z14 P) (.node (z22 P) (.node (b38 P) (.node (m70 P) .nil .nil) .nil) (.node (b54 P) .nil .nil)) (.node (z30 P) (.node (b46 P) .nil .nil) (.node (b62 P) .nil .nil))))))
noncomputable def n3 (P : Params) : Obj := ⟨(.type PySem.W.SL.s14018661285674007319x4),.none,(.dict #[⟨(PySem.PyData.keyHash P s0),(.str s0 165),(.str s502 1396)⟩,⟨(PySem.PyData.keyHash P s2),(.str s2 166),.none⟩,⟨(PySem.PyData.keyHash P s3),(.str s3 167),.none⟩,⟨(PySem.PyData.keyHash P s4),(.str s4 168),(.builtin PySem.W.SL.s7097527257260152453x26)⟩,⟨(PySem.PyData.keyHash P s5),(.str s5 169),.none⟩,⟨(PySem.PyData.keyHash P s177),(.str s177 170),(.ref 6)⟩,⟨(PySem.PyData.keyHash P s178),(.str s178 171),(.ref 4)⟩,⟨(PySem.PyData.keyHash P s179),(.str s179 173),(.str s180 172)⟩,⟨(PySem.PyData.keyHash P s181),(.str s181 174),.none⟩,⟨(PySem.PyData.keyHash P s160),(.str s160 275),(.ref 12)⟩,⟨(PySem.PyData.keyHash P s182),(.str s182 317),(.type PySem.W.SL.s5314052453082223887x17)⟩,⟨(PySem.PyData.keyHash P s238),(.str s238 330),(.ref 44)⟩,⟨(PySem.PyData.keyHash P s239),(.str s239 342),(.ref 51)⟩,⟨(PySem.PyData.keyHash P s240),(.str s240 350),(.ref 58)⟩,⟨(PySem.PyData.keyHash P ⟨#[78,76]⟩),(.str ⟨#[78,76]⟩ 352),(.str ⟨#[10]⟩ 351)⟩,⟨(PySem.PyData.keyHash P s241),(.str s241 1380),(.ref 61)⟩,⟨(PySem.PyData.keyHash P s503),(.str s503 1381),(.ref 66)⟩,⟨(PySem.PyData.keyHash P s504),(.str s504 1382),(.ref 68)⟩,⟨(PySem.PyData.keyHash P s505),(.str s505 1384),(.str s506 1383)⟩,⟨(PySem.PyData.keyHash P s507),(.str s507 1386),(.str s508 1385)⟩,⟨(PySem.PyData.keyHash P s509),(.str s509 1388),(.str s510 1387)⟩,⟨(PySem.PyData.keyHash P s511),(.str s511 1390),(.str s512 1389)⟩,⟨(PySem.PyData.keyHash P s513),(.str s513 1395),(.str s514 1394)⟩,⟨(PySem.PyData.keyHash P ⟨#[99]⟩),(.str ⟨#[99]⟩ 1406),(.int 9 1892)⟩,⟨(PySem.PyData.keyHash P s515),(.str s515 1901),(.ref 81)⟩,⟨(PySem.PyData.keyHash P s516),(.str s516 1908),(.ref 88)⟩,⟨(PySem.PyData.keyHash P s517),(.str s517 1909),(.ref 88)⟩,⟨(PySem.PyData.keyHash P s518),(.str s518 1910),(.ref 90)⟩] 28),#[]⟩
noncomputable def n35 (P : Params) : Obj := ⟨.none,.none,(.fields #[(.int 3 0),(.int 0 0),(.ref 43),(.int 7 0),(.int 0 0),(.ref 50),(.int 16 0),(.int 0 0),(.ref 57),(.int 33 0),(.int 0 0),(.ref 80),(.int 35 0),(.int 0 0),(.ref 87)]),#[]⟩
noncomputable def n68 (P : Params) : Obj := ⟨(.type PySem.W.SL.s9222952809800978799x4),.none,(.seq #[(.str s246 359),(.str s247 363),(.str s248 367),(.str s249 371),(.str s250 375),(.str s251 379),(.str s252 383),(.str s253 387),(.str s254 391),(.str ⟨#[9]⟩ 1894),(.str s256 399),(.str s257 403),(.str s258 407),(.str s259 411),(.str s260 415),(.str s261 419),(.str s262 423),(.str s263 427),(.str s264 431),(.str s265 435),(.str s266 439),(.str s267 443),(.str s268 447),(.str s269 451),(.str s270 455),(.str s271 459),(.str s272 463),(.str s273 467),(.str s274 471),(.str s275 475),(.str s276 479),(.str s277 483),(.str ⟨#[32]⟩ 1612),(.str ⟨#[33]⟩ 1615),(.str ⟨#[34]⟩ 1618),(.str ⟨#[35]⟩ 1621),(.str ⟨#[36]⟩ 1624),(.str ⟨#[37]⟩ 1627),(.str ⟨#[38]⟩ 1630),(.str ⟨#[39]⟩ 1633),(.str ⟨#[40]⟩ 1636),(.str ⟨#[41]⟩ 1639),(.str ⟨#[42]⟩ 1642),(.str ⟨#[43]⟩ 1645),(.str ⟨#[44]⟩ 1648),(.str ⟨#[45]⟩ 1651),(.str ⟨#[46]⟩ 1654),(.str ⟨#[47]⟩ 1657),(.str ⟨#[48]⟩ 1660),(.str ⟨#[49]⟩ 1663),(.str ⟨#[50]⟩ 1666),(.str ⟨#[51]⟩ 1669),(.str ⟨#[52]⟩ 1672),(.str ⟨#[53]⟩ 1675),(.str ⟨#[54]⟩ 1678),(.str ⟨#[55]⟩ 1681),(.str ⟨#[56]⟩ 1684),(.str ⟨#[57]⟩ 1687),(.str ⟨#[58]⟩ 1690),(.str ⟨#[59]⟩ 1693),(.str ⟨#[60]⟩ 1696),(.str s307 603),(.str ⟨#[62]⟩ 1699),(.str ⟨#[63]⟩ 1702),(.str ⟨#[64]⟩ 1705),(.str ⟨#[65]⟩ 1708),(.str ⟨#[66]⟩ 1711),(.str ⟨#[67]⟩ 1714),(.str ⟨#[68]⟩ 1717),(.str ⟨#[69]⟩ 1720),(.str ⟨#[70]⟩ 1723),(.str ⟨#[71]⟩ 1726),(.str ⟨#[72]⟩ 1729),(.str ⟨#[73]⟩ 1732),(.str ⟨#[74]⟩ 1735),(.str ⟨#[75]⟩ 1738),(.str ⟨#[76]⟩ 1741),(.str ⟨#[77]⟩ 1744),(.str ⟨#[78]⟩ 1747),(.str ⟨#[79]⟩ 1750),(.str ⟨#[80]⟩ 1753),(.str ⟨#[81]⟩ 1756),(.str ⟨#[82]⟩ 1759),(.str ⟨#[83]⟩ 1762),(.str ⟨#[84]⟩ 1765),(.str ⟨#[85]⟩ 1768),(.str ⟨#[86]⟩ 1771),(.str ⟨#[87]⟩ 1774),(.str ⟨#[88]⟩ 1777),(.str ⟨#[89]⟩ 1780),(.str ⟨#[90]⟩ 1783),(.str ⟨#[91]⟩ 1786),(.str ⟨#[92]⟩ 1789),(.str ⟨#[93]⟩ 1792),(.str ⟨#[94]⟩ 1795),(.str ⟨#[95]⟩ 1798),(.str ⟨#[96]⟩ 1801),(.str ⟨#[97]⟩ 1804),(.str ⟨#[98]⟩ 1807),(.str ⟨#[99]⟩ 1810),(.str ⟨#[100]⟩ 1813),(.str ⟨#[101]⟩ 1816),(.str ⟨#[102]⟩ 1819),(.str ⟨#[103]⟩ 1822),(.str ⟨#[104]⟩ 1825),(.str ⟨#[105]⟩ 1828),(.str ⟨#[106]⟩ 1831),(.str ⟨#[107]⟩ 1834),(.str ⟨#[108]⟩ 1837),(.str ⟨#[109]⟩ 1840),(.str ⟨#[110]⟩ 1843),(.str ⟨#[111]⟩ 1846),(.str ⟨#[112]⟩ 1849),(.str ⟨#[113]⟩ 1852),(.str ⟨#[114]⟩ 1855),(.str ⟨#[115]⟩ 1858),(.str ⟨#[116]⟩ 1861),(.str ⟨#[117]⟩ 1864),(.str ⟨#[118]⟩ 1867),(.str ⟨#[119]⟩ 1870),(.str ⟨#[120]⟩ 1873),(.str ⟨#[121]⟩ 1876),(.str ⟨#[122]⟩ 1879),(.str ⟨#[123]⟩ 1882),(.str ⟨#[124]⟩ 1885),(.str ⟨#[125]⟩ 1888),(.str ⟨#[126]⟩ 1891),(.str s373 867),(.str s374 871),(.str s375 875),(.str s376 879),(.str s377 883),(.str s378 887),(.str s379 891),(.str s380 895),(.str s381 899),(.str s382 903),(.str s383 907),(.str s384 911),(.str s385 915),(.str s386 919),(.str s387 923),(.str s388 927),(.str s389 931),(.str s390 935),(.str s391 939),(.str s392 943),(.str s393 947),(.str s394 951),(.str s395 955),(.str s396 959),(.str s397 963),(.str s398 967),(.str s399 971),(.str s400 975),(.str s401 979),(.str s402 983),(.str s403 987),(.str s404 991),(.str s405 995),(.str s406 999),(.str s407 1003),(.str s408 1007),(.str s409 1011),(.str s410 1015),(.str s411 1019),(.str s412 1023),(.str s413 1027),(.str s414 1031),(.str s415 1035),(.str s416 1039),(.str s417 1043),(.str s418 1047),(.str s419 1051),(.str s420 1055),(.str s421 1059),(.str s422 1063),(.str s423 1067),(.str s424 1071),(.str s425 1075),(.str s426 1079),(.str s427 1083),(.str s428 1087),(.str s429 1091),(.str s430 1095),(.str s431 1099),(.str s432 1103),(.str s433 1107),(.str s434 1111),(.str s435 1115),(.str s436 1119),(.str s437 1123),(.str s438 1127),(.str s439 1131),(.str s440 1135),(.str s441 1139),(.str s442 1143),(.str s443 1147),(.str s444 1151),(.str s445 1155),(.str s446 1159),(.str s447 1163),(.str s448 1167),(.str s449 1171),(.str s450 1175),(.str s451 1179),(.str s452 1183),(.str s453 1187),(.str s454 1191),(.str s455 1195),(.str s456 1199),(.str s457 1203),(.str s458 1207),(.str s459 1211),(.str s460 1215),(.str s461 1219),(.str s462 1223),(.str s463 1227),(.str s464 1231),(.str s465 1235),(.str s466 1239),(.str s467 1243),(.str s468 1247),(.str s469 1251),(.str s470 1255),(.str s471 1259),(.str s472 1263),(.str s473 1267),(.str s474 1271),(.str s475 1275),(.str s476 1279),(.str s477 1283),(.str s478 1287),(.str s479 1291),(.str s480 1295),(.str s481 1299),(.str s482 1303),(.str s483 1307),(.str s484 1311),(.str s485 1315),(.str s486 1319),(.str s487 1323),(.str s488 1327),(.str s489 1331),(.str s490 1335),(.str s491 1339),(.str s492 1343),(.str s493 1347),(.str s494 1351),(.str s495 1355),(.str s496 1359),(.str s497 1363),(.str s498 1367),(.str s499 1371),(.str s500 1375),(.str s501 1379)] 0),#[]⟩
noncomputable def n72 (P : Params) : Obj := ⟨(.type PySem.W.SL.s1378417608194177226x14),.none,(.fields #[.none,(.int 95 0)]),#[]⟩
noncomputable def n73 (P : Params) : Obj := ⟨(.type PySem.W.SL.s2766695959194262286x5),.none,(.seq #[] 0),#[]⟩
noncomputable def n74 (P : Params) : Obj := ⟨(.type PySem.W.SL.s5991306692159431302x13),.none,(.fields #[(.ref 73),.none,.none,.none,(.bool .false),.none]),#[]⟩
noncomputable def n75 (P : Params) : Obj := ⟨(.type PySem.W.SL.s2766695959194262286x5),.none,(.seq #[] 0),#[]⟩
noncomputable def n76 (P : Params) : Obj := ⟨.none,.none,(.fields #[]),#[]⟩
noncomputable def n77 (P : Params) : Obj := ⟨(.type PySem.W.SL.s2766695959194262286x5),.none,(.seq #[(.str ⟨#[115]⟩ 1898)] 0),#[]⟩
noncomputable def n78 (P : Params) : Obj := ⟨(.type PySem.W.SL.s2766695959194262286x5),.none,(.seq #[] 0),#[]⟩
noncomputable def n79 (P : Params) : Obj := ⟨.none,.none,(.func ⟨s515,s515,(fP 19),(fB 19),(fS 19),0,[],.none,.none,.none,.none,.none,.none,.none,0⟩),#[]⟩
noncomputable def n80 (P : Params) : Obj := ⟨(.type PySem.W.SL.s5856160107412720595x4),.none,(.fields #[(.str s515 1895),(.str s515 1896),(.str s180 1897),(.int 33 0),(.int 1 0),(.int 0 0),(.int 0 0),(.int 3 0),(.ref 75),(.bool .true),(.int 318 0),(.ref 76),.none,(.ref 77),(.ref 78),(.ref 79),(.int 1899 0),(.int 33 0),(.str s180 1900)]),#[]⟩
noncomputable def n81 (P : Params) : Obj := ⟨(.type PySem.W.SL.s7174869446012820540x8),.none,(.func ⟨s515,s515,(fP 19),(fB 19),(fS 19),3,[],.none,.none,.none,(.str s502 1396),.none,(.ref 80),.none,0⟩),#[]⟩
noncomputable def n82 (P : Params) : Obj := ⟨(.type PySem.W.SL.s2766695959194262286x5),.none,(.seq #[] 0),#[]⟩
noncomputable def n83 (P : Params) : Obj := ⟨.none,.none,(.fields #[]),#[]⟩
noncomputable def n84 (P : Params) : Obj := ⟨(.type PySem.W.SL.s2766695959194262286x5),.none,(.seq #[(.str ⟨#[99]⟩ 1905)] 0),#[]⟩
noncomputable def n85 (P : Params) : Obj := ⟨(.type PySem.W.SL.s2766695959194262286x5),.none,(.seq #[] 0),#[]⟩
noncomputable def n86 (P : Params) : Obj := ⟨.none,.none,(.func ⟨s516,s516,(fP 20),(fB 20),(fS 20),0,[],.none,.none,.none,.none,.none,.none,.none,0⟩),#[]⟩
noncomputable def n87 (P : Params) : Obj := ⟨(.type PySem.W.SL.s5856160107412720595x4),.none,(.fields #[(.str s516 1902),(.str s516 1903),(.str s180 1904),(.int 35 0),(.int 1 0),(.int 0 0),(.int 0 0),(.int 3 0),(.ref 82),(.bool .true),(.int 318 0),(.ref 83),.none,(.ref 84),(.ref 85),(.ref 86),(.int 1906 0),(.int 35 0),(.str s180 1907)]),#[]⟩
noncomputable def n88 (P : Params) : Obj := ⟨(.type PySem.W.SL.s7174869446012820540x8),.none,(.func ⟨s516,s516,(fP 20),(fB 20),(fS 20),3,[],.none,.none,.none,(.str s502 1396),.none,(.ref 87),.none,0⟩),#[]⟩
noncomputable def n89 (P : Params) : Obj := ⟨(.type PySem.W.SL.s4674234679698826739x5),.none,(.fields #[.none,.none,.none]),#[]⟩
noncomputable def n90 (P : Params) : Obj := ⟨(.type PySem.W.SL.s9222952809800978799x4),.none,(.seq #[(.str s246 359),(.str s247 363),(.str s248 367),(.str s249 371),(.str s250 375),(.str s251 379),(.str s252 383),(.str s253 387),(.str s254 391),(.str ⟨#[9]⟩ 1894),(.str s256 399),(.str s257 403),(.str s258 407),(.str s259 411),(.str s260 415),(.str s261 419),(.str s262 423),(.str s263 427),(.str s264 431),(.str s265 435),(.str s266 439),(.str s267 443),(.str s268 447),(.str s269 451),(.str s270 455),(.str s271 459),(.str s272 463),(.str s273 467),(.str s274 471),(.str s275 475),(.str s276 479),(.str s277 483),(.str ⟨#[32]⟩ 1612),(.str ⟨#[33]⟩ 1615),(.str ⟨#[34]⟩ 1618),(.str ⟨#[35]⟩ 1621),(.str ⟨#[36]⟩ 1624),(.str ⟨#[37]⟩ 1627),(.str ⟨#[38]⟩ 1630),(.str ⟨#[39]⟩ 1633),(.str ⟨#[40]⟩ 1636),(.str ⟨#[41]⟩ 1639),(.str ⟨#[42]⟩ 1642),(.str ⟨#[43]⟩ 1645),(.str ⟨#[44]⟩ 1648),(.str ⟨#[45]⟩ 1651),(.str ⟨#[46]⟩ 1654),(.str ⟨#[47]⟩ 1657),(.str ⟨#[48]⟩ 1660),(.str ⟨#[49]⟩ 1663),(.str ⟨#[50]⟩ 1666),(.str ⟨#[51]⟩ 1669),(.str ⟨#[52]⟩ 1672),(.str ⟨#[53]⟩ 1675),(.str ⟨#[54]⟩ 1678),(.str ⟨#[55]⟩ 1681),(.str ⟨#[56]⟩ 1684),(.str ⟨#[57]⟩ 1687),(.str ⟨#[58]⟩ 1690),(.str ⟨#[59]⟩ 1693),(.str ⟨#[60]⟩ 1696),(.str s307 603),(.str ⟨#[62]⟩ 1699),(.str ⟨#[63]⟩ 1702),(.str ⟨#[64]⟩ 1705),(.str ⟨#[65]⟩ 1708),(.str ⟨#[66]⟩ 1711),(.str ⟨#[67]⟩ 1714),(.str ⟨#[68]⟩ 1717),(.str ⟨#[69]⟩ 1720),(.str ⟨#[70]⟩ 1723),(.str ⟨#[71]⟩ 1726),(.str ⟨#[72]⟩ 1729),(.str ⟨#[73]⟩ 1732),(.str ⟨#[74]⟩ 1735),(.str ⟨#[75]⟩ 1738),(.str ⟨#[76]⟩ 1741),(.str ⟨#[77]⟩ 1744),(.str ⟨#[78]⟩ 1747),(.str ⟨#[79]⟩ 1750),(.str ⟨#[80]⟩ 1753),(.str ⟨#[81]⟩ 1756),(.str ⟨#[82]⟩ 1759),(.str ⟨#[83]⟩ 1762),(.str ⟨#[84]⟩ 1765),(.str ⟨#[85]⟩ 1768),(.str ⟨#[86]⟩ 1771),(.str ⟨#[87]⟩ 1774),(.str ⟨#[88]⟩ 1777),(.str ⟨#[89]⟩ 1780),(.str ⟨#[90]⟩ 1783),(.str ⟨#[91]⟩ 1786),(.str ⟨#[92]⟩ 1789),(.str ⟨#[93]⟩ 1792),(.str ⟨#[94]⟩ 1795),(.str ⟨#[95]⟩ 1798),(.str ⟨#[96]⟩ 1801),(.str ⟨#[97]⟩ 1804),(.str ⟨#[98]⟩ 1807),(.str ⟨#[99]⟩ 1810),(.str ⟨#[100]⟩ 1813),(.str ⟨#[101]⟩ 1816),(.str ⟨#[102]⟩ 1819),(.str ⟨#[103]⟩ 1822),(.str ⟨#[104]⟩ 1825),(.str ⟨#[105]⟩ 1828),(.str ⟨#[106]⟩ 1831),(.str ⟨#[107]⟩ 1834),(.str ⟨#[108]⟩ 1837),(.str ⟨#[109]⟩ 1840),(.str ⟨#[110]⟩ 1843),(.str ⟨#[111]⟩ 1846),(.str ⟨#[112]⟩ 1849),(.str ⟨#[113]⟩ 1852),(.str ⟨#[114]⟩ 1855),(.str ⟨#[115]⟩ 1858),(.str ⟨#[116]⟩ 1861),(.str ⟨#[117]⟩ 1864),(.str ⟨#[118]⟩ 1867),(.str ⟨#[119]⟩ 1870),(.str ⟨#[120]⟩ 1873),(.str ⟨#[121]⟩ 1876),(.str ⟨#[122]⟩ 1879),(.str ⟨#[123]⟩ 1882),(.str ⟨#[124]⟩ 1885),(.str ⟨#[125]⟩ 1888),(.str ⟨#[126]⟩ 1891),(.str s373 867),(.str s374 871),(.str s375 875),(.str s376 879),(.str s377 883),(.str s378 887),(.str s379 891),(.str s380 895),(.str s381 899),(.str s382 903),(.str s383 907),(.str s384 911),(.str s385 915),(.str s386 919),(.str s387 923),(.str s388 927),(.str s389 931),(.str s390 935),(.str s391 939),(.str s392 943),(.str s393 947),(.str s394 951),(.str s395 955),(.str s396 959),(.str s397 963),(.str s398 967),(.str s399 971),(.str s400 975),(.str s401 979),(.str s402 983),(.str s403 987),(.str s404 991),(.str s405 995),(.str s406 999),(.str s407 1003),(.str s408 1007),(.str s409 1011),(.str s410 1015),(.str s411 1019),(.str s412 1023),(.str s413 1027),(.str s414 1031),(.str s415 1035),(.str s416 1039),(.str s417 1043),(.str s418 1047),(.str s419 1051),(.str s420 1055),(.str s421 1059),(.str s422 1063),(.str s423 1067),(.str s424 1071),(.str s425 1075),(.str s426 1079),(.str s427 1083),(.str s428 1087),(.str s429 1091),(.str s430 1095),(.str s431 1099),(.str s432 1103),(.str s433 1107),(.str s434 1111),(.str s435 1115),(.str s436 1119),(.str s437 1123),(.str s438 1127),(.str s439 1131),(.str s440 1135),(.str s441 1139),(.str s442 1143),(.str s443 1147),(.str s444 1151),(.str s445 1155),(.str s446 1159),(.str s447 1163),(.str s448 1167),(.str s449 1171),(.str s450 1175),(.str s451 1179),(.str s452 1183),(.str s453 1187),(.str s454 1191),(.str s455 1195),(.str s456 1199),(.str s457 1203),(.str s458 1207),(.str s459 1211),(.str s460 1215),(.str s461 1219),(.str s462 1223),(.str s463 1227),(.str s464 1231),(.str s465 1235),(.str s466 1239),(.str s467 1243),(.str s468 1247),(.str s469 1251),(.str s470 1255),(.str s471 1259),(.str s472 1263),(.str s473 1267),(.str s474 1271),(.str s475 1275),(.str s476 1279),(.str s477 1283),(.str s478 1287),(.str s479 1291),(.str s480 1295),(.str s481 1299),(.str s482 1303),(.str s483 1307),(.str s484 1311),(.str s485 1315),(.str s486 1319),(.str s487 1323),(.str s488 1327),(.str s489 1331),(.str s490 1335),(.str s491 1339),(.str s492 1343),(.str s493 1347),(.str s494 1351),(.str s495 1355),(.str s496 1359),(.str s497 1363),(.str s498 1367),(.str s499 1371),(.str s500 1375),(.str s501 1379)] 0),#[]⟩
noncomputable def tn (P : Params) : BT := (.node (z0 P) (.node (z1 P) (.node (n3 P) (.node (z7 P) (.node (z15 P) (.node (z31 P) (.node (b63 P) .nil .nil) .nil) (.node (b47 P) (.node (n79 P) .nil .nil) .nil)) (.node (z23 P) (.node (b39 P) (.node (m71 P) .nil .nil) .nil) (.node (b55 P) (.node (n87 P) .nil .nil) .nil))) (.node (z11 P) (.node (z19 P) (.node (n35 P) (.node (m67 P) .nil .nil) .nil) (.node (b51 P) (.node (n83 P) .nil .nil) .nil)) (.node (z27 P) (.node (b43 P) (.node (n75 P) .nil .nil) .nil) (.node (b59 P) .nil .nil)))) (.node (z5 P) (.node (z9 P) (.node (z17 P) (.node (z33 P) (.node (m65 P) .nil .nil) .nil) (.node (b49 P) (.node (n81 P) .nil .nil) .nil)) (.node (z25 P) (.node (b41 P) (.node (n73 P) .nil .nil) .nil) (.node (b57 P) (.node (n89 P) .nil .nil) .nil))) (.node (z13 P) (.node (z21 P) (.node (a37 P) (.node (m69 P) .nil .nil) .nil) (.node (b53 P) (.node (n85 P) .nil .nil) .nil)) (.node (z29 P) (.node (b45 P) (.node (n77 P) .nil .nil) .nil) (.node (b61 P) .nil .nil))))) (.node (z2 P) (.node (z4 P) (.node (z8 P) (.node (z16 P) (.node (z32 P) (.node (b64 P) .nil .nil) .nil) (.node (b48 P) (.node (n80 P) .nil .nil) .nil)) (.node (z24 P) (.node (b40 P) (.node (n72 P) .nil .nil) .nil) (.node (b56 P) (.node (n88 P) .nil .nil) .nil))) (.node (z12 P) (.node (z20 P) (.node (a36 P) (.node (n68 P) .nil .nil) .nil) (.node (b52 P) (.node (n84 P) .nil .nil) .nil)) (.node (z28 P) (.node (b44 P) (.node (n76 P) .nil .nil) .nil) (.node (b60 P) .nil .nil)))) (.node (z6 P) (.node (z10 P) (.node (z18 P) (.node (a34 P) (.node (m66 P) .nil .nil) .nil) (.node (b50 P) (.node (n82 P) .nil .nil) .nil)) (.node (z26 P) (.node (b42 P) (.node (n74 P) .nil .nil) .nil) (.node (b58 P) (.node (n90 P) .nil .nil) .nil))) (.node (z14 P) (.node (z22 P) (.node (b38 P) (.node (m70 P) .nil .nil) .nil) (.node (b54 P) (.node (n86 P) .nil .nil) .nil)) (.node (z30 P) (.node (b46 P) (.node (n78 P) .nil .nil) .nil) (.node (b62 P) .nil .nil))))))
noncomputable def d3 (P : Params) : Obj := ⟨(.type PySem.W.SL.s14018661285674007319x4),.none,(.dict #[⟨(PySem.PyData.keyHash P s0),(.str s0 165),(.str s502 1396)⟩,⟨(PySem.PyData.keyHash P s2),(.str s2 166),.none⟩,⟨(PySem.PyData.keyHash P s3),(.str s3 167),.none⟩,⟨(PySem.PyData.keyHash P s4),(.str s4 168),(.builtin PySem.W.SL.s7097527257260152453x26)⟩,⟨(PySem.PyData.keyHash P s5),(.str s5 169),.none⟩,⟨(PySem.PyData.keyHash P s177),(.str s177 170),(.ref 6)⟩,⟨(PySem.PyData.keyHash P s178),(.str s178 171),(.ref 4)⟩,⟨(PySem.PyData.keyHash P s179),(.str s179 173),(.str s180 172)⟩,⟨(PySem.PyData.keyHash P s181),(.str s181 174),.none⟩,⟨(PySem.PyData.keyHash P s160),(.str s160 275),(.ref 12)⟩,⟨(PySem.PyData.keyHash P s182),(.str s182 317),(.type PySem.W.SL.s5314052453082223887x17)⟩,⟨(PySem.PyData.keyHash P s238),(.str s238 330),(.ref 44)⟩,⟨(PySem.PyData.keyHash P s239),(.str s239 342),(.ref 51)⟩,⟨(PySem.PyData.keyHash P s240),(.str s240 350),(.ref 58)⟩,⟨(PySem.PyData.keyHash P ⟨#[78,76]⟩),(.str ⟨#[78,76]⟩ 352),(.str ⟨#[10]⟩ 351)⟩,⟨(PySem.PyData.keyHash P s241),(.str s241 1380),(.ref 61)⟩,⟨(PySem.PyData.keyHash P s503),(.str s503 1381),(.ref 66)⟩,⟨(PySem.PyData.keyHash P s504),(.str s504 1382),(.ref 68)⟩,⟨(PySem.PyData.keyHash P s505),(.str s505 1384),(.str s506 1383)⟩,⟨(PySem.PyData.keyHash P s507),(.str s507 1386),(.str s508 1385)⟩,⟨(PySem.PyData.keyHash P s509),(.str s509 1388),(.str s510 1387)⟩,⟨(PySem.PyData.keyHash P s511),(.str s511 1390),(.str s512 1389)⟩,⟨(PySem.PyData.keyHash P s513),(.str s513 1395),(.str s514 1394)⟩,⟨(PySem.PyData.keyHash P ⟨#[99]⟩),(.str ⟨#[99]⟩ 1406),(.int 10 1915)⟩,⟨(PySem.PyData.keyHash P s515),(.str s515 1901),(.ref 81)⟩,⟨(PySem.PyData.keyHash P s516),(.str s516 1908),(.ref 88)⟩,⟨(PySem.PyData.keyHash P s517),(.str s517 1909),(.ref 88)⟩,⟨(PySem.PyData.keyHash P s518),(.str s518 1910),(.ref 90)⟩] 28),#[]⟩
noncomputable def d90 (P : Params) : Obj := ⟨(.type PySem.W.SL.s9222952809800978799x4),.none,(.seq #[(.str s246 359),(.str s247 363),(.str s248 367),(.str s249 371),(.str s250 375),(.str s251 379),(.str s252 383),(.str s253 387),(.str s254 391),(.str ⟨#[9]⟩ 1894),(.str ⟨#[10]⟩ 1917),(.str s257 403),(.str s258 407),(.str ⟨#[13]⟩ 1914),(.str s260 415),(.str s261 419),(.str s262 423),(.str s263 427),(.str s264 431),(.str s265 435),(.str s266 439),(.str s267 443),(.str s268 447),(.str s269 451),(.str s270 455),(.str s271 459),(.str s272 463),(.str s273 467),(.str s274 471),(.str s275 475),(.str s276 479),(.str s277 483),(.str ⟨#[32]⟩ 1612),(.str ⟨#[33]⟩ 1615),(.str ⟨#[34]⟩ 1618),(.str ⟨#[35]⟩ 1621),(.str ⟨#[36]⟩ 1624),(.str ⟨#[37]⟩ 1627),(.str ⟨#[38]⟩ 1630),(.str ⟨#[39]⟩ 1633),(.str ⟨#[40]⟩ 1636),(.str ⟨#[41]⟩ 1639),(.str ⟨#[42]⟩ 1642),(.str ⟨#[43]⟩ 1645),(.str ⟨#[44]⟩ 1648),(.str ⟨#[45]⟩ 1651),(.str ⟨#[46]⟩ 1654),(.str ⟨#[47]⟩ 1657),(.str ⟨#[48]⟩ 1660),(.str ⟨#[49]⟩ 1663),(.str ⟨#[50]⟩ 1666),(.str ⟨#[51]⟩ 1669),(.str ⟨#[52]⟩ 1672),(.str ⟨#[53]⟩ 1675),(.str ⟨#[54]⟩ 1678),(.str ⟨#[55]⟩ 1681),(.str ⟨#[56]⟩ 1684),(.str ⟨#[57]⟩ 1687),(.str ⟨#[58]⟩ 1690),(.str ⟨#[59]⟩ 1693),(.str ⟨#[60]⟩ 1696),(.str s307 603),(.str ⟨#[62]⟩ 1699),(.str ⟨#[63]⟩ 1702),(.str ⟨#[64]⟩ 1705),(.str ⟨#[65]⟩ 1708),(.str ⟨#[66]⟩ 1711),(.str ⟨#[67]⟩ 1714),(.str ⟨#[68]⟩ 1717),(.str ⟨#[69]⟩ 1720),(.str ⟨#[70]⟩ 1723),(.str ⟨#[71]⟩ 1726),(.str ⟨#[72]⟩ 1729),(.str ⟨#[73]⟩ 1732),(.str ⟨#[74]⟩ 1735),(.str ⟨#[75]⟩ 1738),(.str ⟨#[76]⟩ 1741),(.str ⟨#[77]⟩ 1744),(.str ⟨#[78]⟩ 1747),(.str ⟨#[79]⟩ 1750),(.str ⟨#[80]⟩ 1753),(.str ⟨#[81]⟩ 1756),(.str ⟨#[82]⟩ 1759),(.str ⟨#[83]⟩ 1762),(.str ⟨#[84]⟩ 1765),(.str ⟨#[85]⟩ 1768),(.str ⟨#[86]⟩ 1771),(.str ⟨#[87]⟩ 1774),(.str ⟨#[88]⟩ 1777),(.str ⟨#[89]⟩ 1780),(.str ⟨#[90]⟩ 1783),(.str ⟨#[91]⟩ 1786),(.str ⟨#[92]⟩ 1789),(.str ⟨#[93]⟩ 1792),(.str ⟨#[94]⟩ 1795),(.str ⟨#[95]⟩ 1798),(.str ⟨#[96]⟩ 1801),(.str ⟨#[97]⟩ 1804),(.str ⟨#[98]⟩ 1807),(.str ⟨#[99]⟩ 1810),(.str ⟨#[100]⟩ 1813),(.str ⟨#[101]⟩ 1816),(.str ⟨#[102]⟩ 1819),(.str ⟨#[103]⟩ 1822),(.str ⟨#[104]⟩ 1825),(.str ⟨#[105]⟩ 1828),(.str ⟨#[106]⟩ 1831),(.str ⟨#[107]⟩ 1834),(.str ⟨#[108]⟩ 1837),(.str ⟨#[109]⟩ 1840),(.str ⟨#[110]⟩ 1843),(.str ⟨#[111]⟩ 1846),(.str ⟨#[112]⟩ 1849),(.str ⟨#[113]⟩ 1852),(.str ⟨#[114]⟩ 1855),(.str ⟨#[115]⟩ 1858),(.str ⟨#[116]⟩ 1861),(.str ⟨#[117]⟩ 1864),(.str ⟨#[118]⟩ 1867),(.str ⟨#[119]⟩ 1870),(.str ⟨#[120]⟩ 1873),(.str ⟨#[121]⟩ 1876),(.str ⟨#[122]⟩ 1879),(.str ⟨#[123]⟩ 1882),(.str ⟨#[124]⟩ 1885),(.str ⟨#[125]⟩ 1888),(.str ⟨#[126]⟩ 1891),(.str s373 867),(.str s374 871),(.str s375 875),(.str s376 879),(.str s377 883),(.str s378 887),(.str s379 891),(.str s380 895),(.str s381 899),(.str s382 903),(.str s383 907),(.str s384 911),(.str s385 915),(.str s386 919),(.str s387 923),(.str s388 927),(.str s389 931),(.str s390 935),(.str s391 939),(.str s392 943),(.str s393 947),(.str s394 951),(.str s395 955),(.str s396 959),(.str s397 963),(.str s398 967),(.str s399 971),(.str s400 975),(.str s401 979),(.str s402 983),(.str s403 987),(.str s404 991),(.str s405 995),(.str s406 999),(.str s407 1003),(.str s408 1007),(.str s409 1011),(.str s410 1015),(.str s411 1019),(.str s412 1023),(.str s413 1027),(.str s414 1031),(.str s415 1035),(.str s416 1039),(.str s417 1043),(.str s418 1047),(.str s419 1051),(.str s420 1055),(.str s421 1059),(.str s422 1063),(.str s423 1067),(.str s424 1071),(.str s425 1075),(.str s426 1079),(.str s427 1083),(.str s428 1087),(.str s429 1091),(.str s430 1095),(.str s431 1099),(.str s432 1103),(.str s433 1107),(.str s434 1111),(.str s435 1115),(.str s436 1119),(.str s437 1123),(.str s438 1127),(.str s439 1131),(.str s440 1135),(.str s441 1139),(.str s442 1143),(.str s443 1147),(.str s444 1151),(.str s445 1155),(.str s446 1159),(.str s447 1163),(.str s448 1167),(.str s449 1171),(.str s450 1175),(.str s451 1179),(.str s452 1183),(.str s453 1187),(.str s454 1191),(.str s455 1195),(.str s456 1199),(.str s457 1203),(.str s458 1207),(.str s459 1211),(.str s460 1215),(.str s461 1219),(.str s462 1223),(.str s463 1227),(.str s464 1231),(.str s465 1235),(.str s466 1239),(.str s467 1243),(.str s468 1247),(.str s469 1251),(.str s470 1255),(.str s471 1259),(.str s472 1263),(.str s473 1267),(.str s474 1271),(.str s475 1275),(.str s476 1279),(.str s477 1283),(.str s478 1287),(.str s479 1291),(.str s480 1295),(.str s481 1299),(.str s482 1303),(.str s483 1307),(.str s484 1311),(.str s485 1315),(.str s486 1319),(.str s487 1323),(.str s488 1327),(.str s489 1331),(.str s490 1335),(.str s491 1339),(.str s492 1343),(.str s493 1347),(.str s494 1351),(.str s495 1355),(.str s496 1359),(.str s497 1363),(.str s498 1367),(.str s499 1371),(.str s500 1375),(.str s501 1379)] 0),#[]⟩
noncomputable def d91 (P : Params) : Obj := ⟨(.type PySem.W.SL.s1378417608194177226x14),.none,(.fields #[.none,(.int 2 0)]),#[]⟩
noncomputable def d92 (P : Params) : Obj := ⟨(.type PySem.W.SL.s2766695959194262286x5),.none,(.seq #[] 0),#[]⟩
noncomputable def d93 (P : Params) : Obj := ⟨(.type PySem.W.SL.s5991306692159431302x13),.none,(.fields #[(.ref 92),.none,.none,.none,(.bool .false),.none]),#[]⟩
noncomputable def td (P : Params) : BT := (.node (z0 P) (.node (z1 P) (.node (d3 P) (.node (z7 P) (.node (z15 P) (.node (z31 P) (.node (b63 P) .nil .nil) .nil) (.node (b47 P) (.node (n79 P) .nil .nil) .nil)) (.node (z23 P) (.node (b39 P) (.node (m71 P) .nil .nil) .nil) (.node (b55 P) (.node (n87 P) .nil .nil) .nil))) (.node (z11 P) (.node (z19 P) (.node (n35 P) (.node (m67 P) .nil .nil) .nil) (.node (b51 P) (.node (n83 P) .nil .nil) .nil)) (.node (z27 P) (.node (b43 P) (.node (n75 P) .nil .nil) .nil) (.node (b59 P) (.node (d91 P) .nil .nil) .nil)))) (.node (z5 P) (.node (z9 P) (.node (z17 P) (.node (z33 P) (.node (m65 P) .nil .nil) .nil) (.node (b49 P) (.node (n81 P) .nil .nil) .nil)) (.node (z25 P) (.node (b41 P) (.node (n73 P) .nil .nil) .nil) (.node (b57 P) (.node (n89 P) .nil .nil) .nil))) (.node (z13 P) (.node (z21 P) (.node (a37 P) (.node (m69 P) .nil .nil) .nil) (.node (b53 P) (.node (n85 P) .nil .nil) .nil)) (.node (z29 P) (.node (b45 P) (.node (n77 P) .nil .nil) .nil) (.node (b61 P) (.node (d93 P) .nil .nil) .nil))))) (.node (z2 P) (.node (z4 P) (.node (z8 P) (.node (z16 P) (.node (z32 P) (.node (b64 P) .nil .nil) .nil) (.node (b48 P) (.node (n80 P) .nil .nil) .nil)) (.node (z24 P) (.node (b40 P) (.node (n72 P) .nil .nil) .nil) (.node (b56 P) (.node (n88 P) .nil .nil) .nil))) (.node (z12 P) (.node (z20 P) (.node (a36 P) (.node (n68 P) .nil .nil) .nil) (.node (b52 P) (.node (n84 P) .nil .nil) .nil)) (.node (z28 P) (.node (b44 P) (.node (n76 P) .nil .nil) .nil) (.node (b60 P) (.node (d92 P) .nil .nil) .nil)))) (.node (z6 P) (.node (z10 P) (.node (z18 P) (.node (a34 P) (.node (m66 P) .nil .nil) .nil) (.node (b50 P) (.node (n82 P) .nil .nil) .nil)) (.node (z26 P) (.node (b42 P) (.node (n74 P) .nil .nil) .nil) (.node (b58 P) (.node (d90 P) .nil .nil) .nil))) (.node (z14 P) (.node (z22 P) (.node (b38 P) (.node (m70 P) .nil .nil) .nil) (.node (b54 P) (.node (n86 P) .nil .nil) .nil)) (.node (z30 P) (.node (b46 P) (.node (n78 P) .nil .nil) .nil) (.node (b62 P) .nil .nil))))))

noncomputable def lf : Life := ⟨[],[],[],0,[],[],.false,#[],[],0,.false,.false,.false,0,[2000,10,10],.false,0,.true,[],[],0,.false⟩
abbrev gz : Array GenState := Array.mk []
abbrev dz : Drawn := ⟨0,0,0,0⟩
noncomputable def env : Env := { scope := pw.main.scope, locals := mainNs, globals := mainNs, cells := [], code := .ref 36, frame := some 37 }
noncomputable def bd : List Stmt := behindTheImports pw
noncomputable def C : Code := .body bd env
noncomputable def B : List Frame := [topFrame ⟨0,0,0,0⟩]
abbrev ann : Option Value := some (.ref 6)
noncomputable def St (t : Params → BT) (n k : Nat) (w : World) (os : OsState) : SharedT := ⟨t w.params, n, lf, gz, dz, k, os⟩
noncomputable abbrev twSeg := PySem.W.Fast.tw10110043849684766642
noncomputable abbrev twTree := PySem.W.Fast.tw14364793385576792824
noncomputable abbrev twExecs := PySem.W.Fast.tw12563942051412417395
noncomputable abbrev twGoT := PySem.W.Fast.tw10295753902157049106
noncomputable def th (l : List Stmt) (p : Pos) : Thread := ⟨(twExecs l env).wrap doneF deadEnd id id, C, p, B⟩
theorem seg_tw {w : World} {n : Nat} {S S' : SharedT} {l : List Stmt} {p p' : Pos}
    (h : twSeg twTree pw w 34 ann 1 n S (th l p) = some (.next, S', C, p')) : segRun treeTable pw w 34 ann 1 n S.abs (piecesOf l env C p B) = some (.next, S'.abs, C, p') := by
  refine segRun_of ?_
  unfold piecesOf
  rw [PySem.W.Fast.te10110043849684766642, PySem.W.Fast.te14364793385576792824, PySem.W.Fast.te12563942051412417395]
  exact h
theorem seg_tw2 {w : World} {n N : Nat} {S S₁ S' : SharedT} {t₁ : Thread} {l : List Stmt} {p p' : Pos}
    (h : twGoT twTree pw w 34 ann 1 n S (th l p) = some (S₁, t₁)) (k : twSeg twTree pw w 34 ann 1 N S₁ t₁ = some (.next, S', C, p')) : segRun treeTable pw w 34 ann 1 (n + N) S.abs (piecesOf l env C p B) = some (.next, S'.abs, C, p') := by
  refine seg_go (segGo_of (s' := S₁) (t' := t₁) ?_) (segRun_of ?_)
  · unfold piecesOf
    rw [PySem.W.Fast.te10295753902157049106, PySem.W.Fast.te14364793385576792824, PySem.W.Fast.te12563942051412417395]
    exact h
  · rw [PySem.W.Fast.te10110043849684766642, PySem.W.Fast.te14364793385576792824]
    exact k
abbrev cI := "comprehension-iter-twice"
abbrev sR := "special-get-raises"
theorem by2 {w : World} {P : World → Prop} (row : String) (hf : P (w.withFollow row false)) (ht : P (w.withFollow row true)) : P w := by
  have h : ∀ b : Bool, P (w.withFollow row b) := fun b => by cases b; exact hf; exact ht
  have := h (w.params.followText row); rwa [World.withFollow_self] at this
noncomputable def orT (x : Option (SharedT × Thread)) (S : SharedT) : SharedT × Thread := match x with | some y => y | none => (S, th [] ⟨0,0,0,0⟩)
/-! statements 0 to 5: the rows are asked in the first 175 steps -/
noncomputable def X1 (w : World) (os : OsState) : SharedT × Thread := orT (twGoT twTree pw ((w.withFollow cI false).withFollow sR false) 34 ann 1 175 (St ta 38 324 w os) (th (bd.take 6) ⟨0,0,0,0⟩)) (St ta 38 324 w os)
theorem g1a (w : World) (os : OsState) : twGoT twTree pw ((w.withFollow cI false).withFollow sR false) 34 ann 1 175 (St ta 38 324 w os) (th (bd.take 6) ⟨0,0,0,0⟩) = some ((X1 w os).1, (X1 w os).2) := by kernel_rfl
theorem g1b (w : World) (os : OsState) : twGoT twTree pw ((w.withFollow cI false).withFollow sR true) 34 ann 1 175 (St ta 38 324 w os) (th (bd.take 6) ⟨0,0,0,0⟩) = some ((X1 w os).1, (X1 w os).2) := by kernel_rfl
theorem g1c (w : World) (os : OsState) : twGoT twTree pw ((w.withFollow cI true).withFollow sR false) 34 ann 1 165 (St ta 38 324 w os) (th (bd.take 6) ⟨0,0,0,0⟩) = some ((X1 w os).1, (X1 w os).2) := by kernel_rfl
theorem g1d (w : World) (os : OsState) : twGoT twTree pw ((w.withFollow cI true).withFollow sR true) 34 ann 1 165 (St ta 38 324 w os) (th (bd.take 6) ⟨0,0,0,0⟩) = some ((X1 w os).1, (X1 w os).2) := by kernel_rfl
theorem g1e (w : World) (os : OsState) : twSeg twTree pw w 34 ann 1 9500 (X1 w os).1 (X1 w os).2 = some (.next, St tb 65 1381 w os, C, ⟨19,0,19,11⟩) := by kernel_rfl
theorem g1 (w : World) (os : OsState) : ∃ n, n ≤ 9675 ∧ segRun treeTable pw w 34 ann 1 n (St ta 38 324 w os).abs (piecesOf (bd.take 6) env C ⟨0,0,0,0⟩ B) = some (.next, (St tb 65 1381 w os).abs, C, ⟨19,0,19,11⟩) := by
  have key : ∃ n, n ≤ 175 ∧ twGoT twTree pw w 34 ann 1 n (St ta 38 324 w os) (th (bd.take 6) ⟨0,0,0,0⟩) = some ((X1 w os).1, (X1 w os).2) := by
    refine by2 (w := w) (P := fun v => ∃ n, n ≤ 175 ∧ twGoT twTree pw v 34 ann 1 n (St ta 38 324 w os) (th (bd.take 6) ⟨0,0,0,0⟩) = some ((X1 w os).1, (X1 w os).2)) cI ?_ ?_
    · refine by2 (w := w.withFollow cI false) (P := fun v => ∃ n, n ≤ 175 ∧ twGoT twTree pw v 34 ann 1 n (St ta 38 324 w os) (th (bd.take 6) ⟨0,0,0,0⟩) = some ((X1 w os).1, (X1 w os).2)) sR ?_ ?_
      · exact ⟨175, by decide, g1a w os⟩
      · exact ⟨175, by decide, g1b w os⟩
    · refine by2 (w := w.withFollow cI true) (P := fun v => ∃ n, n ≤ 175 ∧ twGoT twTree pw v 34 ann 1 n (St ta 38 324 w os) (th (bd.take 6) ⟨0,0,0,0⟩) = some ((X1 w os).1, (X1 w os).2)) sR ?_ ?_
      · exact ⟨165, by decide, g1c w os⟩
      · exact ⟨165, by decide, g1d w os⟩
  obtain ⟨n, hn, e⟩ := key
  exact ⟨n + 9500, by omega, seg_tw2 e (g1e w os)⟩
/-! one row, asked in the first k steps -/
theorem one_row {w : World} {os : OsState} {k N : Nat} {S S' : SharedT} {X : SharedT × Thread} {l : List Stmt} {p p' : Pos}
    (hf : twGoT twTree pw (w.withFollow sR false) 34 ann 1 k S (th l p) = some (X.1, X.2)) (ht : twGoT twTree pw (w.withFollow sR true) 34 ann 1 k S (th l p) = some (X.1, X.2))
    (h : twSeg twTree pw w 34 ann 1 N X.1 X.2 = some (.next, S', C, p')) : segRun treeTable pw w 34 ann 1 (k + N) S.abs (piecesOf l env C p B) = some (.next, S'.abs, C, p') :=
  seg_tw2 (by2 (w := w) (P := fun v => twGoT twTree pw v 34 ann 1 k S (th l p) = some (X.1, X.2)) sR hf ht) h
noncomputable def X2 (w : World) (os : OsState) : SharedT × Thread := orT (twGoT twTree pw (w.withFollow sR false) 34 ann 1 180 (St tb 65 1381 w os) (th ((bd.drop 6).take 10) ⟨19,0,19,11⟩)) (St tb 65 1381 w os)
theorem g2a (w : World) (os : OsState) : twGoT twTree pw (w.withFollow sR false) 34 ann 1 180 (St tb 65 1381 w os) (th ((bd.drop 6).take 10) ⟨19,0,19,11⟩) = some ((X2 w os).1, (X2 w os).2) := by kernel_rfl
theorem g2b (w : World) (os : OsState) : twGoT twTree pw (w.withFollow sR true) 34 ann 1 180 (St tb 65 1381 w os) (th ((bd.drop 6).take 10) ⟨19,0,19,11⟩) = some ((X2 w os).1, (X2 w os).2) := by kernel_rfl
theorem g2c (w : World) (os : OsState) : twSeg twTree pw w 34 ann 1 3200 (X2 w os).1 (X2 w os).2 = some (.next, St tm 72 1609 w os, C, ⟨30,0,30,28⟩) := by kernel_rfl
noncomputable def X3 (w : World) (os : OsState) : SharedT × Thread := orT (twGoT twTree pw (w.withFollow sR false) 34 ann 1 15 (St tm 72 1609 w os) (th ((bd.drop 16).take 5) ⟨30,0,30,28⟩)) (St tm 72 1609 w os)
theorem g3a (w : World) (os : OsState) : twGoT twTree pw (w.withFollow sR false) 34 ann 1 15 (St tm 72 1609 w os) (th ((bd.drop 16).take 5) ⟨30,0,30,28⟩) = some ((X3 w os).1, (X3 w os).2) := by kernel_rfl
theorem g3b (w : World) (os : OsState) : twGoT twTree pw (w.withFollow sR true) 34 ann 1 15 (St tm 72 1609 w os) (th ((bd.drop 16).take 5) ⟨30,0,30,28⟩) = some ((X3 w os).1, (X3 w os).2) := by kernel_rfl
theorem g3c (w : World) (os : OsState) : twSeg twTree pw w 34 ann 1 4500 (X3 w os).1 (X3 w os).2 = some (.next, St tn 91 1911 w os, C, ⟨38,0,38,23⟩) := by kernel_rfl
theorem g4a (w : World) (os : OsState) : twSeg twTree pw (w.withFollow sR false) 34 ann 1 130 (St tn 91 1911 w os) (th ((bd.drop 21).take 1) ⟨38,0,38,23⟩) = some (.next, St td 94 1918 w os, C, ⟨39,9,39,16⟩) := by kernel_rfl
theorem g4b (w : World) (os : OsState) : twSeg twTree pw (w.withFollow sR true) 34 ann 1 130 (St tn 91 1911 w os) (th ((bd.drop 21).take 1) ⟨38,0,38,23⟩) = some (.next, St td 94 1918 w os, C, ⟨39,9,39,16⟩) := by kernel_rfl
end Mine.Hd
end

section
open PySem PySem.W PyProof.Rows
set_option maxRecDepth 100000
set_option maxHeartbeats 0
namespace Mine
def q : Program := view PySem.Challenge.pw_il0189_01 [0, 1, 2, 4, 5, 6, 7, 8, 9, 10, 11, 12, 13, 14, 19, 21, 22, 26, 28, 29, 30, 31, 32, 33, 34, 35, 37, 38, 39, 40, 42, 43, 45, 47, 48, 49, 50, 51, 53, 54, 55, 56, 57, 58, 59, 60, 61]
def loose : List PySem.Str := [Str.ofString "_QUOPRI_MAP", Str.ofString "_QUOPRI_HEADER_MAP", Str.ofString "_QUOPRI_BODY_MAP", Str.ofString "ascii_letters", Str.ofString "hexdigits", Str.ofString "quote_quoprimime", Str.ofString "_QUOPRI_BODY_ENCODE_MAP", Str.ofString "decode", Str.ofString "_twin_re_1", Str.ofString "UnsupportedOperation", Str.ofString "IOBase", Str.ofString "BufferedIOBase", Str.ofString "TextIOBase", Str.ofString "BytesIO", Str.ofString "StringIO", Str.ofString "join_path", Str.ofString "shlex", Str.ofString "split", Str.ofString "join_shlex", Str.ofString "_find_unsafe", Str.ofString "quote_shlex"]
namespace Hd
noncomputable abbrev twImp := @PySem.W.Fast.tw10274390034422433532
noncomputable abbrev twStart := @PySem.W.Fast.tw1435165496053646825
noncomputable abbrev twFence := @PySem.W.Fast.tw14289696077712309145
noncomputable abbrev twDen := @PySem.W.Fast.tw11892475500146522536
noncomputable abbrev twGo := @PySem.W.Fast.tw15667345088766844465
theorem opn0 (w : World) : ((twImp twTree (opening pw) w 45316 (twStart (opening pw)).1 (twStart (opening pw)).2).bind (twFence pw)).map (fun s => (s.heap, s.gens, s.drawn, s.toks)) = some (hz w.params, gz, dz, 318) := by
  kernel_rfl
theorem opn (w : World) : (fencedOpening treeTable pw w 45316).map (fun s => (s.heap, s.gens, s.drawn, s.toks)) = some (hz w.params, gz, dz, 318) := by
  unfold fencedOpening
  rw [PySem.W.Fast.te10274390034422433532, PySem.W.Fast.te1435165496053646825, PySem.W.Fast.te14289696077712309145, PySem.W.Fast.te14364793385576792824]
  exact opn0 w
theorem size (w : World) : ((hz w.params).isNs mainGlobals && gz.size == 0, (hz w.params).objs.size, (hz w.params).nsMap mainGlobals "__annotations__") = (true, 34, ann) := by
  kernel_rfl
theorem pre0 (w : World) (os : OsState) : twGo twTree pw w 34 ann 12 ⟨hz w.params, gz, dz, 318, os⟩ (topStub pw) = some ((St ta 38 324 w os).abs, ⟨twDen twTree C, C, ⟨0,0,0,0⟩, B⟩) := by
  kernel_rfl
theorem pre (w : World) (os : OsState) : topGo treeTable pw w 34 ann 12 ⟨hz w.params, gz, dz, 318, os⟩ (topStub pw) = some ((St ta 38 324 w os).abs, ⟨denote treeTable C, C, ⟨0,0,0,0⟩, B⟩) := by
  rw [PySem.W.Fast.te15667345088766844465, PySem.W.Fast.te14364793385576792824, PySem.W.Fast.te11892475500146522536]
  exact pre0 w os
theorem blk (w : World) (os : OsState) : segRun treeTable pw w 34 ann 1 1 (St ta 38 324 w os).abs (blockOf bd env C ⟨0,0,0,0⟩ B) = some (.next, (St ta 38 324 w os).abs, C, ⟨0,0,0,0⟩) := by
  kernel_rfl
noncomputable abbrev twSeen := @PySem.W.Fast.tw4187177175401517315
abbrev Xt : Shared → Bool := fun s => xlAt Mine.q [(Str.ofString "ascii_letters", WData.str (Str.ofString "abcdefghijklmnopqrstuvwxyzABCDEFGHIJKLMNOPQRSTUVWXYZ")), (Str.ofString "hexdigits", WData.str (Str.ofString "0123456789abcdefABCDEF"))] s && recOk (RowW.records (OpenRow.toRowW (OpenLaw.row PySem.Challenge.rw_il0189_01))) s
noncomputable def looks (w : World) (s : Shared) :=
  ((staticsOk (importedModules pw.main.body) (hz w.params) s.heap && namesBound pw s.heap && gensDone s && laidKept (hz w.params) s.heap), twSeen Mine.q loose (importedModules pw.main.body) Xt true s)
theorem g5 (w : World) (os : OsState) : (twSeg twTree pw w 34 ann 1 9700 (St td 94 1918 w os) (th (bd.drop 22) ⟨39,9,39,16⟩)).map (fun x => (x.1, x.2.2.1, x.2.2.2, looks w x.2.1.abs)) = some (.next, C, ⟨869,0,872,101⟩, true, openGood Mine.q loose) := by
  kernel_rfl
noncomputable def pick (S : SharedT) (x : Option (Flow × SharedT × Code × Pos)) : SharedT := match x with | some (_, s, _, _) => s | none => S
theorem pick_at {w : World} {S : SharedT} {x : Option (Flow × SharedT × Code × Pos)} {p : Pos} (h : x.map (fun x => (x.1, x.2.2.1, x.2.2.2, looks w x.2.1.abs)) = some (.next, C, p, true, openGood Mine.q loose)) :
    x = some (.next, pick S x, C, p) ∧ looks w (pick S x).abs = (true, openGood Mine.q loose) := by
  cases x with
  | none => cases h
  | some x =>
    obtain ⟨f, s, c, p⟩ := x
    simp only [Option.map_some, Option.some.injEq, Prod.mk.injEq] at h
    obtain ⟨rfl, rfl, rfl, h⟩ := h
    exact ⟨rfl, h⟩
noncomputable def E (w : World) (os : OsState) : SharedT := pick (St td 94 1918 w os) (twSeg twTree pw w 34 ann 1 9700 (St td 94 1918 w os) (th (bd.drop 22) ⟨39,9,39,16⟩))
theorem looks_of {w : World} {S : SharedT} (L : looks w S.abs = (true, openGood Mine.q loose)) :
    (staticsOk (importedModules pw.main.body) (hz w.params) S.abs.heap && namesBound pw S.abs.heap && gensDone S.abs && laidKept (hz w.params) S.abs.heap) = true ∧ openSeen Mine.q loose (importedModules pw.main.body) Xt true S.abs = openGood Mine.q loose := by
  unfold looks at L
  rw [PySem.W.Fast.te4187177175401517315]
  exact Prod.mk.inj L
theorem E_run (w : World) (os : OsState) : segRun treeTable pw w 34 ann 1 9700 (St td 94 1918 w os).abs (piecesOf (bd.drop 22) env C ⟨39,9,39,16⟩ B) = some (.next, (E w os).abs, C, ⟨869,0,872,101⟩) :=
  seg_tw (pick_at (g5 w os)).1
theorem E_looks (w : World) (os : OsState) :
    (staticsOk (importedModules pw.main.body) (hz w.params) (E w os).abs.heap && namesBound pw (E w os).abs.heap && gensDone (E w os).abs && laidKept (hz w.params) (E w os).abs.heap) = true ∧ openSeen Mine.q loose (importedModules pw.main.body) Xt true (E w os).abs = openGood Mine.q loose :=
  looks_of (pick_at (g5 w os)).2
end Hd
end Mine
end

section
open PySem PySem.W PyProof.Rows
set_option maxRecDepth 100000
set_option maxHeartbeats 0
namespace Mine
namespace Hd
theorem fin_of (w : World) (s : Shared) (p : Pos) : topRun treeTable pw w 34 ann 2 s ⟨doneF .next, C, p, B⟩ = some s := by
  rfl
theorem run_of {w : World} {s0 sa s1 s2 s3 s4 s5 : Shared} {p1 p2 p3 p4 p5 : Pos} {l1 l2 l3 l4 l5 : List Stmt} {n1 n2 n3 n4 n5 : Nat}
    (pre : topGo treeTable pw w 34 ann 12 s0 (topStub pw) = some (sa, ⟨denote treeTable C, C, ⟨0,0,0,0⟩, B⟩))
    (blk : segRun treeTable pw w 34 ann 1 1 sa (blockOf bd env C ⟨0,0,0,0⟩ B) = some (.next, sa, C, ⟨0,0,0,0⟩))
    (h1 : segRun treeTable pw w 34 ann 1 n1 sa (piecesOf l1 env C ⟨0,0,0,0⟩ B) = some (.next, s1, C, p1))
    (h2 : segRun treeTable pw w 34 ann 1 n2 s1 (piecesOf l2 env C p1 B) = some (.next, s2, C, p2))
    (h3 : segRun treeTable pw w 34 ann 1 n3 s2 (piecesOf l3 env C p2 B) = some (.next, s3, C, p3))
    (h4 : segRun treeTable pw w 34 ann 1 n4 s3 (piecesOf l4 env C p3 B) = some (.next, s4, C, p4))
    (h5 : segRun treeTable pw w 34 ann 1 n5 s4 (piecesOf l5 env C p4 B) = some (.next, s5, C, p5))
    (e : l1 ++ (l2 ++ (l3 ++ (l4 ++ (l5 ++ [])))) = bd) : topRun treeTable pw w 34 ann (12 + (1 + (n1 + (n2 + (n3 + (n4 + (n5 + 2))))))) s0 (topStub pw) = some s5 := by
  have k5 := piece_app (q := ⟨0,0,0,0⟩) h5 (piece_nil (fin_of w _ _))
  have k4 := piece_app (q := ⟨0,0,0,0⟩) h4 k5
  have k3 := piece_app (q := ⟨0,0,0,0⟩) h3 k4
  have k2 := piece_app (q := ⟨0,0,0,0⟩) h2 k3
  have k1 := piece_app (q := ⟨0,0,0,0⟩) h1 k2
  rw [e] at k1
  have k0 := piece_block (q := ⟨0,0,0,0⟩) blk k1
  exact go_top pre k0
theorem bd_cut : bd.take 6 ++ ((bd.drop 6).take 10 ++ ((bd.drop 16).take 5 ++ ((bd.drop 21).take 1 ++ (bd.drop 22 ++ [])))) = bd := by kernel_rfl
theorem h4 (w : World) (os : OsState) : segRun treeTable pw w 34 ann 1 130 (St tn 91 1911 w os).abs (piecesOf ((bd.drop 21).take 1) env C ⟨38,0,38,23⟩ B) = some (.next, (St td 94 1918 w os).abs, C, ⟨39,9,39,16⟩) :=
  seg_tw (by2 (w := w) (P := fun v => twSeg twTree pw v 34 ann 1 130 (St tn 91 1911 w os) (th ((bd.drop 21).take 1) ⟨38,0,38,23⟩) = some (.next, St td 94 1918 w os, C, ⟨39,9,39,16⟩)) sR (g4a w os) (g4b w os))
theorem run (w : World) (os : OsState) : ∃ M, M ≤ 45316 ∧ topRun treeTable pw w 34 ann M ⟨hz w.params, gz, dz, 318, os⟩ (topStub pw) = some (E w os).abs := by
  obtain ⟨n, hn, h1⟩ := g1 w os
  exact ⟨_, by omega, run_of (pre w os) (blk w os) h1 (one_row (os := os) (g2a w os) (g2b w os) (g2c w os)) (one_row (os := os) (g3a w os) (g3b w os) (g3c w os)) (h4 w os) (E_run w os) bd_cut⟩
theorem left_of {α : Type} {q : Program} {loose : List Str} {Xt : Shared → Bool} {Yf : Shared → α} {Ya : World → α} {H : World → Heap} {gs₀ : Array GenState} {d₀ : Drawn} {k₀ : Nat} {S : World → OsState → Shared}
    (opn : ∀ w : World, (fencedOpening treeTable pw w 45316).map (fun s => (s.heap, s.gens, s.drawn, s.toks)) = some (H w, gs₀, d₀, k₀))
    (size : ∀ w : World, ((H w).isNs mainGlobals && gs₀.size == 0, (H w).objs.size, (H w).nsMap mainGlobals "__annotations__") = (true, 34, ann))
    (run : ∀ (w : World) (os : OsState), ∃ M, M ≤ 45316 ∧ topRun treeTable pw w 34 ann M ⟨H w, gs₀, d₀, k₀, os⟩ (topStub pw) = some (S w os))
    (l1 : ∀ w os, (staticsOk (importedModules pw.main.body) (H w) (S w os).heap && namesBound pw (S w os).heap && gensDone (S w os) && laidKept (H w) (S w os).heap) = true)
    (l3 : ∀ w os, openSeen q loose (importedModules pw.main.body) Xt true (S w os) = openGood q loose)
    (hy : ∀ w os, Yf (S w os) = Ya w) : LeftO pw q loose Xt Yf Ya 45316 := fun w => by
  obtain ⟨⟨h, gs, d, k, os⟩, e, e'⟩ := Option.map_eq_some_iff.mp (opn w)
  obtain ⟨rfl, rfl, rfl, rfl⟩ : h = H w ∧ gs = gs₀ ∧ d = d₀ ∧ k = k₀ := by simpa using e'
  obtain ⟨z1, z2, z3⟩ : _ ∧ _ ∧ _ := by simpa only [Prod.mk.injEq] using size w
  obtain ⟨M, hM, r⟩ := run w os
  have r := topRun_mono (45316 - M) _ _ _ _ r
  rw [show M + (45316 - M) = 45316 by omega] at r
  have t : topFrom treeTable pw w 45316 ⟨H w, gs, d, k, os⟩ = some (S w os) := by
    unfold topFrom
    dsimp only
    rw [z1, z2, z3, r]
    show (match staticsOk (importedModules pw.main.body) (H w) (S w os).heap && namesBound pw (S w os).heap && gensDone (S w os) && laidKept (H w) (S w os).heap with | true => _ | false => _) = _
    rw [l1]
  unfold openEnds
  rw [e]
  show (topFrom treeTable pw w 45316 _).map _ = _
  rw [t]
  exact congrArg some (Prod.ext (l3 w os) (hy w os))
theorem left {α : Type} {Yf : Shared → α} {Ya : World → α} (hy : ∀ w os, Yf (E w os).abs = Ya w) : LeftO pw Mine.q loose Xt Yf Ya 45316 :=
  left_of (H := fun w => hz w.params) (S := fun w os => (E w os).abs) opn size run (fun w os => (E_looks w os).1) (fun w os => (E_looks w os).2) hy
end Hd
end Mine
end

section
open PySem PySem.W PyProof.Rows
set_option maxRecDepth 100000
set_option maxHeartbeats 0
namespace Mine
theorem said0 : PySem.W.Fast.tw9446332074065402090 PySem.Challenge.rw_il0189_01 = true := by kernel_rfl
theorem said : OpenLaw.wellSaid PySem.Challenge.rw_il0189_01 = true := by
  rw [PySem.W.Fast.te9446332074065402090]; exact said0
end Mine
end

section
open PySem PySem.W PyProof.Rows


set_option maxRecDepth 100000
set_option maxHeartbeats 0

namespace Mine
/-- the hook, and one table that is empty -/
def tabHook (H : Hook) : Hook where
  α := H.α × Option Obj
  obs := fun s => (H.obs s, s.heap.get? 803)
  val := fun w => (H.val w, some (tabObj #[]))
  says := fun w h => H.says w h ∧ h.get? 803 = some (tabObj #[])
  of := fun w s x => ⟨H.of w s (Prod.mk.inj x).1, (Prod.mk.inj x).2⟩
  keeps := fun w h h' x k => ⟨H.keeps w h h' x.1 k, k _ _ x.2⟩
end Mine
local macro_rules | `(tactic| o_law) => `(tactic| refine holds_law Mine.said fun said => ?_)
local macro_rules | `(tactic| k_qdec) => `(tactic| decide +kernel)
local macro_rules | `(tactic| o_head $H) => `(tactic| (
    refine holds_open (q := Mine.q) (loose := [Str.ofString "_QUOPRI_MAP", Str.ofString "_QUOPRI_HEADER_MAP", Str.ofString "_QUOPRI_BODY_MAP", Str.ofString "ascii_letters", Str.ofString "hexdigits", Str.ofString "quote_quoprimime", Str.ofString "_QUOPRI_BODY_ENCODE_MAP", Str.ofString "decode", Str.ofString "_twin_re_1", Str.ofString "UnsupportedOperation", Str.ofString "IOBase", Str.ofString "BufferedIOBase", Str.ofString "TextIOBase", Str.ofString "BytesIO", Str.ofString "StringIO", Str.ofString "join_path", Str.ofString "shlex", Str.ofString "split", Str.ofString "join_shlex", Str.ofString "_find_unsafe", Str.ofString "quote_shlex"]) (Xt := fun s => xlAt Mine.q [(Str.ofString "ascii_letters", WData.str (Str.ofString "abcdefghijklmnopqrstuvwxyzABCDEFGHIJKLMNOPQRSTUVWXYZ")), (Str.ofString "hexdigits", WData.str (Str.ofString "0123456789abcdefABCDEF"))] s && recOk (RowW.records (OpenRow.toRowW (OpenLaw.row PySem.Challenge.rw_il0189_01))) s) (XP := XL Mine.q [(Str.ofString "ascii_letters", WData.str (Str.ofString "abcdefghijklmnopqrstuvwxyzABCDEFGHIJKLMNOPQRSTUVWXYZ")), (Str.ofString "hexdigits", WData.str (Str.ofString "0123456789abcdefABCDEF"))]) (Yf := Hook.obs (Mine.tabHook $H)) (Ya := Hook.val (Mine.tabHook $H)) (YP := Hook.says (Mine.tabHook $H)) (N := 45316) ?hl (Hook.of (Mine.tabHook $H)) (Hook.keeps (Mine.tabHook $H)) (fun s e => xl_of s (Bool.and_eq_true_iff.mp e).1) XL.keeps (by rfl) (by rfl) (by rfl) (fun s e => recFacts_of (Bool.and_eq_true_iff.mp e).2) (by rfl) (by first | assumption | decide +kernel) (by decide +kernel) ⟨rfl, rfl, rfl, rfl, rfl, by decide +kernel⟩ ?hw ?hc
    (case hl => exact Mine.Hd.left (fun w os => by kernel_rfl))))


namespace Mine
open_top hk for PySem.Challenge.rw_il0189_01
theorem top_off : True := by
  w_top off
  trivial
end Mine
end

section
open PySem PySem.W PySem.Spec PySem.Calls PyProof.Rows
set_option maxRecDepth 100000
set_option maxHeartbeats 0
namespace Mine
local macro_rules | `(tactic| walk_at "idle") => `(tactic| skip)
abbrev LS : List PySem.Str := [Str.ofString "_QUOPRI_MAP", Str.ofString "_QUOPRI_HEADER_MAP", Str.ofString "_QUOPRI_BODY_MAP", Str.ofString "ascii_letters", Str.ofString "hexdigits", Str.ofString "quote_quoprimime", Str.ofString "_QUOPRI_BODY_ENCODE_MAP", Str.ofString "decode", Str.ofString "_twin_re_1", Str.ofString "UnsupportedOperation", Str.ofString "IOBase", Str.ofString "BufferedIOBase", Str.ofString "TextIOBase", Str.ofString "BytesIO", Str.ofString "StringIO", Str.ofString "join_path", Str.ofString "shlex", Str.ofString "split", Str.ofString "join_shlex", Str.ofString "_find_unsafe", Str.ofString "quote_shlex"]

def drawnS (n : Int) : PySem.Str := if n.fmod 3 = 0 then ⟨#[((n.fdiv 3).fmod 256).toNat]⟩ else Txt.item (Str.ofString "a' =") ((n.fdiv 3).fmod 4)

theorem c_drawn {pp : PySem.Program} {ll : List PySem.Str} (w : World) (mean : ExcName → Option Value) (mg mb : PySem.Str → Option Value) (news : CbLed) (n : Int) (tn : Tok) :
    CbClaim PySem.Challenge.rw_il0189_01.row.prog w (hk.heap_1 w.params) pp ll mean mg mb 823 news [] True [Value.int n tn] (fun t => Value.str (drawnS n) t) := by
  k_fill
  dsimp only [CbClaim, CbLists, CbRet]; intros; rename_i hret
  refine wpAny_call ?_
  k_dflt cell_enter
  k_steps
  all_goals unfold drawnS at hret
  all_goals cb_end hret
end Mine
end

section
open PySem PySem.W PySem.Spec PySem.Calls PyProof.Rows
set_option maxRecDepth 100000
set_option maxHeartbeats 0
namespace Mine
abbrev CL {pp : PySem.Program} {ll : List PySem.Str} (w : World) (mean : ExcName → Option Value) (mg mb : PySem.Str → Option Value) (f : Addr) (news : CbLed) (pre : Prop) (vs : List Value) (R : Tok → Value) : Prop :=
  CbClaim PySem.Challenge.rw_il0189_01.row.prog w (hk.heap_1 w.params) pp ll mean mg mb f news [] pre vs R

def cmpI (x y : PySem.Str) : Int := b2i (decide (y.cps.toList < x.cps.toList)) - b2i (decide (x.cps.toList < y.cps.toList))

theorem c_cmp {pp : PySem.Program} {ll : List PySem.Str} (w : World) (mean : ExcName → Option Value) (mg mb : PySem.Str → Option Value) (news : CbLed) (x y : PySem.Str) (tx ty : Tok) :
    CbClaim PySem.Challenge.rw_il0189_01.row.prog w (hk.heap_1 w.params) pp ll mean mg mb 58 news [] True [Value.str x tx, Value.str y ty] (fun t => Value.int (cmpI x y) t) := by
  k_fill
  dsimp only [CbClaim, CbLists, CbRet]; intros; rename_i hret
  refine wpAny_call ?_
  k_dflt cell_enter
  k_steps
  all_goals unfold cmpI at hret
  all_goals cb_end hret

def hexC (n : Nat) : Nat := if n < 10 then 48 + n else 55 + n
/-- the three codes that quote writes of a code -/
def quoL (n : Nat) : List Nat := [61, hexC (n / 16), hexC (n % 16)]

theorem tab_at {l : List PySem.Str} {n : Nat} (h : ∀ i, i < 256 → l.getD i PySem.Str.empty = ⟨(quoL i).toArray⟩) (hn : n < 256) : l.getD (Int.toNat (n : Int)) PySem.Str.empty = ⟨(quoL n).toArray⟩ := h n hn

theorem c_quo {pp : PySem.Program} {ll : List PySem.Str} (w : World) (mean : ExcName → Option Value) (mg mb : PySem.Str → Option Value) (news : CbLed) (n : Nat) (tx : Tok) :
    CbClaim PySem.Challenge.rw_il0189_01.row.prog w (hk.heap_1 w.params) pp ll mean mg mb 88 news [] (n < 256) [Value.str ⟨#[n]⟩ tx] (fun t => Value.str ⟨(quoL n).toArray⟩ t) := by
  k_fill
  dsimp only [CbClaim, CbLists, CbRet]; intros; rename_i hn _ _ hret
  refine wpAny_call ?_
  k_dflt cell_enter
  k_steps
  all_goals (
    rename_i ss t' h' tk FG F N
    refine cb_retS hret ?_ ?_ ?_
    case refine_2 => assumption
    case refine_3 => assumption
    case refine_1 =>
      exact tab_at (by decide +kernel) hn)
end Mine
end

section
open PySem PySem.W PySem.Spec PySem.Calls PyProof.Rows PyProof.V
set_option maxRecDepth 100000
set_option maxHeartbeats 0
namespace Mine
section
variable {prog : PySem.Program} {w : World} {A : Around} {E : Value → Shared → Prop} {s : Shared} {env : Env} {h₀ : Heap} {x : PySem.Str} {body : List Stmt} {Q : Flow → Shared → Prop}

/-- a turn's end -/
def TurnEnd (h₀ : Heap) (L : Addr) (J : (PySem.Str → Option Value) → List (Addr × Obj) → Prop) (I : Addr) (io : Obj) (s₁ s₂ : Shared) : Prop :=
  ∃ h' tk m' news' n', s₂ = { s₁ with heap := h', toks := tk } ∧ Fr h₀ L h' m' ∧ News h₀ L h' news' ∧ (∀ p ∈ n', p ∈ news') ∧ (I, io) ∈ news' ∧ (∀ p ∈ n', p.1 ≠ I) ∧ J m' n'
def TurnPost (h₀ : Heap) (L : Addr) (J : (PySem.Str → Option Value) → List (Addr × Obj) → Prop) (I : Addr) (io : Obj) (s₁ : Shared) (Q : Flow → Shared → Prop) (f : Flow) (s₂ : Shared) : Prop :=
  match f with
  | .ret v => Q (.ret v) s₂
  | .brk => Q .next s₂
  | _ => TurnEnd h₀ L J I io s₁ s₂

theorem TurnEnd.intro {L : Addr} {J : (PySem.Str → Option Value) → List (Addr × Obj) → Prop} {I : Addr} {io : Obj} {s₁ : Shared} {h' : Heap} {tk : Nat} {m' : PySem.Str → Option Value} {news' n' : List (Addr × Obj)}
    (F : Fr h₀ L h' m') (N : News h₀ L h' news') (hn : ∀ p ∈ n', p ∈ news') (hi : (I, io) ∈ news') (ho : ∀ p ∈ n', p.1 ≠ I) (hj : J m' n') : TurnEnd h₀ L J I io s₁ { s₁ with heap := h', toks := tk } :=
  ⟨h', tk, m', news', n', rfl, F, N, hn, hi, ho, hj⟩

theorem iter_vals {l : Addr} {vs : List Value} {k : Nat} {m₀ : PySem.Str → Option Value} {news : List (Addr × Obj)} (J : Nat → (PySem.Str → Option Value) → List (Addr × Obj) → Prop)
    (hh : A.handled = none) (F : Fr h₀ env.locals s.heap m₀) (N : News h₀ env.locals s.heap news) (hm : (l, W.listOf vs.toArray k) ∈ news)
    (hJm : ∀ i m n, J i m n → (l, W.listOf vs.toArray k) ∈ n) (hj : J 0 m₀ news)
    (turn : ∀ i v m₁ n₁ h tk I io, vs[i]? = some v → J i m₁ n₁ → (∀ p ∈ n₁, p.1 ≠ I) → Fr h₀ env.locals h (fun y => if y = x then some v else m₁ y) → News h₀ env.locals h ((I, io) :: n₁) →
      wpAny (model prog w) A (execs body env) (TurnPost h₀ env.locals (J (i + 1)) I io { s with heap := h, toks := tk } Q) E { s with heap := h, toks := tk })
    (done : ∀ m₁ n₁ h tk, J vs.length m₁ n₁ → Fr h₀ env.locals h m₁ → News h₀ env.locals h n₁ → Q .next { s with heap := h, toks := tk }) :
    wpAny (model prog w) A (pyIter (.ref l)) (fun it s₂ => LoopAtV prog w A h₀ env x body Q E it s₂) E s := by
  have hl := N _ hm
  have hls : s.heap.IsList l vs.toArray := ⟨_, hl.1, rfl, _, rfl⟩
  have hlt : l < s.heap.objs.size := Heap.lt_size hl.1
  have hne : l ≠ s.heap.objs.size := Nat.ne_of_lt hlt
  refine wpAny_pyIter_list hls ?_
  have Wk := Walks.list (prog := prog) (w := w) hh s.heap.objs.size l hne vs.toArray
  have hlen : vs.toArray.size = vs.length := by simp
  rw [hlen] at Wk
  refine ⟨_, _, _, vs.length, _, _, m₀, news, J, rfl, Wk, ?_, ?_, ?_, ⟨⟨_, Heap.get?_push_size _ rfl, rfl, rfl⟩, hls.at fun o e => Heap.get?_push_of_some _ e⟩, F.push _, (fun p hp => ⟨Heap.get?_push_of_some _ (N p hp).1, (N p hp).2⟩), hj, ?_, ?_⟩
  · intro hx
    rcases List.mem_cons.mp hx with e | hx
    · exact absurd F.ns.lt (e ▸ Nat.lt_irrefl _)
    · exact hl.2.1 (List.mem_singleton.mp hx).symm
  · intro b hb
    rw [List.mem_singleton.mp hb]
    exact next_is_new F
  · intro p hp hI
    exact absurd (Heap.lt_size (N p hp).1) ((List.mem_singleton.mp hI) ▸ Nat.lt_irrefl _)
  · rintro i v m₁ n₁ s₁ own ⟨hh', tk', rfl⟩ hin hP hJ hoff hown hgot hall st F₁ N₁
    have hvs : vs[i]? = some v := by simpa using hP
    obtain ⟨io, hio, _⟩ := st.1
    have hI : (s.heap.objs.size, io) ∈ own := hall _ (by simp) (next_is_new F) _ hio
    have hlm := hJm _ _ _ hJ
    have N₂ : News h₀ env.locals hh' ((s.heap.objs.size, io) :: n₁) := fun p hp => N₁ p (by
      rcases List.mem_cons.mp hp with rfl | hp
      · exact List.mem_append.mpr (.inl hI)
      · exact List.mem_append.mpr (.inr hp))
    have hoff' : ∀ p ∈ n₁, p.1 ≠ s.heap.objs.size := fun p hp e => hoff p hp (by rw [e]; simp)
    refine wpAny_mono (turn i v m₁ n₁ hh' tk' _ io hvs hJ hoff' F₁ N₂) (fun f s₂ p => ?_) fun _ _ e => e
    have fin : TurnEnd h₀ env.locals (J (i + 1)) s.heap.objs.size io { s with heap := hh', toks := tk' } s₂ → LoopStepU h₀ env.locals [s.heap.objs.size] own (J (i + 1)) { s with heap := hh', toks := tk' } .next s₂ := by
      rintro ⟨h', tk, m', news', n', e, F', N', hn, hi, ho, hj'⟩
      refine ⟨rfl, h', tk, m', n', e, F', fun p hp => ?_, fun p hp hb => ho p hp (List.mem_singleton.mp hb), hj'⟩
      rcases List.mem_append.mp hp with hp | hp
      · have hg := hgot p hp
        rcases List.mem_cons.mp (hown p hp) with e1 | e1
        · have : p = (s.heap.objs.size, io) := by
            obtain ⟨a, o⟩ := p
            dsimp only at e1 hg
            subst e1
            rw [hio] at hg
            exact congrArg (Prod.mk _) (Option.some.inj hg).symm
          exact N' p (this ▸ hi)
        · have e2 := List.mem_singleton.mp e1
          have : p = (l, W.listOf vs.toArray k) := by
            obtain ⟨a, o⟩ := p
            dsimp only at e2 hg
            subst e2
            rw [(N₂ _ (List.mem_cons_of_mem _ hlm)).1] at hg
            exact congrArg (Prod.mk _) (Option.some.inj hg).symm
          exact N' p (hn _ (this ▸ hJm _ _ _ hj'))
      · exact N' p (hn p hp)
    cases f with
    | ret v => exact .ret p
    | brk => exact .brk p
    | next => exact .next (fin p)
    | cont => exact .cont (fin p)
  · intro h' tk m' news' F' N' _ hJ
    exact done m' news' h' tk hJ F' N'
end
end Mine
end

section
open PySem PySem.W PySem.Spec PySem.Calls PyProof.Rows PyProof.V
set_option maxRecDepth 100000
set_option maxHeartbeats 0
namespace Mine
/-- a def that hands back a new list of texts -/
abbrev ClL (w : World) (mean : ExcName → Option Value) (mg mb : PySem.Str → Option Value) (f : Addr) (dep un₀ : Nat) (news : CbLed) (vs : List Value) (P : List PySem.Str → Prop) : Prop :=
  ∀ {pp : PySem.Program} {ll : List PySem.Str} (dp un : Nat) (gd : Option (List Code)) (cn : PySem.Str) (cs : Scope) (a : Addr) (ccd : Value) (cl : List (PySem.Str × Addr)) (outer : List Env) (A₀ : Around) (base h₀ : Heap) (L : Addr) (m : PySem.Str → Option Value) (s : Shared) (Q E : Value → Shared → Prop),
    Below A₀ base outer h₀ → Fr h₀ L s.heap m → (hk.heap_1 w.params).In h₀ → News h₀ L s.heap news → Top pp ll mean mg mb h₀ → cs.kind = .function →
    dp + dep < recursionLimit → un + un₀ < cLine →
    (∀ (D : Addr) (kk : Nat) (us : List Value) (ss : List PySem.Str) (h' : Heap) (tk' : Nat), StrsAre us ss → P ss → (∀ p ∈ news, p.1 < D) → Fr h₀ L h' m → News h₀ L h' ((D, W.listOf us.toArray kk) :: news) → Q (.ref D) { s with heap := h', toks := tk' }) →
      wpAny (model PySem.Challenge.rw_il0189_01.row.prog w) (ktrTop dp un gd cn cs L a ccd cl outer) (call (.ref f) vs) Q E s

structure Stop (P : Prop) : Prop where
  out : P
theorem Stop.into {P : Prop} (h : P) : Stop P := ⟨h⟩
/-- the goal by a letter: a case split copies the letter, not the goal -/
theorem hide {G : Prop} (h : ∀ P : Prop, (G → P) → P) : G := h G id
section
variable {M : Model} {A : Around} {Q E : Value → Shared → Prop} {s : Shared}
theorem stopC (f : Addr) {vs : List Value} (h : Stop (wpAny M A (call (.ref f) vs) Q E s)) : wpAny M A (call (.ref f) vs) Q E s := h.out
theorem stopL {b : String} {r : Addr} (h : Stop (wpAny M A (call (.builtin b) [.ref r]) Q E s)) : wpAny M A (call (.builtin b) [.ref r]) Q E s := h.out
end
local macro_rules | `(tactic| walk_at "exec While BoolOp cons nil") => `(tactic| (refine Stop.out ?_))

local macro_rules | `(tactic| walk_at "call ref") => `(tactic| (k_here; with_reducible refine stopC 58 ?_))
local macro_rules | `(tactic| walk_at "call builtin:list.insert") => `(tactic| (k_here; refine Stop.out ?_))

def sle (a b : PySem.Str) : Prop := a.cps.toList ≤ b.cps.toList

theorem strs_get : ∀ {vs : List Value} {ss : List PySem.Str} {i : Nat} {v : Value}, StrsAre vs ss → vs[i]? = some v → ∃ x t, v = .str x t ∧ ss[i]? = some x
  | _, _, 0, v, .cons x t h, e => ⟨x, t, by simpa using e.symm, by simp⟩
  | _, _, i + 1, v, .cons x t h, e => by
    obtain ⟨y, u, a, b⟩ := strs_get h (by simpa using e)
    exact ⟨y, u, a, by simpa using b⟩

theorem cmpI_one {a b : PySem.Str} : cmpI a b = 1 ↔ ¬ sle a b := by
  unfold cmpI sle
  have e : ¬ (a.cps.toList ≤ b.cps.toList) ↔ b.cps.toList < a.cps.toList := Classical.not_not
  rw [e]
  by_cases h1 : b.cps.toList < a.cps.toList
  · have h2 : ¬ a.cps.toList < b.cps.toList := List.lt_asymm h1
    simp [h1, h2, b2i]
  · by_cases h2 : a.cps.toList < b.cps.toList <;> simp [h1, h2, b2i]

theorem sle_trans {a b c : PySem.Str} (h1 : sle a b) (h2 : sle b c) : sle a c := List.le_trans h1 h2
theorem sle_total (a b : PySem.Str) : sle a b ∨ sle b a := List.le_total ..

theorem strs_app : ∀ {vs us : List Value} {ss ts : List PySem.Str}, StrsAre vs ss → StrsAre us ts → StrsAre (vs ++ us) (ss ++ ts)
  | _, _, _, _, .nil, h => h
  | _, _, _, _, .cons x t h, h' => .cons x t (strs_app h h')
theorem strs_take : ∀ {vs : List Value} {ss : List PySem.Str} (n : Nat), StrsAre vs ss → StrsAre (vs.take n) (ss.take n)
  | _, _, 0, _ => by simpa using StrsAre.nil
  | _, _, n + 1, .nil => by simpa using StrsAre.nil
  | _, _, n + 1, .cons x t h => by simpa using StrsAre.cons x t (strs_take n h)
theorem strs_drop : ∀ {vs : List Value} {ss : List PySem.Str} (n : Nat), StrsAre vs ss → StrsAre (vs.drop n) (ss.drop n)
  | _, _, 0, h => by simpa using h
  | _, _, n + 1, .nil => by simpa using StrsAre.nil
  | _, _, n + 1, .cons x t h => by simpa using strs_drop n h

theorem ins_ok {ws : List Value} {ss' : List PySem.Str} {x : PySem.Str} {tx : Tok} {kx : Int} (hws : StrsAre ws ss') (h0 : 0 ≤ kx) (h1 : kx ≤ (ss'.length : Int)) (hs : ss'.Pairwise sle)
    (h2 : ∀ (j : Nat) (y : PySem.Str), kx ≤ (j : Int) → ss'[j]? = some y → ¬ sle y x) (h3 : ¬ 0 < kx ∨ sle (ss'.getD (kx - 1).toNat PySem.Str.empty) x) :
    ∃ out, StrsAre (kl_ins ws kx (.str x tx)) out ∧ out.Perm (x :: ss') ∧ out.Pairwise sle := by
  have hl : ws.length = ss'.length := hws.length
  have hk : (if kx < 0 then (kx + (ws.length : Int)).toNat else min kx.toNat ws.length) = kx.toNat := by
    rw [if_neg (by omega)]; omega
  refine ⟨ss'.take kx.toNat ++ x :: ss'.drop kx.toNat, ?_, ?_, ?_⟩
  · unfold kl_ins
    rw [hk]
    exact strs_app (strs_take _ hws) (.cons x tx (strs_drop _ hws))
  · refine List.perm_middle.trans ?_
    rw [List.take_append_drop]
  · rw [List.pairwise_append, List.pairwise_cons]
    have before : ∀ a ∈ ss'.take kx.toNat, sle a x := by
      intro a ha
      rcases h3 with h3 | h3
      · have : kx.toNat = 0 := by omega
        rw [this] at ha; simp at ha
      · rcases Int.lt_or_le 0 kx with hp | hp
        · obtain ⟨i, hi, rfl⟩ := List.getElem_of_mem ha
          rw [List.length_take] at hi
          rw [List.getElem_take]
          have hb : (kx - 1).toNat < ss'.length := by omega
          have e : ss'.getD (kx - 1).toNat PySem.Str.empty = ss'[(kx - 1).toNat] := by rw [List.getD_eq_getElem?_getD, List.getElem?_eq_getElem hb]; rfl
          rw [e] at h3
          rcases Nat.lt_or_ge i (kx - 1).toNat with hlt | hge
          · exact sle_trans (List.pairwise_iff_getElem.mp hs i _ (by omega) hb hlt) h3
          · have : i = (kx - 1).toNat := by omega
            subst this; exact h3
        · have : kx.toNat = 0 := by omega
          rw [this] at ha; simp at ha
    have after : ∀ b ∈ ss'.drop kx.toNat, sle x b := by
      intro b hb
      obtain ⟨i, hi, rfl⟩ := List.getElem_of_mem hb
      rw [List.getElem_drop]
      rw [List.length_drop] at hi
      have := h2 (kx.toNat + i) ss'[kx.toNat + i] (by omega) (by simp)
      exact (sle_total _ _).resolve_right this
    refine ⟨hs.sublist (List.take_sublist _ _), ⟨after, hs.sublist (List.drop_sublist _ _)⟩, ?_⟩
    intro a ha b hb
    rcases List.mem_cons.mp hb with rfl | hb
    · exact before a ha
    · exact sle_trans (before a ha) (after b hb)

theorem upd_same {a : PySem.Str} {v v' : Option Value} {r : PySem.Str → Option Value} : (fun y => if y = a then v else if y = a then v' else r y) = fun y => if y = a then v else r y := by
  funext y
  by_cases h : y = a <;> simp [h]
theorem pull {f : PySem.Str → Option Value} {a : PySem.Str} {v : Option Value} (h : f a = v) : f = fun y => if y = a then v else f y := by
  funext y
  by_cases e : y = a
  · subst e; simp [h]
  · simp [e]
theorem ne_of_ltAll {D : Addr} {l : List (Addr × Obj)} (h : ∀ p ∈ l, p.1 < D) : ∀ p ∈ l, p.1 ≠ D := fun p hp => Nat.ne_of_lt (h p hp)
local macro_rules | `(tactic| k_all) => `(tactic| exact ne_of_ltAll (by assumption))
local macro_rules | `(tactic| k_ne) => `(tactic| assumption)

theorem c_sorted (w : World) (mean : ExcName → Option Value) (mg mb : PySem.Str → Option Value) (news : CbLed) (l : Addr) (us : List Value) (ss : List PySem.Str) (k : Nat)
    (hm : (l, W.listOf us.toArray k) ∈ news) (hs : StrsAre us ss) (hl : ss.length < 64) :
    ClL w mean mg mb 830 2 16 news [Value.ref l] (fun out => out.Perm ss ∧ out.Pairwise sle) := by
  dsimp only [ClL]; k_fill; intros; rename_i hret
  refine wpAny_call ?_
  k_dflt cell_enter
  k_steps
  rename_i D hA lD hB F1 N1
  with_unfolding_all refine' For_invVF F1 ?k1 ?k2 ?_
  (case k1 => exact rfl)
  (case k2 => exact rfl)
  k_steps
  refine' iter_vals (k := k) (vs := us) (fun i m₁ n₁ => ∃ (u : PySem.Str → Option Value) (ws : List Value) (ss' : List PySem.Str) (kk : Nat), m₁ = (fun y => if y = Str.ofString "rows" then some (Value.ref D) else u y) ∧ n₁ = (D, W.listOf ws.toArray kk) :: news ∧ StrsAre ws ss' ∧ ss'.Perm (ss.take i) ∧ ss'.Pairwise sle) ?hh ?F ?N ?hm ?hJm ?hj ?turn ?done
  (case hh => rfl)
  (case F => exact F1)
  (case N => exact N1)
  (case hm => exact List.mem_cons_of_mem _ hm)
  (case hJm =>
    rintro i m n ⟨u, ws, ss', kk, -, rfl, -⟩
    exact List.mem_cons_of_mem _ hm)
  (case hj => exact ⟨_, [], [], 0, rfl, rfl, .nil, by simp, List.Pairwise.nil⟩)
  case turn =>
    rintro i v m₁ n₁ h tk I io hv hZ hI F2 N2
    refine hide fun P0 hP0 => ?_
    obtain ⟨u, ws, ss', kk, rfl, rfl, hws, hperm, hsrt⟩ := hZ
    refine hP0 ?_
    clear hP0
    obtain ⟨x, tx, rfl, hx⟩ := strs_get hs hv
    clear F1 N1
    have hID : I ≠ D := fun e => hI _ (List.mem_cons_self ..) e.symm
    have hlw : ws.length = ss'.length := hws.length
    have hl2 : ss'.length < 64 := by have := hperm.length_eq; rw [List.length_take] at this; omega
    k_steps
    refine Stop.into ?_
    rename_i hC F3 N3
    refine' While_inv (fun n m₁ n₁ => ∃ (kx : Int) (t : Tok), m₁ = (fun y => if y = Str.ofString "place" then some (Value.int kx t) else if y = Str.ofString "item" then some (Value.str x tx) else if y = Str.ofString "rows" then some (Value.ref D) else u y) ∧ n₁ = (I, io) :: (D, W.listOf ws.toArray kk) :: news ∧ 0 ≤ kx ∧ kx ≤ (ss'.length : Int) ∧ (∀ (j : Nat) (y : PySem.Str), kx ≤ (j : Int) → ss'[j]? = some y → ¬ sle y x) ∧ n = kx.toNat) F3 N3 ⟨(ss'.length : Int), _, rfl, rfl, by omega, by omega, ?hz, rfl⟩ ?wt
    case hz =>
      intro j y hj hy
      rw [List.getElem?_eq_none (by omega)] at hy
      cases hy
    case wt =>
      rintro n m₁ n₁ h₁ tk₁ F4 N4 hZ
      refine hide fun P0 hP0 => ?_
      obtain ⟨kx, t, rfl, rfl, hk0, hk1, hk2, rfl⟩ := hZ
      refine hP0 ?_
      clear hP0
      clear F3 N3
      k_steps
      refine Stop.into ?_
      k_dflt (refine' c_cmp _ _ _ _ _ _ _ _ _ _ _ _ _ _ _ _ _ _ _ _ _ _ _ _ _ _ ?k1 ?k2 ?k3 ?k4 ?k5 ?kK ?kp ?kd ?ku ?kR; (case k1 => k_asm); (case k2 => k_asm); (case k3 => k_asm); (case k4 => k_asm); (case k5 => k_asm); (case kK => first | exact rfl | assumption); (case kp => trivial); (case kd => ktr_room); (case ku => ktr_units))
      intro t9 h9 tk9 F9 N9
      (try dsimp only)
      (try k_fold)
      k_steps
      · rename_i hc hD4 F5 N5
        refine WhileStep.intro F5 N5 (n' := (kx - 1).toNat) (by omega) ⟨kx - 1, _, upd_same, rfl, by omega, by omega, ?_, rfl⟩
        · intro j y hj hy
          rcases Int.lt_or_le (kx - 1) j with h5 | h5
          · exact hk2 j y (by omega) hy
          · have h6 : j = (kx - 1).toNat := by omega
            have h7 : ss'.getD (kx - 1).toNat PySem.Str.empty = y := by rw [← h6, List.getD_eq_getElem?_getD, hy]; rfl
            rw [← h7]
            exact cmpI_one.mp (by assumption)
      all_goals (
        refine Stop.into ?_
        k_dflt (refine' kl_insert ?F ?N ?f ?e ?U ?z ?_)
        (case F => k_asm)
        (case N => k_asm)
        (case f => (simp only [Builtin.List.listFitsIndex, Bool.and_eq_true, decide_eq_true_eq]; omega))
        (case e => exact rfl)
        (case U => k_upd)
        (case z => (rw [sizeLine_eq]; simp; omega))
        intro h5 F5 N5
        k_steps
        have h3 : ¬ 0 < kx ∨ sle (ss'.getD (kx - 1).toNat PySem.Str.empty) x := by
          first
          | exact .inl (by assumption)
          | exact .inr (Classical.byContradiction fun q => absurd (cmpI_one.mpr q) (by assumption))
        obtain ⟨out, ho1, ho2, ho3⟩ := ins_ok (ws := ws) (ss' := ss') (x := x) (kx := kx) (tx := tx) (by assumption) (by assumption) (by assumption) (by assumption) (by assumption) h3
        refine TurnEnd.intro F5 N5 (n' := (D, W.listOf (kl_ins ws (kx) (Value.str x tx)).toArray (kk + 1)) :: news) (fun p hp => List.mem_cons_of_mem _ hp) (List.mem_cons_self ..) ?_ ⟨_, _, out, _, pull (by with_unfolding_all rfl), rfl, ho1, ?_, ho3⟩
        · intro p hp
          rcases List.mem_cons.mp hp with rfl | hp
          · exact fun e => hID e.symm
          · exact hI p (List.mem_cons_of_mem _ hp)
        · rw [List.take_add_one, hx]
          exact (ho2.trans (hperm.cons x)).trans (List.perm_append_singleton ..).symm)
  case done =>
    rintro m₁ n₁ h tk hZ F2 N2
    refine hide fun P0 hP0 => ?_
    obtain ⟨u, ws, ss', kk, rfl, rfl, hws, hperm, hsrt⟩ := hZ
    refine hP0 ?_
    clear hP0
    clear F1 N1
    k_steps
    rw [hs.length, List.take_length] at hperm
    exact hret D kk ws ss' _ _ hws ⟨hperm, hsrt⟩ lD (by k_asm) (by k_asm)
end Mine
end

section
open PySem PySem.W PySem.Spec PySem.Calls PyProof.Rows PyProof.V
set_option maxRecDepth 100000
set_option maxHeartbeats 0
namespace Mine
open LCg
section
variable {prog : PySem.Program} {w : World} {A : Around} {E : Value → Shared → Prop} {s : Shared} {h₀ : Heap} {L : Addr} {m : PySem.Str → Option Value} {env : Env}

/-- the source of a comprehension is a text -/
def SrcS (prog : PySem.Program) (w : World) (A : Around) (h₀ : Heap) (L : Addr) (m : PySem.Str → Option Value) (env : Env) (elt : Expr) (x : PySem.Str) (scope : Scope) (cl : List (PySem.Str × Addr)) (Fin : Shared → List Value → List (Addr × Obj) → Prop) (xv : Value) (s₁ : Shared) : Prop :=
  ∃ (y : PySem.Str) (t : Tok) (news : List (Addr × Obj)), xv = .str y t ∧ A.handled = none ∧ Fr h₀ L s₁.heap m ∧ News h₀ L s₁.heap news ∧ y.cps.size ≤ sizeLine ∧
    ∀ s₂ : Shared, (∃ h, s₂ = { s₁ with heap := h }) → CompRest prog w A h₀ L m env elt x scope cl s₂ (fun _ => True) (SignAt y) (Fin s₂) y.cps.size 0 [] news

theorem SrcS.intro {elt : Expr} {x : PySem.Str} {scope : Scope} {cl : List (PySem.Str × Addr)} {Fin : Shared → List Value → List (Addr × Obj) → Prop} {y : PySem.Str} {t : Tok} {news : List (Addr × Obj)} {s₁ : Shared}
    (hh : A.handled = none) (F : Fr h₀ L s₁.heap m) (N : News h₀ L s₁.heap news) (hz : y.cps.size ≤ sizeLine)
    (h : ∀ g, CompRest prog w A h₀ L m env elt x scope cl { s₁ with heap := g } (fun _ => True) (SignAt y) (Fin { s₁ with heap := g }) y.cps.size 0 [] news) :
    SrcS prog w A h₀ L m env elt x scope cl Fin (.str y t) s₁ := ⟨y, t, news, rfl, hh, F, N, hz, fun _ ⟨g, e⟩ => e ▸ h g⟩

theorem str_st {I : Addr} {T : String} {y : PySem.Str} {t : Tok} : ∀ i (h h' : Heap) (o : Obj) (nw : List (Addr × Obj)), h.IsStrIter I T y t i → h.get? I = some o → h'.get? I = some o → (∀ b o, h₀.get? b = some o → h'.get? b = some o) → News h₀ L h' nw → True → h'.IsStrIter I T y t i :=
  fun i h h' o nw st e e' _ _ _ => by obtain ⟨o', q, r⟩ := st; rw [e] at q; cases q; exact ⟨o, e', r⟩

theorem ListComp_S {elt iter : Expr} {x : PySem.Str} {px : Pos} {scope : Scope} {cl : List (PySem.Str × Addr)} {pos : Pos} {Q : Value → Shared → Prop} (F₀ : Fr h₀ L s.heap m)
    (hclos : closureFor scope env = pure cl) (hcell : ∀ y ∈ scope.names, y.2 ≠ .cell) (hkind : scope.kind = .function)
    (hnames : ∀ y ∈ scope.names, y.2 = .local → scope.names.lookup y.1 = some .local) (hx : scope.names.lookup x = some .local)
    (h : wpAny (model prog w) A (eval iter env) (SrcS prog w A h₀ L m env elt x scope cl (fun s₂ => FinE h₀ L m s₂ Q)) E s)
    (hs : ∀ x, foldedSetIterable iter env x = pure x := by intro _; rfl) :
    wpAny (model prog w) A (eval (.ListComp elt [⟨.Name x px, iter, [], 0⟩] scope pos) env) Q E s := by
  rw [eval_ListComp]
  refine wpAny_comprehension_free (use := none) rfl hs hclos hkind hnames (wpAny_mono h (fun xv s₁ h₁ => ?_) fun _ _ e => e)
  obtain ⟨y, t, news, rfl, hh, F, N, hsz, R⟩ := h₁
  cases ha : y.cps.all (· < 128)
  · refine wpAny_pyIter_wide ha ?_
    refine block_U (Walks.strWide hh s₁.heap.objs.size y t) hsz (fun i h st => by obtain ⟨o, e, _⟩ := st; exact ⟨o, e⟩) str_st hcell hkind hx ⟨_, Heap.get?_push_size _ rfl, rfl, rfl⟩ (fun b hb => ?_)
      (F.keeps fun _ _ e => Heap.get?_push_of_some _ e) (N.grown fun _ _ e => Heap.get?_push_of_some _ e) (Nat.ne_of_lt F.ns.lt) (next_is_new F) (fun p hp => Nat.ne_of_lt (Heap.lt_size (N p hp).1)) trivial (R _ ⟨_, rfl⟩) ?_
    · rw [List.mem_singleton.mp hb]
      show s₁.heap.objs.size < (s₁.heap.push _).objs.size
      rw [Heap.size_push]; exact Nat.lt_succ_self _
    · intro D C h tk m' ys news' F' N' o1 hn hC₀ hD₀ hCL hDL hCD offC f
      refine ⟨m', hn, fun h'' hs'' => f D h'' tk (F'.change hs'' hCL hC₀) (fun p hp => ?_) o1⟩
      refine ⟨hs''.extBut _ _ ?_ (N' p hp).1, (N' p hp).2⟩
      rcases List.mem_cons.mp hp with rfl | hp
      · exact Ne.symm hCD
      · exact offC p hp
  · refine wpAny_pyIter_ascii ha ?_
    refine block_U (Walks.strAscii hh s₁.heap.objs.size y t) hsz (fun i h st => by obtain ⟨o, e, _⟩ := st; exact ⟨o, e⟩) str_st hcell hkind hx ⟨_, Heap.get?_push_size _ rfl, rfl, rfl⟩ (fun b hb => ?_)
      (F.keeps fun _ _ e => Heap.get?_push_of_some _ e) (N.grown fun _ _ e => Heap.get?_push_of_some _ e) (Nat.ne_of_lt F.ns.lt) (next_is_new F) (fun p hp => Nat.ne_of_lt (Heap.lt_size (N p hp).1)) trivial (R _ ⟨_, rfl⟩) ?_
    · rw [List.mem_singleton.mp hb]
      show s₁.heap.objs.size < (s₁.heap.push _).objs.size
      rw [Heap.size_push]; exact Nat.lt_succ_self _
    · intro D C h tk m' ys news' F' N' o1 hn hC₀ hD₀ hCL hDL hCD offC f
      refine ⟨m', hn, fun h'' hs'' => f D h'' tk (F'.change hs'' hCL hC₀) (fun p hp => ?_) o1⟩
      refine ⟨hs''.extBut _ _ ?_ (N' p hp).1, (N' p hp).2⟩
      rcases List.mem_cons.mp hp with rfl | hp
      · exact Ne.symm hCD
      · exact offC p hp

/-- the elements are texts, the ledger stays -/
def ElStr (news : List (Addr × Obj)) (r : PySem.Str) (y : Value) (news' : List (Addr × Obj)) : Prop := news' = news ∧ ∃ t : Tok, y = .str r t

theorem rest_strs {elt : Expr} {x : PySem.Str} {scope : Scope} {cl : List (PySem.Str × Addr)} {S : List (Addr × Obj) → Prop} {P : Nat → Value → Prop} {Fin : List Value → List (Addr × Obj) → Prop} {news : List (Addr × Obj)} {n : Nat} (g : Nat → PySem.Str)
    (turn : ∀ i v I oI C oC D m₂ ys h tk (E' : Value → Shared → Prop), i < n → P i v → NsObj oC m₂ → m₂ x = some v → Fr h₀ L h m → News h₀ L h ((I, oI) :: (C, oC) :: (D, lst ys) :: news) → Off3 I C D news → ((@Ne Nat I C) ∧ (@Ne Nat I D) ∧ (@Ne Nat C D)) →
      wpAny (model prog w) A (eval elt (compEnvC scope cl C env)) (CompEnd h₀ L m { s with heap := h, toks := tk } I oI C oC D (lst ys) S (fun y news' => ElStr news (g i) y news')) E' { s with heap := h, toks := tk })
    (fin : ∀ ys, StrsAre ys ((List.range n).map g) → Fin ys news) : CompRest prog w A h₀ L m env elt x scope cl s S P Fin n 0 [] news := by
  have key : ∀ (j i : Nat) (ys : List Value), i + j = n → StrsAre ys ((List.range i).map g) → CompRest prog w A h₀ L m env elt x scope cl s S P Fin j i ys news := by
    intro j
    induction j with
    | zero =>
      intro i ys hi hy
      have e : i = n := by omega
      subst e
      exact CompRest.zero (fin ys hy)
    | succ j ih =>
      intro i ys hi hy
      refine CompRest.succ ?_
      intro v I oI C oC D m₂ h tk E' hv hC hx F N off ne
      refine wpAny_mono (turn i v I oI C oC D m₂ ys h tk E' (by omega) hv hC hx F N off ne) (fun y s₂ hq => ?_) fun _ _ e => e
      obtain ⟨h', tk', nw, e, F', N', off', hS, hn, t', hy'⟩ := hq
      rw [hn] at N' off' hS
      refine ⟨h', tk', news, e, F', N', off', hS, ?_⟩
      rw [hy']
      refine ih (i + 1) _ (by omega) ?_
      rw [List.range_succ, List.map_append]
      exact strs_app hy (.cons _ _ .nil)
  exact key n 0 [] (by omega) (by simpa using StrsAre.nil)
end
end Mine
end

section
open PySem PySem.W PySem.Spec PySem.Calls PyProof.Rows PyProof.V PySem.Builtin.Str PySem.Builtin
namespace Mine

theorem slice_plain {x : PySem.Str} {a b : Nat} (hab : a ≤ b) (hb : b ≤ x.length) : (Txt.slice x (some (a : Int)) (some (b : Int))).cps.toList = (x.cps.toList.drop a).take (b - a) := by
  have e := StrLaws.strSliceIndices_plain hab hb
  unfold Txt.slice
  rw [e]
  have hp := StrLaws.picks x.cps.toList (b - a) a (by have : x.length = x.cps.toList.length := by simp [Str.length]
                                                      omega)
  have hp' : List.filterMap (fun i => x.cps[i]?) ((List.range (b - a)).map (fun k => a + k)) = (x.cps.toList.drop a).take (b - a) := by
    rw [← hp]
    congr 1
    funext i
    simp
  split
  · rename_i h
    simp only [List.length_map, List.length_range, Bool.and_eq_true, beq_iff_eq] at h
    have h1 : a = 0 := by omega
    have h2 : b = x.length := by omega
    subst h1 h2
    have : x.length = x.cps.toList.length := by simp [Str.length]
    rw [List.drop_zero, Nat.sub_zero, this, List.take_length]
  · exact hp'

theorem slice_from {x : PySem.Str} {k : Int} (h0 : 0 ≤ k) (h1 : k ≤ (x.length : Int)) : (Txt.slice x (some k) none).cps.toList = x.cps.toList.drop k.toNat := by
  have e : Txt.slice x (some k) none = Txt.slice x (some (k.toNat : Int)) (some (x.length : Int)) := by
    have : strSliceIndices (some k) none 1 x.length = strSliceIndices (some (k.toNat : Int)) (some (x.length : Int)) 1 x.length := by
      have hk : (k.toNat : Int) = k := by omega
      rw [hk]
      unfold strSliceIndices
      have h2 : ¬ ((x.length : Int) < 0) := by omega
      have h3 : max (0 : Int) (min (x.length : Int) (x.length : Int)) = x.length := by omega
      simp only [h2, if_false, h3, show ((1 : Int) > 0) = True from by simp, if_true]
    unfold Txt.slice
    rw [this]
  rw [e, slice_plain (by omega) (Nat.le_refl _)]
  have : x.length = x.cps.toList.length := by simp [Str.length]
  rw [List.take_of_length_le (by rw [List.length_drop]; omega)]

theorem slice_upto {x : PySem.Str} {k : Int} (h0 : 0 ≤ k) (h1 : k ≤ (x.length : Int)) : (Txt.slice x none (some k)).cps.toList = x.cps.toList.take k.toNat := by
  have e : Txt.slice x none (some k) = Txt.slice x (some ((0 : Nat) : Int)) (some (k.toNat : Int)) := by
    have : strSliceIndices none (some k) 1 x.length = strSliceIndices (some ((0 : Nat) : Int)) (some (k.toNat : Int)) 1 x.length := by
      have hk : (k.toNat : Int) = k := by omega
      rw [hk]
      unfold strSliceIndices
      have h3 : max (0 : Int) (min ((0 : Nat) : Int) (x.length : Int)) = 0 := by omega
      simp only [show ¬ (((0 : Nat) : Int) < 0) by omega, if_false, h3, show ((1 : Int) > 0) = True from by simp, if_true]
    unfold Txt.slice
    rw [this]
  rw [e, slice_plain (by omega) (by omega)]
  simp

theorem slice_init {x : PySem.Str} (h1 : 0 < x.length) : (Txt.slice x none (some (-1))).cps.toList = x.cps.toList.dropLast := by
  have e : Txt.slice x none (some (-1)) = Txt.slice x (some ((0 : Nat) : Int)) (some ((x.length - 1 : Nat) : Int)) := by
    have : strSliceIndices none (some (-1)) 1 x.length = strSliceIndices (some ((0 : Nat) : Int)) (some ((x.length - 1 : Nat) : Int)) 1 x.length := by
      unfold strSliceIndices
      have h3 : max (0 : Int) (min ((0 : Nat) : Int) (x.length : Int)) = 0 := by omega
      have h4 : ¬ (((x.length - 1 : Nat) : Int) < 0) := by omega
      have h5 : (-1 : Int) + (x.length : Int) = ((x.length - 1 : Nat) : Int) := by omega
      simp only [show ¬ (((0 : Nat) : Int) < 0) by omega, show ((-1 : Int) < 0) by omega, if_false, h3, h4, h5, show ((1 : Int) > 0) = True from by simp, if_true]
    unfold Txt.slice
    rw [this]
  rw [e, slice_plain (by omega) (by omega)]
  rw [List.dropLast_eq_take]
  have : x.length = x.cps.toList.length := by simp [Str.length]
  simp [this]

theorem app_toList (x y : PySem.Str) : (x ++ y).cps.toList = x.cps.toList ++ y.cps.toList := by
  show (x.cps ++ y.cps).toList = _
  simp

theorem str_ext {x : PySem.Str} {l : List Nat} (h : x.cps.toList = l) : x = ⟨l.toArray⟩ := by
  cases x; subst h; simp

theorem foldl_glue : ∀ (rest : List PySem.Str) (acc : Array Nat), (rest.foldl (fun acc p => acc ++ (Str.ofString "").cps ++ p.cps) acc).toList = acc.toList ++ rest.flatMap (fun p => p.cps.toList)
  | [], acc => by simp
  | p :: rest, acc => by
    rw [List.foldl_cons, foldl_glue rest, List.flatMap_cons]
    have : (Str.ofString "").cps = #[] := by decide +kernel
    rw [this]
    simp

theorem join_empty (l : List PySem.Str) : (Txt.join (Str.ofString "") l).cps.toList = l.flatMap (fun p => p.cps.toList) := by
  show (glued _ l).cps.toList = _
  cases l with
  | nil => rfl
  | cons p rest =>
    show (rest.foldl (fun acc p => acc ++ (Str.ofString "").cps ++ p.cps) p.cps).toList = _
    rw [foldl_glue, List.flatMap_cons]
end Mine
end

section
open PySem PySem.W PySem.Spec PySem.Calls PyProof.Rows PyProof.V
set_option maxRecDepth 100000
set_option maxHeartbeats 0
namespace Mine
local macro_rules | `(tactic| walk_at "idle") => `(tactic| skip)
open LCg
local macro_rules | `(tactic| walk_at "eval ListComp") => `(tactic| (refine Stop.out ?_))
local macro_rules | `(tactic| walk_at "CompSrc") => `(tactic| (refine Stop.out ?_))


def wordL (r : List Nat) : List Nat := r.flatMap quoL
def rl (k : Nat) (r : List Nat) : List Nat := r.drop k ++ r.take k
def toS (r : List Nat) : PySem.Str := ⟨r.toArray⟩

theorem turn_codes {x : PySem.Str} {i : Nat} (hi : i < x.length) : (Txt.slice x (some (0 + (i : Int))) none ++ Txt.slice x none (some (0 + (i : Int)))).cps.toList = rl i x.cps.toList := by
  rw [app_toList, slice_from (by omega) (by omega), slice_upto (by omega) (by omega)]
  have : (0 + (i : Int)).toNat = i := by omega
  rw [this]; rfl
theorem turn_len {x : PySem.Str} {i : Nat} (hi : i < x.length) : (Txt.slice x (some (0 + (i : Int))) none ++ Txt.slice x none (some (0 + (i : Int)))).cps.size = x.length := by
  have h := congrArg List.length (turn_codes hi)
  rw [Array.length_toList] at h
  rw [h]
  unfold rl
  rw [List.length_append, List.length_drop, List.length_take]
  have : x.length = x.cps.toList.length := by simp [Str.length]
  omega
theorem rl_mem {i c : Nat} {l : List Nat} (h : c ∈ rl i l) : c ∈ l := by
  rcases List.mem_append.mp h with h | h
  · exact List.mem_of_mem_drop h
  · exact List.mem_of_mem_take h
theorem sum3 (l : List Nat) (g : Nat → Nat) : ((((List.range l.length).map fun j => (⟨(quoL (l.getD j 0)).toArray⟩ : PySem.Str))).map (·.length)).sum = 3 * l.length := by
  rw [List.map_map]
  have : (fun x : PySem.Str => x.length) ∘ (fun j => (⟨(quoL (l.getD j 0)).toArray⟩ : PySem.Str)) = fun _ => 3 := by
    funext j; rfl
  rw [this]
  generalize l.length = n
  induction n with
  | zero => rfl
  | succ n ih => rw [List.range_succ, List.map_append, List.sum_append, ih]; simp; omega
theorem word_join (l : List Nat) : Txt.join (Str.ofString "") ((List.range l.length).map fun j => (⟨(quoL (l.getD j 0)).toArray⟩ : PySem.Str)) = toS (wordL l) := by
  refine str_ext ?_
  rw [join_empty, List.flatMap_map]
  unfold wordL
  have key : ∀ (m : List Nat), (List.range m.length).flatMap (fun j => quoL (m.getD j 0)) = m.flatMap quoL := by
    intro m
    induction m with
    | nil => rfl
    | cons a m ih =>
      rw [List.length_cons, List.range_succ_eq_map, List.flatMap_cons, List.flatMap_map, List.flatMap_cons]
      exact congrArg (quoL a ++ ·) ih
  exact key l

local macro_rules | `(tactic| walk_at "call ref") => `(tactic| (k_here; with_reducible refine stopC 88 ?_))

theorem c_words (w : World) (mean : ExcName → Option Value) (mg mb : PySem.Str → Option Value) (news : CbLed) (x : PySem.Str) (t : Tok) (hr : ∀ c ∈ x.cps.toList, c < 256) (hl : x.length < 64) :
    ClL w mean mg mb 857 4 32 news [Value.str x t] (fun out => out.Perm ((List.range x.length).map fun k => toS (wordL (rl k x.cps.toList))) ∧ out.Pairwise sle) := by
  dsimp only [ClL]; k_fill; intros; rename_i hret
  refine wpAny_call ?_
  k_dflt (refine' code_defC ?k1 ?k2 ?k3 ?k4 ?k5 ?kA ?kF ?kK ?k6 ?k7 ?k8 ?k9 ?kB ?kD ?_ ?c2 ?c3 ?c4; (case kA => exact rfl); (case kF => exact rfl); (case kK => assumption); (case k1 => k_asm); (case k2 => k_asm); (case k3 => k_asm); (case k4 => k_asm); (case k5 => k_asm); (case k6 => k_is); (case k7 => k_is); (case k8 => ktr_room); (case k9 => exact BindsTo.of_eq rfl); (case kB => exact rfl); (case kD => decide +kernel); (case c2 => exact rfl); (case c3 => exact rfl); (case c4 => exact rfl); k_whole; intro g' L' h' tk' cells' FG' F' N' Y' B' X' T' l1; k_cells Y'; (try simp only [List.cons_append, List.nil_append] at N'); (try dsimp only); (try k_lift B'); (try k_fold))
  k_steps
  refine Stop.into ?_
  k_dflt (refine LCg.ListComp_U (F₀ := by k_asm) (by with_unfolding_all rfl) (by decide) (by rfl) (by decide) (by rfl) ?_)
  k_steps
  refine Stop.into ?_
  k_dflt (refine' LCg.CompSrc.range (n := x.length) ?h1 ?h2 ?h3 ?h4 ?h5 ?h6 ?h7 ?h8)
  (case h1 => rfl)
  (case h2 => k_asm)
  (case h3 => k_asm)
  (case h4 => assumption)
  (case h5 => exact small_one (by omega) (by omega) (by omega) (by omega))
  (case h6 => exact rangeSize_nat _ _)
  (case h7 => rw [sizeLine_eq]; have : x.length < 64 := hl; omega)
  case h8 =>
    intro g8
    refine rest_strs (fun i => toS (wordL (rl i x.cps.toList))) ?turn ?fin
    case turn =>
      rintro i v I oI C oC D m₂ ys h8 tk8 E8 hi ⟨t8, rfl⟩ hC hx F8 N8 off ne
      k_steps
      refine Stop.into ?_
      k_dflt (refine ListComp_S (L := _) (m := _) (F₀ := by k_asm) (by with_unfolding_all rfl) (by decide) (by rfl) (by decide) (by rfl) ?_)
      k_steps
      refine SrcS.intro rfl (by k_asm) (by k_asm) ?hz ?hrest
      case hz => rw [turn_len hi, sizeLine_eq]; omega
      case hrest =>
        intro g9
        rw [turn_len hi]
        refine rest_strs (fun j => ⟨(quoL ((rl i x.cps.toList).getD j 0)).toArray⟩) ?turn2 ?fin2
        case turn2 =>
          rintro j v I2 oI2 C2 oC2 D2 m3 ys2 h9 tk9 E9 hj ⟨c, u, hc, rfl⟩ hC2 hx2 F9 N9 off2 ne2
          have hcl : (rl i x.cps.toList)[j]? = some c := by rw [← turn_codes hi]; simpa using hc
          have hcc : (rl i x.cps.toList).getD j 0 = c := by rw [List.getD_eq_getElem?_getD, hcl]; rfl
          have hc9 : c < 256 := hr c (rl_mem (List.mem_of_getElem? hcl))
          k_steps
          refine Stop.into ?_
          k_dflt (refine' c_quo _ _ _ _ _ _ _ _ _ _ _ _ _ _ _ _ _ _ _ _ _ _ _ _ ?q1 ?q2 ?q3 ?q4 ?q5 ?qK ?qp ?qd ?qu ?qR; (case q1 => k_asm); (case q2 => k_asm); (case q3 => k_asm); (case q4 => k_asm); (case q5 => k_asm); (case qK => first | exact rfl | assumption); (case qp => assumption); (case qd => ktr_room); (case qu => ktr_units))
          intro t9 h9 tk9 F9 N9
          (try dsimp only)
          (try k_fold)
          k_steps
          rw [hcc]
          exact CompEnd.intro (by k_asm) (by k_asm) _ (fun _ h => h) off2 trivial ⟨rfl, _, rfl⟩
        case fin2 =>
          intro ys2 hys2 D2 h9 tk9 F9 N9 off2
          have hxl : (rl i x.cps.toList).length = x.length := by rw [← turn_codes hi, Array.length_toList, turn_len hi]
          rw [← hxl] at hys2
          k_steps
          refine join_list (items := ys2.toArray) (News.isList N9 (List.mem_cons_self ..)) hys2 ?_ ?_
          · rw [sum3 _ id]
            simp only [List.length_map, List.length_range]
            have : (Str.ofString "").length = 0 := by decide +kernel
            rw [this, hxl]; omega
          · intro t' k'
            rw [word_join]
            k_steps
            exact CompEnd.intro (by k_asm) (by k_asm) _ (fun _ h => List.mem_cons_of_mem _ h) off trivial ⟨rfl, _, rfl⟩
    case fin =>
      intro ys hys D h8 tk8 F8 N8 off
      k_steps
      (try k_fold)
      k_dflt (refine' c_sorted w mean mg mb _ D ys _ ys.length ?hm ?hs ?hl _ _ _ _ _ _ _ _ _ _ _ _ _ _ _ _ _ ?k1 ?k2 ?k3 ?k4 ?k5 ?kK ?kd ?ku ?kR; (case k1 => k_asm); (case k2 => k_asm); (case k3 => k_asm); (case k4 => k_asm); (case hm => exact List.mem_cons_self ..); (case hs => assumption); (case k5 => k_asm); (case kK => first | exact rfl | assumption); (case kd => ktr_room); (case ku => ktr_units))
      (case hl => simpa using hl)
      intro D1 kk us ss hh tk hss hP hlt F9 N9
      k_steps
      exact hret D1 kk us ss _ _ hss hP (fun p hp => hlt p (List.mem_cons_of_mem _ (List.mem_cons_of_mem _ hp))) (by k_asm) (fun p hp => (by assumption : News _ _ _ ((D1, W.listOf us.toArray kk) :: _)) p (by rcases List.mem_cons.mp hp with rfl | hp; exact List.mem_cons_self ..; exact List.mem_cons_of_mem _ (List.mem_cons_of_mem _ (List.mem_cons_of_mem _ hp))))
end Mine
end

section
open PySem PySem.W PySem.Spec PySem.Calls PyProof.Rows PyProof.V
set_option maxRecDepth 100000
namespace Mine
/-- the pattern's words -/
def reC : Array Nat := #[14, 17, 4, 1, 1, 21, 9, 0, 604043296, 1, 0, 0, 0, 0, 0, 8, 4, 0, 13, 14, 21, 9, 0, 604043296, 1, 0, 0, 0, 0, 0, 8, 4, 0, 1]
def safeC (c : Nat) : Bool := c == 61 || (48 ≤ c && c ≤ 57) || (65 ≤ c && c ≤ 70)
theorem safe_lt {c : Nat} (h : safeC c = true) : c < 71 := by
  simp only [safeC, Bool.or_eq_true, Bool.and_eq_true, beq_iff_eq, decide_eq_true_eq] at h
  omega
theorem safe_cases {c : Nat} (h : safeC c = true) : c = 61 ∨ c = 48 ∨ c = 49 ∨ c = 50 ∨ c = 51 ∨ c = 52 ∨ c = 53 ∨ c = 54 ∨ c = 55 ∨ c = 56 ∨ c = 57 ∨ c = 65 ∨ c = 66 ∨ c = 67 ∨ c = 68 ∨ c = 69 ∨ c = 70 :=
  (by decide +kernel : ∀ c : Fin 71, safeC c.1 = true → c.1 = 61 ∨ c.1 = 48 ∨ c.1 = 49 ∨ c.1 = 50 ∨ c.1 = 51 ∨ c.1 = 52 ∨ c.1 = 53 ∨ c.1 = 54 ∨ c.1 = 55 ∨ c.1 = 56 ∨ c.1 = 57 ∨ c.1 = 65 ∨ c.1 = 66 ∨ c.1 = 67 ∨ c.1 = 68 ∨ c.1 = 69 ∨ c.1 = 70) ⟨c, safe_lt h⟩ h
theorem inSet_no (c : Nat) (h : safeC c = true) (seen : Sre.Seen) : ∃ seen', Sre.inSet reC c reC.size 5 true seen = .ok (false, seen') := by
  rcases safe_cases h with rfl | rfl | rfl | rfl | rfl | rfl | rfl | rfl | rfl | rfl | rfl | rfl | rfl | rfl | rfl | rfl | rfl <;> exact ⟨_, rfl⟩

theorem admitted_no (m : Sre.M) (hcode : m.code = reC) (ht : ∀ i, i < m.lim → safeC (m.text.getD i 0) = true) : ∀ (fuel s : Nat) (seen : Sre.Seen), ∃ seen', Sre.M.admitted m fuel s seen = .ok (none, seen')
  | 0, s, seen => ⟨seen, rfl⟩
  | fuel + 1, s, seen => by
    unfold Sre.M.admitted
    by_cases hs : s ≥ m.lim
    · exact ⟨seen, by rw [if_pos hs]⟩
    · rw [if_neg hs, hcode]
      obtain ⟨seen', e⟩ := inSet_no _ (ht s (by omega)) seen
      rw [e]
      exact admitted_no m hcode ht fuel (s + 1) seen'

theorem attempt_no (m : Sre.M) (hc : m.code = reC) (ht : ∀ i, i < m.lim → safeC (m.text.getD i 0) = true) (hf : m.frames = []) (ho : m.outcome = none) (s : Nat) (b : Bool) :
    (m.attemptFrom s b).answer = some false ∧ (m.attemptFrom s b).frames = [] ∧ (m.attemptFrom s b).outcome = none := by
  unfold Sre.M.attemptFrom
  have h1 : m.hasFirstSet = true := by unfold Sre.M.hasFirstSet; rw [hc]; rfl
  obtain ⟨seen', e⟩ := admitted_no m hc ht (m.lim + 1 - s) s m.seen
  rw [h1, e]
  exact ⟨rfl, hf, ho⟩

theorem search_run (x : Array Nat) (hx : ∀ c ∈ x.toList, safeC c = true) (h0 : 0 < x.size) :
    (Sre.forSearch reC x 0 0 x.size false).answer = some false ∧ (Sre.forSearch reC x 0 0 x.size false).frames = [] ∧ (Sre.forSearch reC x 0 0 x.size false).outcome = none := by
  unfold Sre.forSearch
  have e1 : (Sre.header reC).1 = 1 := rfl
  dsimp only
  rw [e1]
  have e3 : (decide (0 > x.size) || decide (x.size - 0 < 1)) = false := by
    rw [decide_eq_false (by omega), decide_eq_false (by omega)]; rfl
  rw [if_neg (by rw [e3]; decide)]
  refine attempt_no _ rfl ?_ rfl rfl 0 true
  intro i hi
  have hi' : i < x.size := hi
  have : x.getD i 0 = x[i] := by simp [Array.getD, hi']
  show safeC (x.getD i 0) = true
  rw [this]
  exact hx _ (by simp)

theorem run_failed {m : Sre.M} (h1 : m.answer = some false) (h2 : m.frames = []) (h3 : m.outcome = none) : (m.runFor 4).outcome = some .failed := by
  have s1 : m.step.outcome = some .failed := by
    unfold Sre.M.step
    rw [h3, h1, h2]; rfl
  unfold Sre.M.runFor
  rw [h3]
  show (Sre.M.runFor 3 m.step).outcome = _
  unfold Sre.M.runFor
  rw [s1]
  exact s1

section
variable {M : Model} {A : Around} {E : Value → Shared → Prop} {s : Shared}
theorem rules_pass (f : Nat → Bool) : ∀ (l : List Nat) {Q : PUnit → Shared → Prop}, Q ⟨⟩ s → wpAny M A (forIn l PUnit.unit fun i _ => do
    if f i = true then do rule (Sre.names.getD i ""); pure (ForInStep.yield PUnit.unit) else pure (ForInStep.yield PUnit.unit)) Q E s
  | [], Q, h => by rw [List.forIn_nil]; exact wpAny_pure h
  | i :: l, Q, h => by
    rw [List.forIn_cons]
    refine wpAny_bind ?_
    cases f i with
    | true => exact wpAny_bind (wpAny_rule (wpAny_pure (rules_pass f l h)))
    | false => exact wpAny_pure (rules_pass f l h)

theorem toEnd_none {m : Sre.M} (h1 : m.answer = some false) (h2 : m.frames = []) (h3 : m.outcome = none) {Q : Option Sre.M → Shared → Prop} (h : Q none s) : wpAny M A (Builtin.Re.reRunToEnd m) Q E s := by
  unfold Builtin.Re.reRunToEnd
  have hd : Builtin.Re.reDrive (2 ^ 64) m = pure (m.runFor 4) := by
    show Builtin.Re.reDrive ((2 ^ 64 - 1) + 1) m = _
    unfold Builtin.Re.reDrive
    have : (m.runFor Builtin.Re.reTurnSteps).outcome.isSome = true := by
      show (m.runFor 4).outcome.isSome = true
      rw [run_failed h1 h2 h3]; rfl
    simp only [this, if_true]
    rfl
  rw [hd]
  refine wpAny_bind (wpAny_pure ?_)
  refine wpAny_bind ?_
  have := rules_pass (M := M) (A := A) (E := E) (s := s) (fun i => (m.runFor 4).seen.has i) (List.range Sre.names.size) (Q := fun _ s' => s' = s) rfl
  refine wpAny_mono this (fun _ s' e => ?_) fun _ _ e => e
  subst e
  rw [run_failed h1 h2 h3]
  exact wpAny_pure h
end
end Mine
end

section
open PySem PySem.W PySem.Spec PySem.Calls PyProof.Rows PyProof.V PySem.Builtin.Re PySem.Builtin
set_option maxRecDepth 100000
set_option maxHeartbeats 0
namespace Mine
section
variable {prog : PySem.Program} {w : World} {A : Around} {E : Value → Shared → Prop} {s : Shared}
def PatAt (h : Heap) : Prop := ∃ od sl v0 t0 v1 t1 v2 v3 v4 v6, h.get? 106 = some ⟨.type "re.Pattern", od, .fields #[.str v0 t0, .int v1 t1, .int 0 v2, v3, v4, .ref 105, .int 0 v6], sl⟩
def WordsAt (h : Heap) : Prop := ∃ o, h.get? 105 = some o ∧ ∃ (xs : Array Value) (n : Nat), o.data = .seq xs n ∧ (xs.map reRawOf).map (·.toNat) = reC

theorem if_no {α : Type} {M : Model} {c : Bool} {a b : Sem α} {Q : α → Shared → Prop} (hc : c = false) (h : wpAny M A b Q E s) : wpAny M A (if c = true then a else b) Q E s := by rw [hc]; exact h
theorem if_yes {α : Type} {M : Model} {c : Bool} {a b : Sem α} {Q : α → Shared → Prop} (hc : c = true) (h : wpAny M A a Q E s) : wpAny M A (if c = true then a else b) Q E s := by rw [hc]; exact h
theorem tree_search {x : PySem.Str} {t : Tok} {P : Fin → Shared → Prop} (h6 : PatAt s.heap) (h5 : WordsAt s.heap) (hx : ∀ c ∈ x.cps.toList, safeC c = true) (h0 : 0 < x.length) (hl : x.length < 64)
    (h : P (.done (.ret .none)) s) : wpAny (model prog w) A (Builtin.«re.Pattern.search» ⟨[.ref 106, .str x t], []⟩) P E s := by
  obtain ⟨od, sl, v0, t0, v1, t1, v2, v3, v4, v6, e6⟩ := h6
  obtain ⟨o, e5, xs, n, e55, hxs⟩ := h5
  unfold Builtin.«re.Pattern.search»
  refine wpAny_bind ?_
  unfold reTarget
  dsimp only
  refine wpAny_bind (wpAny_of_eq (a := [some (.str x t), none, none]) (by kernel_rfl) ?_)
  dsimp only
  refine wpAny_bind (wpAny_pure (wpAny_bind (wpAny_pure (wpAny_bind ?_))))
  refine wpAny_bind (wpAny_load e6 (wpAny_pure ?_))
  refine wpAny_bind (wpAny_of_eq (a := (x.cps, 0)) (by rfl) ?_)
  dsimp only
  refine if_no rfl ?_
  refine if_no rfl ?_
  refine wpAny_bind (wpAny_of_eq (a := ()) (by rfl) ?_)
  refine wpAny_bind ?_
  show wpAny _ _ (reRawItems (.ref 105)) _ _ _
  unfold reRawItems
  refine wpAny_bind (wpAny_bind (wpAny_load e5 ?_))
  rw [e55]
  refine wpAny_pure (wpAny_pure (wpAny_pure ?_))
  show wpAny _ _ (reAnswer _ _) _ _ _
  unfold reAnswer
  have hz : x.cps.size = x.length := rfl
  have r := search_run x.cps hx (by omega)
  refine wpAny_bind ?_
  dsimp only
  rw [show Array.map (fun x => x.toNat) (Array.map reRawOf ((some xs).getD #[])) = reC from hxs]
  rw [show min (Int.toNat 0) x.cps.size = 0 by simp, show min (Int.toNat (2 ^ 63 - 1)) x.cps.size = x.cps.size by omega]
  exact toEnd_none r.1 r.2.1 r.2.2 (wpAny_pure h)
theorem entry_search : entryFor table "re.Pattern.search" = some Builtin.«re.Pattern.search» := entryFor_of_tree (by kernel_rfl)
theorem quiet_search {x : PySem.Str} {t : Tok} : (Code.builtin "re.Pattern.search" ⟨[.ref 106, .str x t], []⟩).quiet = true := Code.quiet_builtin _ (by decide +kernel)

theorem call_search {x : PySem.Str} {t : Tok} {Q : Value → Shared → Prop} {od : Option Addr} {sl : Array (Option Value)} (h9 : s.heap.get? 809 = some ⟨.type "builtin_function_or_method", od, .fields #[.builtin "re.Pattern.search", .ref 106], sl⟩)
    (h6 : PatAt s.heap) (h5 : WordsAt s.heap) (hx : ∀ c ∈ x.cps.toList, safeC c = true) (h0 : 0 < x.length) (hl : x.length < 64)
    (hmod : Looks (model prog w) s.heap (isInstance (.ref 106) (.type "module")) false) (hty : Looks (model prog w) s.heap (isType (.ref 106)) false) (htyp : Looks (model prog w) s.heap (typeOf (.ref 106)) (.type "re.Pattern"))
    (h : Q .none s) : wpAny (model prog w) A (call (.ref 809) [.str x t]) Q E s := by
  refine wpAny_call (codeAny_of_tree ?_)
  show wpAny _ A.in1 (callAny (.ref 809) ⟨[.str x t], []⟩) _ _ s
  simp only [callAny]
  refine wpAny_bind (wpAny_load h9 ?_)
  simp only [show (Value.type "builtin_function_or_method" == Value.type "method" || Value.type "builtin_function_or_method" == Value.type "builtin_function_or_method" || Value.type "builtin_function_or_method" == Value.type "method-wrapper") = true by decide, if_true]
  show wpAny _ _ (do
    checkBoundCall "re.Pattern.search" ⟨[.ref 106, .str x t], []⟩
    again (Code.builtin "re.Pattern.search" ⟨[.ref 106, .str x t], []⟩)) _ _ _
  refine wpAny_bind ?_
  unfold checkBoundCall
  have hk : (Manifest.signature? "re.Pattern.search").map (fun sig => Bind.checkArgs "re.Pattern.search" { sig with full := s!"{Bind.lastOf "re.Pattern"}.{Bind.lastOf "re.Pattern.search"}" } ⟨[.ref 106, .str x t], []⟩) = some (pure ()) := by kernel_rfl
  obtain ⟨sig, hsig, hk⟩ := Option.map_eq_some_iff.mp hk
  rw [hsig]
  dsimp only
  rw [show builtinKind "re.Pattern.search" = some .method by decide +kernel]
  dsimp only
  refine if_no (by decide) ?_
  refine wpAny_bind (hmod.here ?_)
  refine if_no (by decide +kernel) ?_
  refine wpAny_bind (hty.here ?_)
  refine if_no rfl ?_
  refine wpAny_bind (htyp.here ?_)
  dsimp only
  rw [hk]
  refine wpAny_pure (wpAny_pure ?_)
  exact ⟨quiet_search, codeAny_builtin entry_search (tree_search h6 h5 hx h0 hl h)⟩

theorem BoundAt.keeps {q : Addr} {h : Heap} {od : Option Addr} {fs : Array Value} {sl : Array (Option Value)} (e : h.get? q = some ⟨.type "builtin_function_or_method", od, .fields fs, sl⟩) {M : Model} :
    Looks M h (keeperOf (.ref q)) .machine := (Looks.ld (part := none) e).andThen .now
end
end Mine
end

section
open PySem PySem.W PySem.Spec PySem.Calls PyProof.Rows PyProof.V
set_option maxRecDepth 100000
set_option maxHeartbeats 0
namespace Mine
section
variable {M : Model} {A : Around} {E : Value → Shared → Prop} {s : Shared} {env : Env} {pos : Pos} {first : List Value} {Q : Value → Shared → Prop} {q : Addr}
def BfAt (q : Addr) (h : Heap) : Prop := ∃ (od : Option Addr) (fs : Array Value) (sl : Array (Option Value)), h.get? q = some ⟨.type "builtin_function_or_method", od, .fields fs, sl⟩
theorem keeps_B (h : Heap) (X : BfAt q h) : ∃ k, (k = Keeper.frame ∨ k = Keeper.machine ∨ k = Keeper.boundFrame) ∧ Looks M h (keeperOf (.ref q)) k := by
  obtain ⟨od, fs, sl, e⟩ := X
  exact ⟨.machine, .inr (.inl rfl), BoundAt.keeps e⟩
theorem callWith_B {e : Expr} {rest : List Expr} (_X : BfAt q s.heap) (h : wpAny M A (spliced (backTo pos (starEach (e :: rest) env))) (fun vs s₁ => BfAt q s₁.heap ∧ wpAny M A (call (.ref q) (first ++ vs)) Q E s₁) E s)
    (he : starEach (e :: rest) env = (false, eval e env) :: starEach rest env := by rfl) (hplain : (backTo pos (starEach rest env)).any (·.1) = false := by rfl) :
    wpAny M A (callWith pos (.ref q) first (backTo pos (starEach (e :: rest) env)) []) Q E s := by
  rw [he] at h ⊢
  exact callWith_of (by show ((false || (backTo pos (starEach rest env)).any (·.1)) || false) = false; rw [hplain]; rfl) keeps_B (evalArgs_plain h)
end
theorem pat_K {P : Params} {h : Heap} (X : (hk.heap_1 P).In h) : h.get? 809 = some ⟨.type "builtin_function_or_method", none, .fields #[.builtin "re.Pattern.search", .ref 106], #[]⟩ ∧ PatAt h ∧ WordsAt h :=
  ⟨X _ _ (by kernel_rfl), ⟨none, #[], Str.ofString "[^\\w@%+=:,./-]", 1932, 256, 1969, 0, .none, .none, 0, X 106 _ (by kernel_rfl)⟩,
    ⟨⟨.type "tuple", none, .seq #[.int 14 0, .int 17 0, .int 4 0, .int 1 0, .int 1 0, .int 21 0, .int 9 0, .int 0 0, .int 604043296 0, .int 1 0, .int 0 0, .int 0 0, .int 0 0, .int 0 0, .int 0 0, .int 8 0, .int 4 0, .int 0 0, .int 13 0, .int 14 0, .int 21 0, .int 9 0, .int 0 0, .int 604043296 0, .int 1 0, .int 0 0, .int 0 0, .int 0 0, .int 0 0, .int 0 0, .int 8 0, .int 4 0, .int 0 0, .int 1 0] 0, #[]⟩, X 105 _ (by kernel_rfl), _, _, rfl, by decide +kernel⟩⟩
theorem fit64 {n : Nat} (h : n < 64) : ¬ ((n : Int) ≥ 2 ^ 63) := by omega
section
variable {prog : PySem.Program} {w : World} {A : Around} {E : Value → Shared → Prop} {s : Shared} {x : PySem.Str} {t : Tok}
theorem ts64 {Q : Bool → Shared → Prop} (h : Q ((x.length : Int) != 0) { s with toks := s.toks + 1 + 1 }) (hl : x.length < 64 := by assumption) : wpAny (model prog w) A (truthy (.str x t)) Q E s := P.truthy_str (fit64 hl) h
end
local macro_rules | `(tactic| k_room) => `(tactic| ktr_room)
local macro_rules | `(tactic| walk_at "truthy str") => `(tactic| (k_here; refine ts64 ?_))
local macro_rules | `(tactic| walk_at "callWith ref") => `(tactic| ((with_reducible show wpAny _ _ (callWith _ (Value.ref 809) _ _ _) _ _ _); refine Stop.out ?_))
theorem c_q {pp : PySem.Program} {ll : List PySem.Str} (w : World) (mean : ExcName → Option Value) (mg mb : PySem.Str → Option Value) (news : CbLed) (x : PySem.Str) (t : Tok) (hx : 0 < x.length) (hl : x.length < 64) (hsafe : ∀ c ∈ x.cps.toList, safeC c = true) :
    CbClaim PySem.Challenge.rw_il0189_01.row.prog w (hk.heap_1 w.params) pp ll mean mg mb 816 news [] True [Value.str x t] (fun t => Value.str x t) := by
  k_fill
  dsimp only [CbClaim, CbLists, CbRet]; intros; rename_i hret
  refine wpAny_call ?_
  k_dflt cell_enter
  k_steps
  · refine Stop.into ?_
    rename Fr _ _ _ _ => F2
    rename Frag.In _ _ => X2
    have KX := Frag.In.keeps X2 F2.keep
    obtain ⟨h9, h6, h5⟩ := pat_K KX
    refine callWith_B ⟨_, _, _, h9⟩ ?_
    k_steps
    · exact ⟨_, _, _, h9⟩
    · refine call_search h9 h6 h5 hsafe hx hl (looks_instIn KX (by kernel_rfl)) ?_ (looks_typeIn (v := .ref 106) KX (by kernel_rfl)) ?_
      · obtain ⟨_, _, _, _, _, _, _, _, _, _, e6⟩ := h6
        exact (Looks.ld e6).andThen .now
      · k_steps
        all_goals cb_end hret
  · exfalso; omega
end Mine
end

section
open PySem PySem.W PySem.Spec PySem.Calls PyProof.Rows PyProof.V PySem.NumText
set_option maxRecDepth 100000
set_option maxHeartbeats 0
namespace Mine
theorem all16 {P : Nat → Prop} (h0 : P 0) (h1 : P 1) (h2 : P 2) (h3 : P 3) (h4 : P 4) (h5 : P 5) (h6 : P 6) (h7 : P 7) (h8 : P 8) (h9 : P 9) (h10 : P 10) (h11 : P 11) (h12 : P 12) (h13 : P 13) (h14 : P 14) (h15 : P 15) : ∀ {a : Nat}, a < 16 → P a
  | 0, _ => h0 | 1, _ => h1 | 2, _ => h2 | 3, _ => h3 | 4, _ => h4 | 5, _ => h5 | 6, _ => h6 | 7, _ => h7 | 8, _ => h8 | 9, _ => h9 | 10, _ => h10 | 11, _ => h11 | 12, _ => h12 | 13, _ => h13 | 14, _ => h14 | 15, _ => h15
  | n + 16, h => absurd h (Nat.not_lt.mpr (Nat.le_add_left ..))
theorem read16 {a b : Nat} (ha : a < 16) (hb : b < 16) : (int_private% "readNumeral") 0 16 [hexC a, hexC b] = (int_private% "Numeral.value") ((16 * a + b : Nat) : Int) :=
  all16 (P := fun a => ∀ b, b < 16 → (int_private% "readNumeral") 0 16 [hexC a, hexC b] = (int_private% "Numeral.value") ((16 * a + b : Nat) : Int)) (fun b hb => all16 (P := fun b => (int_private% "readNumeral") 0 16 [hexC 0, hexC b] = (int_private% "Numeral.value") ((16 * 0 + b : Nat) : Int)) rfl rfl rfl rfl rfl rfl rfl rfl rfl rfl rfl rfl rfl rfl rfl rfl hb) (fun b hb => all16 (P := fun b => (int_private% "readNumeral") 0 16 [hexC 1, hexC b] = (int_private% "Numeral.value") ((16 * 1 + b : Nat) : Int)) rfl rfl rfl rfl rfl rfl rfl rfl rfl rfl rfl rfl rfl rfl rfl rfl hb) (fun b hb => all16 (P := fun b => (int_private% "readNumeral") 0 16 [hexC 2, hexC b] = (int_private% "Numeral.value") ((16 * 2 + b : Nat) : Int)) rfl rfl rfl rfl rfl rfl rfl rfl rfl rfl rfl rfl rfl rfl rfl rfl hb) (fun b hb => all16 (P := fun b => (int_private% "readNumeral") 0 16 [hexC 3, hexC b] = (int_private% "Numeral.value") ((16 * 3 + b : Nat) : Int)) rfl rfl rfl rfl rfl rfl rfl rfl rfl rfl rfl rfl rfl rfl rfl rfl hb) (fun b hb => all16 (P := fun b => (int_private% "readNumeral") 0 16 [hexC 4, hexC b] = (int_private% "Numeral.value") ((16 * 4 + b : Nat) : Int)) rfl rfl rfl rfl rfl rfl rfl rfl rfl rfl rfl rfl rfl rfl rfl rfl hb) (fun b hb => all16 (P := fun b => (int_private% "readNumeral") 0 16 [hexC 5, hexC b] = (int_private% "Numeral.value") ((16 * 5 + b : Nat) : Int)) rfl rfl rfl rfl rfl rfl rfl rfl rfl rfl rfl rfl rfl rfl rfl rfl hb) (fun b hb => all16 (P := fun b => (int_private% "readNumeral") 0 16 [hexC 6, hexC b] = (int_private% "Numeral.value") ((16 * 6 + b : Nat) : Int)) rfl rfl rfl rfl rfl rfl rfl rfl rfl rfl rfl rfl rfl rfl rfl rfl hb) (fun b hb => all16 (P := fun b => (int_private% "readNumeral") 0 16 [hexC 7, hexC b] = (int_private% "Numeral.value") ((16 * 7 + b : Nat) : Int)) rfl rfl rfl rfl rfl rfl rfl rfl rfl rfl rfl rfl rfl rfl rfl rfl hb) (fun b hb => all16 (P := fun b => (int_private% "readNumeral") 0 16 [hexC 8, hexC b] = (int_private% "Numeral.value") ((16 * 8 + b : Nat) : Int)) rfl rfl rfl rfl rfl rfl rfl rfl rfl rfl rfl rfl rfl rfl rfl rfl hb) (fun b hb => all16 (P := fun b => (int_private% "readNumeral") 0 16 [hexC 9, hexC b] = (int_private% "Numeral.value") ((16 * 9 + b : Nat) : Int)) rfl rfl rfl rfl rfl rfl rfl rfl rfl rfl rfl rfl rfl rfl rfl rfl hb) (fun b hb => all16 (P := fun b => (int_private% "readNumeral") 0 16 [hexC 10, hexC b] = (int_private% "Numeral.value") ((16 * 10 + b : Nat) : Int)) rfl rfl rfl rfl rfl rfl rfl rfl rfl rfl rfl rfl rfl rfl rfl rfl hb) (fun b hb => all16 (P := fun b => (int_private% "readNumeral") 0 16 [hexC 11, hexC b] = (int_private% "Numeral.value") ((16 * 11 + b : Nat) : Int)) rfl rfl rfl rfl rfl rfl rfl rfl rfl rfl rfl rfl rfl rfl rfl rfl hb) (fun b hb => all16 (P := fun b => (int_private% "readNumeral") 0 16 [hexC 12, hexC b] = (int_private% "Numeral.value") ((16 * 12 + b : Nat) : Int)) rfl rfl rfl rfl rfl rfl rfl rfl rfl rfl rfl rfl rfl rfl rfl rfl hb) (fun b hb => all16 (P := fun b => (int_private% "readNumeral") 0 16 [hexC 13, hexC b] = (int_private% "Numeral.value") ((16 * 13 + b : Nat) : Int)) rfl rfl rfl rfl rfl rfl rfl rfl rfl rfl rfl rfl rfl rfl rfl rfl hb) (fun b hb => all16 (P := fun b => (int_private% "readNumeral") 0 16 [hexC 14, hexC b] = (int_private% "Numeral.value") ((16 * 14 + b : Nat) : Int)) rfl rfl rfl rfl rfl rfl rfl rfl rfl rfl rfl rfl rfl rfl rfl rfl hb) (fun b hb => all16 (P := fun b => (int_private% "readNumeral") 0 16 [hexC 15, hexC b] = (int_private% "Numeral.value") ((16 * 15 + b : Nat) : Int)) rfl rfl rfl rfl rfl rfl rfl rfl rfl rfl rfl rfl rfl rfl rfl rfl hb) ha b hb

theorem wp_text16 {M : Model} {A : Around} {E : Value → Shared → Prop} {s : Shared} {Q : Value → Shared → Prop} {v : Value} {text : List Nat} {n : Int}
    (hs : (text.takeWhile (· != 0)).length ≤ 640) (hr : (int_private% "readNumeral") 0 16 (text.takeWhile (· != 0)) = (int_private% "Numeral.value") n)
    (ha : ((text.takeWhile (· != 0)).length == text.length) = true) (h : Q (.int n s.toks) { s with toks := s.toks + 1 }) :
    wpAny M A ((int_private% "intFromText") v text 16) Q E s := by
  obtain ⟨hp, g, d, tk, os⟩ := s
  repeat (any_goals (first
    | assumption
    | (with_reducible refine wpAny_ite_true (decide_eq_true hs) ?_)
    | (with_reducible refine wpAny_ite_true (decide_eq_true ha) ?_)
    | wp_step))
  all_goals (try rw [hr])
  all_goals (try dsimp only)
  repeat (any_goals (first
    | assumption
    | (with_reducible refine wpAny_ite_true (decide_eq_true hs) ?_)
    | (with_reducible refine wpAny_ite_true (decide_eq_true ha) ?_)
    | wp_step))
theorem hexC_lt {a : Nat} (ha : a < 16) : hexC a < 128 ∧ hexC a ≠ 0 := by unfold hexC; split <;> omega
theorem gives_text16 {a b : Nat} (ha : a < 16) (hb : b < 16) {u k : Tok} : Gives (Builtin.«int.__new__» ⟨[.type "int", .str ⟨#[hexC a, hexC b]⟩ u, .int 16 k], []⟩) (.int ((16 * a + b : Nat) : Int)) :=
  .of_wp fun M A E s Q h => by
    obtain ⟨hp, g, d, tk, os⟩ := s
    have f1 := F.conv_sub_int
    have f2 := F.madeHere_int
    have f3 := KIN.str_int
    have f4 := KIN.str_idx
    have f5 := KIN.str_trunc
    have f6 : typeOf (.str ⟨#[hexC a, hexC b]⟩ u) = pure (.type "str") := rfl
    have g1 : (#[hexC a, hexC b] : Array Nat).all (· < 128) = true := by
      have := (hexC_lt ha).1
      have := (hexC_lt hb).1
      simp; omega
    have e1 : List.takeWhile (· != 0) [hexC a, hexC b] = [hexC a, hexC b] := by
      have pa : (hexC a != 0) = true := bne_iff_ne.mpr (hexC_lt ha).2
      have pb : (hexC b != 0) = true := bne_iff_ne.mpr (hexC_lt hb).2
      simp only [List.takeWhile, pa, pb]
    have hs : (List.takeWhile (· != 0) [hexC a, hexC b]).length ≤ 640 := by rw [e1]; simp
    have hr : (int_private% "readNumeral") 0 16 (List.takeWhile (· != 0) [hexC a, hexC b]) = (int_private% "Numeral.value") ((16 * a + b : Nat) : Int) := by rw [e1]; exact read16 ha hb
    have hl : ((List.takeWhile (· != 0) [hexC a, hexC b]).length == [hexC a, hexC b].length) = true := by rw [e1]; rfl
    have hk := KIN.Hid.mk (And.intro hs (And.intro hr hl))
    clear hs hr hl e1
    repeat (any_goals (first
      | assumption
      | ((with_reducible show wpAny _ _ ((int_private% "intFromText") _ _ _) _ _ _); (try rw [if_pos g1]); refine wp_text16 hk.out.1 hk.out.2.1 hk.out.2.2 ?_)
      | wp_step))
    all_goals exact ⟨_, rfl, h⟩
theorem typeCall_int_2 (a b : Value) : checkTypeCall "int" ⟨[a, b], []⟩ = pure () := by kernel_rfl
theorem newCall_int_2 (a b : Value) : checkBuiltinCall "int.__new__" ⟨[.type "int", a, b], []⟩ = pure () := by kernel_rfl
theorem args_oi3 (a b c : Value) : argsOk "object.__init__" ⟨[a, b, c], []⟩ := by unfold argsOk; kernel_rfl
section
variable {prog : PySem.Program} {w : World} {A : Around} {E : Value → Shared → Prop} {s : Shared} {Q : Value → Shared → Prop} {t k : Tok}
theorem call_int16 {a b : Nat} (ha : a < 16) (hb : b < 16) (h : Q (.int ((16 * a + b : Nat) : Int) s.toks) { s with toks := s.toks + 1 }) : wpAny (model prog w) A (call (.type "int") [.str ⟨#[hexC a, hexC b]⟩ t, .int 16 k]) Q E s :=
  callType_new PySem.F.called_int PySem.F.newNe_int (typeCall_int_2 _ _) (newCall_int_2 _ _) (fun obj => args_oi3 obj _ _) PySem.F.entry_int_new (gives_text16 ha hb).meets (show (Made.int _).post _ s from ⟨rfl, h⟩)
end
theorem slice_hex {p q : Nat} : Txt.slice ⟨#[61, p, q]⟩ (some 1) (some 3) = ⟨#[p, q]⟩ := str_ext (slice_plain (x := ⟨#[61, p, q]⟩) (a := 1) (b := 3) (by omega) (by show 3 ≤ 3; omega))
end Mine
end

section
open PySem PySem.W PySem.Spec PySem.Calls PyProof.Rows PyProof.V PySem.StrLaws PySem.Builtin PySem.Builtin.Str
set_option maxRecDepth 100000
namespace Mine
theorem no_break {c : Nat} (h : safeC c = true) : Unicode.isLineBreak c = false :=
  (by decide +kernel : ∀ c : Fin 71, safeC c.1 = true → Unicode.isLineBreak c.1 = false) ⟨c, safe_lt h⟩ h
theorem no_space {c : Nat} (h : safeC c = true) : Unicode.isSpace c = false :=
  (by decide +kernel : ∀ c : Fin 71, safeC c.1 = true → Unicode.isSpace c.1 = false) ⟨c, safe_lt h⟩ h

theorem run_plain (x : PySem.Str) (hx : ∀ i, i < x.length → Unicode.isLineBreak (x.cps.getD i 0) = false) : ∀ (m cur : Nat) (st : LsSt), cur + m ≤ x.length →
    Id.run (forIn (m := Id) (List.range' cur m) st (lsBody x)) = st
  | 0, _, _, _ => rfl
  | m + 1, cur, st, h => by
    rw [List.range'_succ, List.forIn_cons]
    have hb : lsBody x cur st = pure (ForInStep.yield st) := by
      unfold lsBody
      rw [hx cur (by omega), Bool.and_false]
      rfl
    rw [hb]
    exact run_plain x hx m (cur + 1) st (by omega)

theorem lines_one {x : PySem.Str} (h0 : 0 < x.length) (hs : ∀ c ∈ x.cps.toList, safeC c = true) : Txt.lines x = [x] := by
  have hx : ∀ i, i < x.length → Unicode.isLineBreak (x.cps.getD i 0) = false := by
    intro i hi
    have hi' : i < x.cps.size := hi
    have : x.cps.getD i 0 = x.cps[i] := by simp [Array.getD, hi']
    rw [this]
    exact no_break (hs _ (by simp))
  have e : lineSpans x = [(0, x.length, x.length)] := by
    rw [ls_eq, run_plain x hx x.length 0 _ (by omega)]
    unfold lsEnd
    rw [if_pos h0]; rfl
  have e2 : lineCuts x = [(0, x.length)] := by
    unfold lineCuts
    rw [e]; rfl
  unfold Txt.lines
  rw [e2, if_pos (by simp)]
end Mine
end

section
open PySem PySem.W PySem.Spec PySem.Calls PyProof.Rows PyProof.V PySem.StrLaws PySem.Builtin PySem.Builtin.Str
set_option maxRecDepth 100000
namespace Mine
theorem occ_no {c : Nat} (h : safeC c = true) : (occurrences (Str.ofString "\x0d\n") ⟨#[c]⟩ 0 (Str.ofString "\x0d\n").length 1).isEmpty = true :=
  (by decide +kernel : ∀ c : Fin 71, safeC c.1 = true → (occurrences (Str.ofString "\x0d\n") ⟨#[c.1]⟩ 0 (Str.ofString "\x0d\n").length 1).isEmpty = true) ⟨c, safe_lt h⟩ h
theorem ends_nl {z : PySem.Str} {r : List Nat} (h : z.cps.toList = r ++ [10]) : Txt.endswith z (Str.ofString "\n") = true := by
  obtain rfl := str_ext h
  have e : Str.ofString "\n" = ⟨#[10]⟩ := by decide +kernel
  rw [e]
  unfold Txt.endswith subAt
  have hl : (⟨(r ++ [10]).toArray⟩ : PySem.Str).length = r.length + 1 := by simp [Str.length]
  have h1 : (⟨#[10]⟩ : PySem.Str).length = 1 := rfl
  rw [hl, h1]
  simp
theorem nonnil {x : PySem.Str} (h0 : 0 < x.length) : x.cps.toList ≠ [] := by
  intro q
  have h : x.cps.toList.length = 0 := by rw [q]; rfl
  rw [Array.length_toList] at h
  have hz : x.length = x.cps.size := rfl
  omega
theorem item_at {x : PySem.Str} {i : Int} (h0 : 0 ≤ i) (h1 : i < (x.length : Int)) : Txt.item x i = ⟨#[x.cps.toList.getD i.toNat 0]⟩ := by
  unfold Txt.item Txt.charAt
  have hz : x.length = x.cps.size := rfl
  have e : seqIndex? i x.length = some i.toNat := by
    unfold seqIndex?
    first
    | (simp; omega)
    | (split <;> simp_all <;> omega)
  rw [e]
  simp [List.getD_eq_getElem?_getD]
theorem item_last {x : PySem.Str} (h0 : 0 < x.length) : Txt.item x (-1) = ⟨#[x.cps.toList.getLastD 0]⟩ := by
  unfold Txt.item Txt.charAt
  have hz : x.length = x.cps.size := rfl
  have e : seqIndex? (-1) x.length = some (x.length - 1) := by
    unfold seqIndex?
    first
    | (simp; omega)
    | (split <;> simp_all <;> omega)
  rw [e]
  have hl := nonnil h0
  rw [List.getLastD_eq_getLast?, List.getLast?_eq_getElem?]
  simp [hz]
theorem last_safe {x : PySem.Str} (h0 : 0 < x.length) (hs : ∀ c ∈ x.cps.toList, safeC c = true) : safeC (x.cps.toList.getLastD 0) = true := by
  refine hs _ ?_
  have hl := nonnil h0
  rw [List.getLastD_eq_getLast?, List.getLast?_eq_some_getLast hl]
  exact List.getLast_mem hl
theorem rstrip_id {x : PySem.Str} (h0 : 0 < x.length) (hs : ∀ c ∈ x.cps.toList, safeC c = true) : Txt.rstrip x = x := by
  unfold Txt.rstrip Txt.stripBy
  rw [if_pos]
  unfold stripSame stripLo stripHi
  simp only [Bool.false_eq_true, if_false, if_true, List.drop_zero]
  have hl := nonnil h0
  have : (x.cps.toList.reverse.takeWhile Unicode.isSpace) = [] := by
    obtain ⟨a, l, e⟩ : ∃ a l, x.cps.toList.reverse = a :: l := by
      cases q : x.cps.toList.reverse with
      | nil => simp at q; rw [q] at hl; simp at hl
      | cons a l => exact ⟨a, l, rfl⟩
    have ha : a ∈ x.cps.toList := by rw [← List.mem_reverse, e]; exact List.mem_cons_self ..
    rw [e, List.takeWhile_cons, no_space (hs a ha)]
    rfl
  rw [this]
  simp
end Mine
end

section
open PySem PySem.W PySem.Spec PySem.Calls PyProof.Rows PyProof.V
set_option maxRecDepth 100000
set_option maxHeartbeats 0
namespace Mine
local macro_rules | `(tactic| walk_at "idle") => `(tactic| skip)
local macro_rules | `(tactic| k_room) => `(tactic| ktr_room)
local macro_rules | `(tactic| walk_at "truthy str") => `(tactic| (k_here; refine ts64 ?_))
local macro_rules | `(tactic| walk_at "call type:int") => `(tactic| (k_here; rw [slice_hex]; refine call_int16 (by assumption) (by assumption) ?_))
theorem c_unq {pp : PySem.Program} {ll : List PySem.Str} (w : World) (mean : ExcName → Option Value) (mg mb : PySem.Str → Option Value) (news : CbLed) (a b : Nat) (t : Tok) (ha : a < 16) (hb : b < 16) :
    CbClaim PySem.Challenge.rw_il0189_01.row.prog w (hk.heap_1 w.params) pp ll mean mg mb 81 news [] True [Value.str ⟨#[61, hexC a, hexC b]⟩ t] (fun t => Value.str ⟨#[16 * a + b]⟩ t) := by
  k_fill
  dsimp only [CbClaim, CbLists, CbRet]; intros; rename_i hret
  refine wpAny_call ?_
  k_dflt (refine' code_def (binds := [(Str.ofString "s", Value.str ⟨#[61, hexC a, hexC b]⟩ t)]) ?k1 ?k2 ?k3 ?k4 ?k5 ?kA ?kF ?kK ?k6 ?k7 ?k8 ?k9 ?kB ?_ ?c2 ?c3 ?c4 ?c5; (case kA => exact rfl); (case kF => exact rfl); (case kK => assumption); (case k1 => k_asm); (case k2 => k_asm); (case k3 => k_asm); (case k4 => k_asm); (case k5 => k_asm); (case k6 => k_is); (case k7 => k_is); (case k8 => ktr_room); (case k9 => first | exact BindsTo.of_eq rfl | exact binds_K (by k_in) rfl (by k_is) rfl rfl rfl); (case c5 => decide); (case kB => exact locs rfl); (case c2 => exact rfl); (case c3 => exact rfl); (case c4 => exact rfl); k_whole; intro g' L' h' FG' F' N' B' X' T'; (try dsimp only); (try k_lift B'); (try k_fold))
  k_steps
  all_goals (rw [Int.toNat_natCast]; cb_end hret)
end Mine
end

section
open PySem PySem.W PySem.Spec PySem.Calls PyProof.Rows PyProof.V
set_option maxRecDepth 100000
namespace Mine
theorem word_cons (a : Nat) (r : List Nat) : wordL (a :: r) = 61 :: hexC (a / 16) :: hexC (a % 16) :: wordL r := rfl
theorem word_drop : ∀ (j : Nat) (r : List Nat), (wordL r).drop (3 * j) = wordL (r.drop j)
  | 0, r => rfl
  | j + 1, [] => by simp [wordL]
  | j + 1, a :: r => by
    rw [word_cons, show 3 * (j + 1) = (3 * j) + 1 + 1 + 1 by omega, List.drop_succ_cons, List.drop_succ_cons, List.drop_succ_cons, List.drop_succ_cons]
    exact word_drop j r
theorem word_len : ∀ r : List Nat, (wordL r).length = 3 * r.length
  | [] => rfl
  | a :: r => by rw [word_cons]; simp only [List.length_cons]; rw [word_len r]; omega
theorem word_at {r : List Nat} {j : Nat} (h : j < r.length) : (wordL r).drop (3 * j) = 61 :: hexC (r[j] / 16) :: hexC (r[j] % 16) :: wordL (r.drop (j + 1)) := by
  rw [word_drop, List.drop_eq_getElem_cons h, word_cons]
theorem getD_drop {l : List Nat} {i k : Nat} : l.getD (i + k) 0 = (l.drop i).getD k 0 := by
  simp [List.getD_eq_getElem?_getD, List.getElem?_drop]
section
variable {x : PySem.Str} {r : List Nat} {j : Nat}
theorem len_word (hr : x.cps.toList = wordL r) : x.length = 3 * r.length := by
  have h := congrArg List.length hr
  rw [Array.length_toList, word_len] at h
  exact h
theorem item0 (hr : x.cps.toList = wordL r) (h : j < r.length) : Txt.item x (3 * (j : Int)) = ⟨#[61]⟩ := by
  have hl := len_word hr
  rw [item_at (by omega) (by omega), hr, show (3 * (j : Int)).toNat = 3 * j + 0 by omega, getD_drop, word_at h]
  rfl
theorem item1 (hr : x.cps.toList = wordL r) (h : j < r.length) : Txt.item x (3 * (j : Int) + 1) = ⟨#[hexC (r[j] / 16)]⟩ := by
  have hl := len_word hr
  rw [item_at (by omega) (by omega), hr, show (3 * (j : Int) + 1).toNat = 3 * j + 1 by omega, getD_drop, word_at h]
  rfl
theorem item2 (hr : x.cps.toList = wordL r) (h : j < r.length) : Txt.item x (3 * (j : Int) + 2) = ⟨#[hexC (r[j] % 16)]⟩ := by
  have hl := len_word hr
  rw [item_at (by omega) (by omega), hr, show (3 * (j : Int) + 2).toNat = 3 * j + 2 by omega, getD_drop, word_at h]
  rfl
theorem slice3 (hr : x.cps.toList = wordL r) (h : j < r.length) : Txt.slice x (some (3 * (j : Int))) (some (3 * (j : Int) + 3)) = ⟨#[61, hexC (r[j] / 16), hexC (r[j] % 16)]⟩ := by
  have hl := len_word hr
  have e := slice_plain (x := x) (a := 3 * j) (b := 3 * j + 3) (by omega) (by omega)
  refine str_ext (l := [61, hexC (r[j] / 16), hexC (r[j] % 16)]) ?_
  rw [show (3 * (j : Int)) = ((3 * j : Nat) : Int) by omega, show (((3 * j : Nat) : Int) + 3) = ((3 * j + 3 : Nat) : Int) by omega, e, hr, word_at h, show 3 * j + 3 - 3 * j = 3 by omega]
  rfl
end
theorem hex_in {a : Nat} (h : a < 16) : (Builtin.Str.occurrences (Str.ofString "0123456789abcdefABCDEF") ⟨#[hexC a]⟩ 0 (Str.ofString "0123456789abcdefABCDEF").length 1).isEmpty = false :=
  (by decide +kernel : ∀ a : Fin 16, (Builtin.Str.occurrences (Str.ofString "0123456789abcdefABCDEF") ⟨#[hexC a.1]⟩ 0 (Str.ofString "0123456789abcdefABCDEF").length 1).isEmpty = false) ⟨a, h⟩
end Mine
end

section
open PySem PySem.W PySem.Spec PySem.Calls PyProof.Rows PyProof.V
set_option maxRecDepth 100000
set_option maxHeartbeats 0
namespace Mine
local macro_rules | `(tactic| k_room) => `(tactic| ktr_room)
local macro_rules | `(tactic| walk_at "truthy str") => `(tactic| (k_here; refine ts64 ?_))
local macro_rules | `(tactic| walk_at "pyIter ref") => `(tactic| (refine Stop.out ?_))
local macro_rules | `(tactic| walk_at "exec While Compare cons nil") => `(tactic| (refine Stop.out ?_))
section
variable {prog : PySem.Program} {w : World} {A : Around} {E : Value → Shared → Prop} {s : Shared} {value slice : Expr} {x : PySem.Str} {t u : Tok} {r : List Nat} {j : Nat} {Q : Value → Shared → Prop}
theorem sub0 (h : Q (.str ⟨#[61]⟩ s.toks) { s with toks := s.toks + 1 }) (hr : x.cps.toList = wordL r := by assumption) (hl : x.length < 64 := by assumption) (hj : j < r.length := by omega) 
    (hs : subscripted slice false (.str x t) (.int (3 * (j : Int)) u) = operate [.str x t, .int (3 * (j : Int)) u] (getItem (.str x t) (.int (3 * (j : Int)) u)) := by with_unfolding_all rfl) (ht : ∀ r, letTemporaryGo value (.str x t) r = pure () := by intro _; with_unfolding_all rfl) :
    wpAny (model prog w) A (subscriptTail value slice (.str x t) (.int (3 * (j : Int)) u)) Q E s :=
  have _e := len_word hr
  item_str (fitsSsize_of (N := 9223372036854775808) (by omega) (by omega) (Int.le_refl _)) (by omega) (by omega) (fun _ => by rw [item0 hr hj]; exact h) hs ht
theorem sub1 (hr : x.cps.toList = wordL r := by assumption) (hl : x.length < 64 := by assumption) (hj : j < r.length := by omega) (h : Q (.str ⟨#[hexC (r[j] / 16)]⟩ s.toks) { s with toks := s.toks + 1 })
    (hs : subscripted slice false (.str x t) (.int (3 * (j : Int) + 1) u) = operate [.str x t, .int (3 * (j : Int) + 1) u] (getItem (.str x t) (.int (3 * (j : Int) + 1) u)) := by with_unfolding_all rfl) (ht : ∀ r, letTemporaryGo value (.str x t) r = pure () := by intro _; with_unfolding_all rfl) :
    wpAny (model prog w) A (subscriptTail value slice (.str x t) (.int (3 * (j : Int) + 1) u)) Q E s :=
  have _e := len_word hr
  item_str (fitsSsize_of (N := 9223372036854775808) (by omega) (by omega) (Int.le_refl _)) (by omega) (by omega) (fun _ => by rw [item1 hr hj]; exact h) hs ht
theorem sub2 (hr : x.cps.toList = wordL r := by assumption) (hl : x.length < 64 := by assumption) (hj : j < r.length := by omega) (h : Q (.str ⟨#[hexC (r[j] % 16)]⟩ s.toks) { s with toks := s.toks + 1 })
    (hs : subscripted slice false (.str x t) (.int (3 * (j : Int) + 2) u) = operate [.str x t, .int (3 * (j : Int) + 2) u] (getItem (.str x t) (.int (3 * (j : Int) + 2) u)) := by with_unfolding_all rfl) (ht : ∀ r, letTemporaryGo value (.str x t) r = pure () := by intro _; with_unfolding_all rfl) :
    wpAny (model prog w) A (subscriptTail value slice (.str x t) (.int (3 * (j : Int) + 2) u)) Q E s :=
  have _e := len_word hr
  item_str (fitsSsize_of (N := 9223372036854775808) (by omega) (by omega) (Int.le_refl _)) (by omega) (by omega) (fun _ => by rw [item2 hr hj]; exact h) hs ht
end
local macro_rules | `(tactic| walk_at "subscriptTail Name Name str int") => `(tactic| (k_here; refine sub0 ?_))
local macro_rules | `(tactic| walk_at "subscriptTail Name BinOp str int") => `(tactic| (k_here; first | refine sub1 (h := ?_) | refine sub2 (h := ?_)))
theorem div16 {c : Nat} (h : c < 256) : c / 16 < 16 := by omega
theorem mod16 {c : Nat} : c % 16 < 16 := by omega
local macro_rules | `(tactic| walk_at "call ref") => `(tactic| (with_reducible refine stopC 81 ?_))
section
variable {prog : PySem.Program} {w : World} {A : Around} {E : Value → Shared → Prop} {s : Shared} {env : Env} {h₀ : Heap} {x : PySem.Str} {body : List Stmt} {Q : Flow → Shared → Prop}
theorem iter_same {l : Addr} {vs : List Value} {k : Nat} {m₀ : PySem.Str → Option Value} {news : List (Addr × Obj)} (J : Nat → (PySem.Str → Option Value) → Prop)
    (hh : A.handled = none) (F : Fr h₀ env.locals s.heap m₀) (N : News h₀ env.locals s.heap news) (hm : (l, W.listOf vs.toArray k) ∈ news) (hj : J 0 m₀)
    (turn : ∀ i v m₁ h tk I io, vs[i]? = some v → J i m₁ → (∀ p ∈ news, p.1 ≠ I) → Fr h₀ env.locals h (fun y => if y = x then some v else m₁ y) → News h₀ env.locals h ((I, io) :: news) →
      wpAny (model prog w) A (execs body env) (TurnPost h₀ env.locals (fun m n => n = news ∧ J (i + 1) m) I io { s with heap := h, toks := tk } Q) E { s with heap := h, toks := tk })
    (done : ∀ m₁ h tk, J vs.length m₁ → Fr h₀ env.locals h m₁ → News h₀ env.locals h news → Q .next { s with heap := h, toks := tk }) :
    wpAny (model prog w) A (pyIter (.ref l)) (fun it s₂ => LoopAtV prog w A h₀ env x body Q E it s₂) E s := by
  refine iter_vals (fun i m n => n = news ∧ J i m) hh F N hm (fun i m n h => h.1 ▸ hm) ⟨rfl, hj⟩ ?_ ?_
  · rintro i v m₁ n₁ h tk I io hv ⟨rfl, hJ⟩ hI F1 N1
    exact turn i v m₁ h tk I io hv hJ hI F1 N1
  · rintro m₁ n₁ h tk ⟨rfl, hJ⟩ F1 N1
    exact done m₁ h tk hJ F1 N1
end
theorem sum_three : ∀ l : List Nat, (List.map (fun _ => 3) l).sum = 3 * l.length
  | [] => rfl
  | a :: l => by rw [List.map_cons, List.sum_cons, sum_three l, List.length_cons]; omega
theorem dec_end {z : PySem.Str} {r : List Nat} (h : z.cps.toList = r ++ [10]) : Txt.slice z none (some (-((1 : Nat) : Int))) = toS r := by
  have hl : z.length = z.cps.toList.length := by simp [Str.length]
  have h0 : 0 < z.length := by rw [hl, h]; simp
  refine str_ext ((slice_init h0).trans ?_)
  rw [h]; simp
theorem pull3 {f : PySem.Str → Option Value} {a b c : PySem.Str} {va vb vc : Option Value} (ha : f a = va) (hb : f b = vb) (hc : f c = vc) : f = fun y => if y = a then va else if y = b then vb else if y = c then vc else f y := by
  funext y
  by_cases e : y = a
  · subst e; simp [ha]
  · by_cases e2 : y = b
    · subst e2; simp [e, hb]
    · by_cases e3 : y = c
      · subst e3; simp [e, e2, hc]
      · simp [e, e2, e3]
theorem while_same {prog : PySem.Program} {w : World} {A : Around} {E : Value → Shared → Prop} {Q : Flow → Shared → Prop} {s : Shared} {env : Env} {h₀ : Heap} {L : Addr} {test : Expr} {body : List Stmt} {pos : Pos} {m : PySem.Str → Option Value} {news : List (Addr × Obj)} (J : Nat → (PySem.Str → Option Value) → Prop) {n₀ : Nat}
    (F : Fr h₀ L s.heap m) (N : News h₀ L s.heap news) (hJ : J n₀ m)
    (turn : ∀ n m₁ h₁ tk₁, Fr h₀ L h₁ m₁ → News h₀ L h₁ news → J n m₁ →
      wpAny (model prog w) A (isTrue test env (eval test env)) (fun b s₂ =>
        if b = true then wpAny (model prog w) A (execs body env) (WhileStep h₀ L s (fun n m ns => ns = news ∧ J n m) n) E s₂ else Q .next s₂) E { s with heap := h₁, toks := tk₁ })
    (hE : PassesOwn (model prog w) A env E := by passes_own) :
    wpAny (model prog w) A (exec (.While test body [] pos) env) Q E s :=
  While_inv (fun n m ns => ns = news ∧ J n m) F N ⟨rfl, hJ⟩ (fun n m₁ n₁ h₁ tk₁ F1 N1 ⟨e, j⟩ => turn n m₁ h₁ tk₁ F1 (e ▸ N1) j) hE
theorem pull6 {f : PySem.Str → Option Value} {a b c d e g : PySem.Str} {va vb vc vd ve vg : Option Value} (ha : f a = va) (hb : f b = vb) (hc : f c = vc) (hd : f d = vd) (he : f e = ve) (hg : f g = vg) :
    f = fun y => if y = a then va else if y = b then vb else if y = c then vc else if y = d then vd else if y = e then ve else if y = g then vg else f y := by
  funext y
  by_cases h1 : y = a
  · subst h1; simp [ha]
  · by_cases h2 : y = b
    · subst h2; simp [h1, hb]
    · by_cases h3 : y = c
      · subst h3; simp [h1, h2, hc]
      · by_cases h4 : y = d
        · subst h4; simp [h1, h2, h3, hd]
        · by_cases h5 : y = e
          · subst h5; simp [h1, h2, h3, h4, he]
          · by_cases h6 : y = g
            · subst h6; simp [h1, h2, h3, h4, h5, hg]
            · simp [h1, h2, h3, h4, h5, h6]
abbrev ClV (w : World) (mean : ExcName → Option Value) (mg mb : PySem.Str → Option Value) (f : Addr) (dep un₀ : Nat) (news : CbLed) (vs : List Value) (R : Tok → Value) : Prop :=
  ∀ {pp : PySem.Program} {ll : List PySem.Str} (dp un : Nat) (gd : Option (List Code)) (cn : PySem.Str) (cs : Scope) (a : Addr) (ccd : Value) (cl : List (PySem.Str × Addr)) (outer : List Env) (A₀ : Around) (base h₀ : Heap) (L : Addr) (m : PySem.Str → Option Value) (s : Shared) (Q E : Value → Shared → Prop),
    Below A₀ base outer h₀ → Fr h₀ L s.heap m → (hk.heap_1 w.params).In h₀ → News h₀ L s.heap news → Top pp ll mean mg mb h₀ → cs.kind = .function →
    dp + dep < recursionLimit → un + un₀ < cLine →
    (∀ (t : Tok) (h' : Heap) (tk' : Nat), Fr h₀ L h' m → News h₀ L h' news → Q (R t) { s with heap := h', toks := tk' }) →
      wpAny (model PySem.Challenge.rw_il0189_01.row.prog w) (ktrTop dp un gd cn cs L a ccd cl outer) (call (.ref f) vs) Q E s
theorem st_code {z : PySem.Str} {r : List Nat} {j : Nat} (hj : j < r.length) (hz : z.cps.toList = r.take j ++ (if j = r.length then [10] else [])) : (z ++ ⟨#[16 * (r[j] / 16) + r[j] % 16]⟩).cps.toList = r.take (j + 1) := by
  rw [app_toList, hz, if_neg (by omega), List.append_nil, List.take_add_one, List.getElem?_eq_getElem hj]
  have : 16 * (r[j] / 16) + r[j] % 16 = r[j] := by omega
  rw [this]
  rfl
theorem st_a {z : PySem.Str} {r : List Nat} {j : Nat} (hj : j < r.length) (hz : z.cps.toList = r.take j ++ (if j = r.length then [10] else [])) (he : j + 1 = r.length) :
    (z ++ ⟨#[16 * (r[j] / 16) + r[j] % 16]⟩ ++ Str.ofString "\n").cps.toList = r.take (j + 1) ++ (if j + 1 = r.length then [10] else []) := by
  rw [app_toList, st_code hj hz, if_pos he]
  have : (Str.ofString "\n").cps.toList = [10] := by decide +kernel
  rw [this]
theorem st_b {z : PySem.Str} {r : List Nat} {j : Nat} (hj : j < r.length) (hz : z.cps.toList = r.take j ++ (if j = r.length then [10] else [])) (he : j + 1 ≠ r.length) :
    (z ++ ⟨#[16 * (r[j] / 16) + r[j] % 16]⟩).cps.toList = r.take (j + 1) ++ (if j + 1 = r.length then [10] else []) := by
  rw [st_code hj hz, if_neg he, List.append_nil]
theorem st_len {z : PySem.Str} {r : List Nat} {j : Nat} (hz : z.cps.toList = r.take j ++ (if j = r.length then [10] else [])) (h : r.length < 30) : z.length < 40 := by
  have hl : z.length = z.cps.toList.length := by simp [Str.length]
  rw [hl, hz, List.length_append, List.length_take]
  split <;> simp <;> omega
theorem mkJ {f : PySem.Str → Option Value} {x z : PySem.Str} {r : List Nat} {i n : Int} {t1 t2 t3 t4 t5 t6 : Tok} {j : Nat} (h1 : f (Str.ofString "i") = some (.int i t1)) (h2 : f (Str.ofString "decoded") = some (.str z t2)) (h3 : f (Str.ofString "line") = some (.str x t3))
    (h4 : f (Str.ofString "n") = some (.int n t4)) (h5 : f (Str.ofString "encoded") = some (.str x t5)) (h6 : f (Str.ofString "eol") = some (.str (Str.ofString "\n") t6)) (hi : i = 3 * (j : Int)) (hn : n = (x.length : Int)) (hj : j ≤ r.length)
    (hz : z.cps.toList = r.take j ++ (if j = r.length then [10] else [])) (hzl : z.length < 64) :
    ∃ (j' : Nat) (z : PySem.Str) (u : PySem.Str → Option Value) (t1 t2 t3 t4 t5 t6 : Tok), j' ≤ r.length ∧ z.cps.toList = r.take j' ++ (if j' = r.length then [10] else []) ∧ z.length < 64 ∧ f = (fun y => if y = Str.ofString "i" then some (Value.int (3 * (j' : Int)) t1) else if y = Str.ofString "decoded" then some (Value.str z t2) else if y = Str.ofString "line" then some (Value.str x t3) else if y = Str.ofString "n" then some (Value.int (x.length : Int) t4) else if y = Str.ofString "encoded" then some (Value.str x t5) else if y = Str.ofString "eol" then some (Value.str (Str.ofString "\n") t6) else u y) ∧ r.length - j = r.length - j' := by
  subst hi hn
  exact ⟨j, z, f, t1, t2, t3, t4, t5, t6, hj, hz, hzl, pull6 h1 h2 h3 h4 h5 h6, rfl⟩
theorem c_dec (w : World) (mean : ExcName → Option Value) (mg mb : PySem.Str → Option Value) (news : CbLed) (x : PySem.Str) (r : List Nat) (t : Tok) (hx : 0 < x.length) (hl : x.length < 64) (hsafe : ∀ c ∈ x.cps.toList, safeC c = true) (hr : x.cps.toList = wordL r) (hr2 : ∀ c ∈ r, c < 256) :
    ClV w mean mg mb 101 3 40 news [Value.str x t] (fun t => Value.str (toS r) t) := by
  dsimp only [ClV]; k_fill; intros; rename_i hret
  refine wpAny_call ?_
  k_dflt (refine' code_def (binds := [(Str.ofString "encoded", Value.str x t), (Str.ofString "eol", Value.str (Str.ofString "\n") 351)]) ?k1 ?k2 ?k3 ?k4 ?k5 ?kA ?kF ?kK ?k6 ?k7 ?k8 ?k9 ?kB ?_ ?c2 ?c3 ?c4 ?c5; (case kA => exact rfl); (case kF => exact rfl); (case kK => assumption); (case k1 => k_asm); (case k2 => k_asm); (case k3 => k_asm); (case k4 => k_asm); (case k5 => k_asm); (case k6 => k_is); (case k7 => k_is); (case k8 => ktr_room); (case k9 => first | exact BindsTo.of_eq rfl | exact binds_K (by k_in) rfl (by k_is) rfl rfl rfl); (case c5 => decide); (case kB => exact locs rfl); (case c2 => exact rfl); (case c3 => exact rfl); (case c4 => exact rfl); k_whole; intro g' L' h' FG' F' N' B' X' T'; (try dsimp only); (try k_lift B'); (try k_fold))
  k_steps
  · refine Stop.into ?_
    rename Fr _ _ _ _ => F1
    rename News _ _ _ _ => N1
    rename List (PySem.Str × Tok) => l
    rename List.map _ l = Txt.lines _ => hln
    rw [lines_one hx hsafe] at hln
    obtain ⟨t0, rfl⟩ : ∃ t0, l = [(x, t0)] := by
      cases l with
      | nil => simp at hln
      | cons p l' =>
        obtain ⟨y, t0⟩ := p
        cases l' with
        | nil => simp at hln; exact ⟨t0, by rw [hln]⟩
        | cons _ _ => simp at hln
    have hxl : x.length = 3 * r.length := by
      have h := congrArg List.length hr
      rw [Array.length_toList] at h
      have hz : x.length = x.cps.size := rfl
      rw [hz, h]
      unfold wordL
      rw [List.length_flatMap]
      have e : List.map (fun a => (quoL a).length) r = List.map (fun _ => 3) r := rfl
      rw [e]
      exact sum_three r
    refine' iter_same (k := 0) (vs := [Value.str x t0]) (fun i m₁ => ∃ (u : PySem.Str → Option Value) (td te tf : Tok) (z : PySem.Str), z.cps.toList = (if i = 0 then [] else r ++ [10]) ∧ z.length < 64 ∧ m₁ = fun y => if y = Str.ofString "decoded" then some (Value.str z td) else if y = Str.ofString "encoded" then some (Value.str x te) else if y = Str.ofString "eol" then some (Value.str (Str.ofString "\n") tf) else u y) ?hh ?F ?N ?hm ?hj ?turn ?done
    (case hh => rfl)
    (case F => exact F1)
    (case N => exact N1)
    (case hm => exact List.mem_cons_self ..)
    case hj => exact ⟨_, _, _, _, Str.ofString "", by rw [if_pos rfl]; decide +kernel, by decide +kernel, pull3 (by with_unfolding_all rfl) (by with_unfolding_all rfl) (by with_unfolding_all rfl)⟩
    case turn =>
      rintro i v m₁ h tk I io hv hZ hI F2 N2
      refine hide fun P0 hP0 => ?_
      obtain ⟨u, td, te, tf, z, hz, hzl, rfl⟩ := hZ
      refine hP0 ?_
      clear hP0
      have hi : i = 0 := by
        cases i with
        | zero => rfl
        | succ i => simp at hv
      subst hi
      obtain rfl : v = Value.str x t0 := by simpa using hv.symm
      clear F1 N1
      k_steps
      · refine Stop.into ?_
        rw [rstrip_id hx hsafe] at *
        rename Fr _ _ _ _ => F3
        rename News _ _ _ _ => N3
        refine' while_same (n₀ := r.length) (fun n m₁ => ∃ (j : Nat) (z : PySem.Str) (u : PySem.Str → Option Value) (t1 t2 t3 t4 t5 t6 : Tok), j ≤ r.length ∧ z.cps.toList = r.take j ++ (if j = r.length then [10] else []) ∧ z.length < 64 ∧ m₁ = (fun y => if y = Str.ofString "i" then some (Value.int (3 * (j : Int)) t1) else if y = Str.ofString "decoded" then some (Value.str z t2) else if y = Str.ofString "line" then some (Value.str x t3) else if y = Str.ofString "n" then some (Value.int (x.length : Int) t4) else if y = Str.ofString "encoded" then some (Value.str x t5) else if y = Str.ofString "eol" then some (Value.str (Str.ofString "\n") t6) else u y) ∧ n = r.length - j) F3 N3 ?hJ ?wt
        case hJ => exact ⟨0, z, _, _, _, _, _, _, _, Nat.zero_le _, by rw [if_neg (by omega)]; simpa using hz, hzl, pull6 (by with_unfolding_all rfl) (by with_unfolding_all rfl) (by with_unfolding_all rfl) (by with_unfolding_all rfl) (by with_unfolding_all rfl) (by with_unfolding_all rfl), rfl⟩
        case wt =>
          rintro n m₁ h₁ tk₁ F4 N4 hZ
          refine hide fun P0 hP0 => ?_
          obtain ⟨j, z, u, t1, t2, t3, t4, t5, t6, hj, hz2, hz3, rfl, rfl⟩ := hZ
          refine hP0 ?_
          clear hP0
          clear F3 N3
          k_steps
          all_goals first
            | (exfalso; omega)
            | (exfalso; rename _ = true => hh; first | (rw [hex_in mod16] at hh; cases hh; done) | (rw [hex_in (div16 (hr2 _ (List.getElem_mem ..)))] at hh; cases hh; done))
            | skip
          · refine Stop.into ?_
            k_here
            rw [slice3 (by assumption) (by omega)]
            k_dflt (refine' c_unq _ _ _ _ _ _ _ _ ?ha ?hb _ _ _ _ _ _ _ _ _ _ _ _ _ _ _ _ _ ?k1 ?k2 ?k3 ?k4 ?k5 ?kK ?kp ?kd ?ku ?kR)
            (case ha => exact div16 (hr2 _ (List.getElem_mem ..)))
            (case hb => exact mod16)
            (case k1 => k_asm)
            (case k2 => k_asm)
            (case k3 => k_asm)
            (case k4 => k_asm)
            (case k5 => k_asm)
            (case kK => first | exact rfl | assumption)
            (case kp => trivial)
            (case kd => ktr_room)
            (case ku => ktr_units)
            intro t9 h9 tk9 F9 N9
            (try dsimp only)
            (try k_fold)
            k_steps
            all_goals (
              rename Fr _ _ _ _ => F5
              rename News _ _ _ _ => N5
              refine WhileStep.intro F5 N5 (n' := r.length - (j + 1)) (by omega) ⟨rfl, mkJ (by with_unfolding_all rfl) (by with_unfolding_all rfl) (by with_unfolding_all rfl) (by with_unfolding_all rfl) (by with_unfolding_all rfl) (by with_unfolding_all rfl) (by omega) rfl (by omega) ?_ ?_⟩)
            · exact st_a (by omega) hz2 (by omega)
            · have := st_a (z := z) (r := r) (j := j) (by omega) hz2 (by omega)
              exact Nat.lt_of_lt_of_le (st_len this (by omega)) (by omega)
            · exact st_b (by omega) hz2 (by omega)
            · have := st_b (z := z) (r := r) (j := j) (by omega) hz2 (by omega)
              exact Nat.lt_of_lt_of_le (st_len this (by omega)) (by omega)
          · have hjr : j = r.length := by omega
            rw [if_pos hjr, hjr, List.take_length] at hz2
            refine TurnEnd.intro F4 N4 (fun p hp => List.mem_cons_of_mem _ hp) (List.mem_cons_self ..) (fun p hp => hI p hp) ⟨rfl, _, _, _, _, z, by rw [hz2]; rfl, hz3, pull3 (by with_unfolding_all rfl) (by with_unfolding_all rfl) (by with_unfolding_all rfl)⟩
      · exfalso
        have h : ((Txt.rstrip x).length : Int) = 0 := by assumption
        rw [rstrip_id hx hsafe] at h
        omega
    case done =>
      rintro m₁ h tk hZ F2 N2
      refine hide fun P0 hP0 => ?_
      obtain ⟨u, td, te, tf, z, hz, hzl, rfl⟩ := hZ
      refine hP0 ?_
      clear hP0
      clear F1 N1
      have hz' : z.cps.toList = r ++ [10] := by simpa using hz
      have hen := ends_nl hz'
      k_steps
      all_goals first
        | (refine cb_retS hret (dec_end hz') (by k_asm) (cb_drop (by assumption) (fun p hp => List.mem_cons_of_mem _ hp)); done)
        | (exfalso; rename _ = false => hh; rw [hen] at hh; cases hh; done)
        | (exfalso; rename _ = false => hh; rw [item_last hx, occ_no (last_safe hx hsafe)] at hh; cases hh; done)
  · exfalso; omega
end Mine
end

section
open PySem PySem.W PySem.Spec PySem.Calls PyProof.Rows PyProof.V PySem.Builtin
set_option maxRecDepth 100000
set_option maxHeartbeats 4000000
namespace Mine
section
variable {prog : PySem.Program} {w : World} {A : Around} {E : Value → Shared → Prop} {s : Shared} {C : Addr} {Q : Value → Shared → Prop}
/-- a class whose `__new__` is a def of the text -/
theorem make_two {rest : List Value} {kw : List (PySem.Str × Value)} {oc : Value} {od : Option Addr} {cd : ClassData} {sl : Array (Option Value)} (hC : s.heap.get? C = some ⟨oc, od, .cls cd, sl⟩) (e4 : cd.mro.isEmpty = false)
    (made : Looks (model prog w) s.heap (Bind.madeBy (.ref C)) none) (hcall : Looks (model prog w) s.heap (specialOf (.ref C) "__call__") (some (.builtin "type.__call__"))) (typ : Looks (model prog w) s.heap (isInstance (.ref C) (.type "type")) true)
    (h : wpAny (model prog w) (A.under (.builtin "type.__call__" ⟨.ref C :: rest, kw⟩)) (getAttr (.ref C) "__new__") (fun new s₁ =>
      wpAny (model prog w) (A.under (.builtin "type.__call__" ⟨.ref C :: rest, kw⟩)) (call new (.ref C :: rest) kw) (fun obj s₂ => Looks (model prog w) s₂.heap (isInstance obj (.ref C)) true ∧
        wpAny (model prog w) (A.under (.builtin "type.__call__" ⟨.ref C :: rest, kw⟩)) (callSpecial? obj "__init__" rest kw) (fun r s₃ => r = some .none ∧ Q obj s₃) E s₂) E s₁) E s) :
    wpAny (model prog w) A (call (.ref C) rest kw) Q E s := by
  refine wpAny_call (codeAny_of_tree ?_)
  show wpAny _ _ (callAny (.ref C) _) _ _ _
  refine nd_load hC ?_
  show wpAny _ _ (callAny.viaDunder (.ref C) _) _ _ _
  unfold callAny.viaDunder
  refine wpAny_bind (hcall.at ?_)
  dsimp only
  rw [tc_bind]
  refine wpAny_bind (wpAny_pure (wpAny_bind (wpAny_pure ?_)))
  refine wpAny_pure (a := Fin.again (.call (.builtin "type.__call__") ⟨.ref C :: rest, kw⟩)) (And.intro rfl ?_)
  refine codeAny_call_builtin_at (Code.quiet_builtin _ (by decide +kernel)) entry_typeCall (check_slot tc_kind tc_split typ (tc_args _ _ _) ?_)
  unfold Builtin.«type.__call__»
  have hm : Looks (model prog w) s.heap (mroOf (.ref C)) cd.mro := ((Looks.ld (part := none) hC).andThen .now).andThen .now
  repeat (first | with_reducible refine wpAny_mono h (fun new s₁ h₁ => Stop.out ?_) fun _ _ e => e | simp only [e4, Bool.false_eq_true, if_false] | lk)
  refine Stop.into ?_
  refine wpAny_bind (wpAny_holding (wpAny_mono h₁ (fun obj s₂ h₂ => ?_) fun _ _ e => e))
  refine wpAny_bind (h₂.1.here ?_)
  simp only [Bool.not_true, Bool.false_eq_true, if_false]
  refine wpAny_bind (wpAny_holding (wpAny_mono h₂.2 (fun r s₃ h₃ => ?_) fun _ _ e => e))
  obtain ⟨rfl, h₃⟩ := h₃
  exact wpAny_pure h₃
/-- object.__new__ of a class of the text whose maker is not object's own slot -/
theorem new_two {oc : Value} {od : Option Addr} {cd : ClassData} {sl : Array (Option Value)} (hC : s.heap.get? C = some ⟨oc, od, .cls cd, sl⟩) (e1 : cd.abstract = false) (e2 : cd.hasDel = false)
    (here : Looks (model prog w) s.heap (Bind.madeHere "object.__new__" (.ref C)) ()) (isty : Looks (model prog w) s.heap (isType (.ref C)) true)
    (chk : Looks (model prog w) s.heap (checkBuiltinCall "object.__new__" ⟨[.ref C], []⟩) ())
    (hq : Q (.ref (s.heap.objs.size + 1)) { s with heap := (s.heap.push emptyDict).push (instObj C s.heap.objs.size) }) :
    wpAny (model prog w) A (call (.builtin "object.__new__") [.ref C]) Q E s := by
  have F := PySem.F.objNew
  obtain ⟨h, g, d, t, os⟩ := s
  refine wpAny_call (codeAny_call_builtin_code (Code.quiet_builtin _ F.quiet) ?_)
  refine chk.at ?_
  refine codeAny_builtin F.entry ?_
  unfold Builtin.«object.__new__»
  have fin : ∀ A', wpAny (model prog w) A' (do
      let d ← if typeHasDict (.ref C) then some <$> alloc { cls := .type "dict", data := .dict #[] } else pure none
      ret (← newObj (.ref C) .plain d)) (fun fin s' => match fin with | .done f => (match (Except.ok f : Result) with | .ok (.ret v) => Q v s' | .ok _ => False | .error e => E e s') | .again c' => c'.quiet = true ∧ codeAny (model prog w) A c' (fun r s' => match r with | .ok (.ret v) => Q v s' | .ok _ => False | .error e => E e s') s') (fun e s' => E e s') ⟨h, g, d, t, os⟩ := by
    intro A'
    show wpAny _ _ ((alloc emptyDict >>= fun x => pure (some x)) >>= _) _ _ _
    refine wpAny_bind (wpAny_bind (wpAny_alloc (wpAny_pure (wpAny_bind ?_))))
    show wpAny _ _ (newObjAsIs _ _ _) _ _ _
    unfold newObjAsIs classHasDel
    refine wpAny_bind (wpAny_alloc (wpAny_bind (wpAny_bind (wpAny_load (Heap.get?_push_of_some _ (Heap.get?_push_of_some _ hC)) (wpAny_pure ?_)))))
    rw [e2]
    refine wpAny_pure (wpAny_pure ?_)
    show Q _ _
    rw [Heap.size_push]
    exact hq
  repeat (first | simp only [e1, List.isEmpty_nil, Bool.not_true, Bool.or_self, bne_self_eq_false, Bool.false_eq_true, if_false] | exact fin _ | lk)
theorem new_K2 {K : Frag} {h₀ : Heap} {L : Addr} {m : PySem.Str → Option Value} {news : List (Addr × Obj)} (F : Fr h₀ L s.heap m) (N : News h₀ L s.heap news) (X : K.In s.heap)
    (hC : (K.lookup C).any (fun o => match o.data with | .cls cd => !cd.abstract && !cd.hasDel | _ => false) = true)
    (here : peek K ⟨prog, w.params⟩ (Bind.madeHere "object.__new__" (.ref C)) = some ()) (isty : peek K ⟨prog, w.params⟩ (isType (.ref C)) = some true)
    (chk : peek K ⟨prog, w.params⟩ (checkBuiltinCall "object.__new__" ⟨[.ref C], []⟩) = some ())
    (h : ∀ x dx h', Fr h₀ L h' m → News h₀ L h' ((x, instObj C dx) :: (dx, emptyDict) :: news) → (∀ p ∈ news, p.1 < dx) → dx < x → Q (.ref x) { s with heap := h' }) :
    wpAny (model prog w) A (call (.builtin "object.__new__") [.ref C]) Q E s := by
  obtain ⟨⟨oc, od, dt, sl⟩, ho, hd⟩ := any_some hC
  cases dt with
  | cls cd =>
    simp only [Bool.and_eq_true, Bool.not_eq_true'] at hd
    refine new_two (X _ _ ho) hd.1 hd.2 (Looks.of_peek X here) (Looks.of_peek X isty) (Looks.of_peek X chk) ?_
    refine h _ s.heap.objs.size _ ((F.push _).push _) ?_ (fun p hp => Heap.lt_size (N p hp).1) (Nat.lt_succ_self _)
    have := (N.push F emptyDict).push (F.push _) (instObj C s.heap.objs.size)
    rwa [Heap.size_push] at this
  | _ => cases hd
theorem make_K2 {K : Frag} {rest : List Value} {kw : List (PySem.Str × Value)} (X : K.In s.heap)
    (hC : (K.lookup C).any (fun o => match o.data with | .cls cd => !cd.mro.isEmpty | _ => false) = true)
    (made : peek K ⟨prog, w.params⟩ (Bind.madeBy (.ref C)) = some none) (hcall : peek K ⟨prog, w.params⟩ (specialOf (.ref C) "__call__") = some (some (.builtin "type.__call__"))) (typ : peek K ⟨prog, w.params⟩ (isInstance (.ref C) (.type "type")) = some true)
    (h : wpAny (model prog w) (A.under (.builtin "type.__call__" ⟨.ref C :: rest, kw⟩)) (getAttr (.ref C) "__new__") (fun new s₁ =>
      wpAny (model prog w) (A.under (.builtin "type.__call__" ⟨.ref C :: rest, kw⟩)) (call new (.ref C :: rest) kw) (fun obj s₂ => Looks (model prog w) s₂.heap (isInstance obj (.ref C)) true ∧
        wpAny (model prog w) (A.under (.builtin "type.__call__" ⟨.ref C :: rest, kw⟩)) (callSpecial? obj "__init__" rest kw) (fun r s₃ => r = some .none ∧ Q obj s₃) E s₂) E s₁) E s) :
    wpAny (model prog w) A (call (.ref C) rest kw) Q E s := by
  obtain ⟨⟨oc, od, dt, sl⟩, ho, hd⟩ := any_some hC
  cases dt with
  | cls cd => exact make_two (X _ _ ho) (by simpa using hd) (Looks.of_peek X made) (Looks.of_peek X hcall) (Looks.of_peek X typ) h
  | _ => cases hd
end
end Mine
end

section
open PySem PySem.W PySem.Spec PySem.Calls PyProof.Rows PyProof.V
set_option maxRecDepth 100000
set_option maxHeartbeats 0
namespace Mine
local macro_rules | `(tactic| k_room) => `(tactic| ktr_room)
local macro_rules | `(tactic| walk_at "call ref") => `(tactic| (k_here; with_reducible refine stopC 147 ?_))
theorem news_drop2 {h₀ h : Heap} {L : Addr} {a b c d : Addr × Obj} {news : List (Addr × Obj)} (N : News h₀ L h (a :: b :: c :: d :: news)) : News h₀ L h (a :: b :: news) := fun p hp => N p (by
  rcases List.mem_cons.mp hp with rfl | hp
  · exact List.mem_cons_self ..
  rcases List.mem_cons.mp hp with rfl | hp
  · exact List.mem_cons_of_mem _ (List.mem_cons_self ..)
  · exact List.mem_cons_of_mem _ (List.mem_cons_of_mem _ (List.mem_cons_of_mem _ (List.mem_cons_of_mem _ hp))))
abbrev sioD (P : Params) (x : PySem.Str) (pos : Int) (k1 k2 k3 t1 t2 t3 : Tok) : Obj := dictOf [⟨PyData.keyHash P (Str.ofString "_StringIO__newline"), .str (Str.ofString "_StringIO__newline") k1, .str (Str.ofString "\n") t1⟩,
  ⟨PyData.keyHash P (Str.ofString "_StringIO__buf"), .str (Str.ofString "_StringIO__buf") k2, .str x t2⟩, ⟨PyData.keyHash P (Str.ofString "_StringIO__pos"), .str (Str.ofString "_StringIO__pos") k3, .int pos t3⟩] 3
theorem c_sio (w : World) (mean : ExcName → Option Value) (mg mb : PySem.Str → Option Value) (news : CbLed) (x : PySem.Str) (t : Tok) (hl : x.length < 200) :
    ∀ {pp : PySem.Program} {ll : List PySem.Str} (dp un : Nat) (gd : Option (List Code)) (cn : PySem.Str) (cs : Scope) (a : Addr) (ccd : Value) (cl : List (PySem.Str × Addr)) (outer : List Env) (A₀ : Around) (base h₀ : Heap) (L : Addr) (m : PySem.Str → Option Value) (s : Shared) (Q E : Value → Shared → Prop),
    Below A₀ base outer h₀ → Fr h₀ L s.heap m → (hk.heap_1 w.params).In h₀ → News h₀ L s.heap news → Top pp ll mean mg mb h₀ → cs.kind = .function →
    dp + 5 < recursionLimit → un + 100 < cLine →
    (∀ (D X : Addr) (k1 k2 k3 t1 t2 t3 : Tok) (h' : Heap) (tk' : Nat), (∀ p ∈ news, p.1 < D) → D < X → Fr h₀ L h' m → News h₀ L h' ((X, instObj 654 D) :: (D, sioD w.params x 0 k1 k2 k3 t1 t2 t3) :: news) → Q (.ref X) { s with heap := h', toks := tk' }) →
      wpAny (model PySem.Challenge.rw_il0189_01.row.prog w) (ktrTop dp un gd cn cs L a ccd cl outer) (call (.ref 654) [Value.str x t]) Q E s := by
  k_fill; intros; rename_i hret
  rename Frag.In _ _ => KX
  rename Fr _ _ _ _ => F1
  refine make_K2 (KX.keeps F1.keep) (by kernel_rfl) (by kernel_rfl) (by kernel_rfl) (by kernel_rfl) ?_
  k_steps
  refine Stop.into ?_
  refine wpAny_call ?_
  k_dflt (kp_kind "both"; (refine' kp_both ?k1 ?k2 ?k3 ?k4 ?k5 ?kA ?kF ?kK ?k6 ?k7 ?k8 ?kV ?kX ?kQ ?kM ?kN ?kD ?kR ?kP ?kS ?kT ?kB ?_ ?c2 ?c3 ?c4 ?c5; (case kA => exact rfl); (case kF => exact rfl); (case kK => first | exact rfl | assumption); (case k1 => k_asm); (case k2 => k_asm); (case k3 => k_asm); (case k4 => k_asm); (case k5 => k_asm); (case k6 => k_is); (case k7 => k_is); (case k8 => k_room); (case kV => kp_lit); (case kX => kp_lit); (case kQ => exact rfl); (case kM => exact rfl); (case kN => exact rfl); (case kD => kp_flats); (case kR => exact rfl); (case kP => exact rfl); (case kS => exact fun _ => rfl); (case kT => exact fun _ _ => rfl); (case kB => exact fun _ _ => locs rfl); (case c5 => decide); (case c2 => exact rfl); (case c3 => exact rfl); (case c4 => exact rfl); k_whole; intro C' D' o' g' L' h' tk' l1 l2 lo' hs' fs' FG' F' N' B' X' T'; (try k_lt l1); (try k_lt2 l2); (try dsimp only); (try k_lift B'); (try k_fold)))
  k_steps
  rename Frag.In _ _ => KX2
  rename Fr _ _ _ _ => F2
  rename News _ _ _ _ => N2
  have KX3 := KX2.keeps F2.keep
  refine new_K2 F2 N2 KX3 (by kernel_rfl) (by kernel_rfl) (by kernel_rfl) (by kernel_rfl) ?_
  intro X D h' F3 N3 l1 l2
  have hlt := l1
  k_lt l1
  k_lt2 l2
  clear KX3
  k_steps
  · exact ((Looks.ld (N3 _ (List.mem_cons_self ..)).1).andThen .now).andThen (Looks.of_peek (KX.keeps (by assumption : Fr _ _ h' _).keep) (by kernel_rfl))
  rename Fr _ _ h' _ => F4
  refine special_fn (KX.keeps F4.keep) (by k_inst) (f := 424) (by k_is) (by k_is) ?_
  refine wpAny_call ?_
  k_dflt (refine' code_def ?k1 ?k2 ?k3 ?k4 ?k5 ?kA ?kF ?kK ?k6 ?k7 ?k8 ?k9 ?kB ?_ ?c2 ?c3 ?c4 ?c5; (case kA => exact rfl); (case kF => exact rfl); (case kK => assumption); (case k1 => k_asm); (case k2 => k_asm); (case k3 => k_asm); (case k4 => k_asm); (case k5 => k_asm); (case k6 => k_is); (case k7 => k_is); (case k8 => ktr_room); (case k9 => first | exact BindsTo.of_eq rfl | exact binds_K (by k_in) rfl (by k_is) rfl rfl rfl); (case c5 => decide); (case kB => exact locs rfl); (case c2 => exact rfl); (case c3 => exact rfl); (case c4 => exact rfl); k_whole; intro g' L' h' FG' F' N' B' X' T'; (try dsimp only); (try k_lift B'); (try k_fold))
  k_steps
  rename News _ _ _ _ => N9
  exact hret D X _ _ _ _ _ _ _ _ (fun p hp => hlt p (List.mem_cons_of_mem _ (List.mem_cons_of_mem _ hp))) (by assumption) (by k_asm) (news_drop2 N9)
end Mine
end

section
open PySem PySem.W PySem.Spec PySem.Calls PyProof.Rows PyProof.V PySem.Builtin
set_option maxRecDepth 100000
set_option maxHeartbeats 4000000
namespace Mine
abbrev dq : String := "collections.deque"
theorem dq_mro : mroOf (.type "collections.deque") = pure [.type "collections.deque", .type "object"] := by rw [mroOf_type]; kernel_rfl
theorem dq_lookup_new : typeLookup (.type "collections.deque") "__new__" = pure (some (.builtin "collections.deque.__new__")) := by rw [typeLookup_type, builtinLookup_eq_fast]; kernel_rfl
theorem dq_slot_init : Slot "collections.deque" "__init__" "collections.deque.__init__" :=
  .of (owner := "collections.deque") (n := "__init__") (by rw [typeLookup_type, builtinLookup_eq_fast]; kernel_rfl) (by decide +kernel) (by decide +kernel) (by decide +kernel)
    (by first | exact .inl (by decide +kernel) | exact .inr (by decide +kernel)) (by rw [isSubtype_type]; kernel_rfl)
theorem dq_slot_len : Slot "collections.deque" "__len__" "collections.deque.__len__" :=
  .of (owner := "collections.deque") (n := "__len__") (by rw [typeLookup_type, builtinLookup_eq_fast]; kernel_rfl) (by decide +kernel) (by decide +kernel) (by decide +kernel)
    (by first | exact .inl (by decide +kernel) | exact .inr (by decide +kernel)) (by rw [isSubtype_type]; kernel_rfl)
theorem dq_called : TypeCalled "collections.deque" "collections.deque.__new__" "collections.deque.__init__" :=
  ⟨by decide +kernel, by decide +kernel, ⟨_, _, dq_mro⟩, madeBy_type dq_mro dq_lookup_new (by decide +kernel), by decide +kernel, by rw [isSubtype_type]; kernel_rfl, dq_slot_init⟩
theorem dq_typeCall : checkTypeCall "collections.deque" ⟨[], []⟩ = pure () := by kernel_rfl
theorem dq_newCall : checkBuiltinCall "collections.deque.__new__" ⟨[.type "collections.deque"], []⟩ = pure () := by kernel_rfl
theorem dq_entry_new : entryFor table "collections.deque.__new__" = some Builtin.«collections.deque.__new__» := entryFor_of_tree (by kernel_rfl)
theorem dq_plain_new : plainId "collections.deque.__new__" = true := by decide +kernel
theorem dq_entry_init : entryFor table "collections.deque.__init__" = some Builtin.«collections.deque.__init__» := entryFor_of_tree (by kernel_rfl)
theorem dq_entry_len : entryFor table "collections.deque.__len__" = some Builtin.«collections.deque.__len__» := entryFor_of_tree (by kernel_rfl)
theorem dq_args_init (a : Value) : argsOk "collections.deque.__init__" ⟨[a], []⟩ := by unfold argsOk; kernel_rfl
theorem dq_args_len (a : Value) : argsOk "collections.deque.__len__" ⟨[a], []⟩ := by unfold argsOk; kernel_rfl
theorem dq_noBool : typeLookup (.type "collections.deque") "__bool__" = pure none := by rw [typeLookup_type, builtinLookup_eq_fast]; kernel_rfl
theorem dq_sub : isSubtype (.type "collections.deque") (.type "collections.deque") = pure true := by rw [isSubtype_type]; kernel_rfl
abbrev dqObj : Obj := { cls := .type "collections.deque", data := .fields #[.none, .int 0 0] }
section
variable {prog : PySem.Program} {w : World} {A : Around} {E : Value → Shared → Prop} {s : Shared} {h₀ : Heap} {L : Addr} {m : PySem.Str → Option Value} {news : List (Addr × Obj)}
theorem dq_code_new {Q₁ : Value → Shared → Prop} (h : Q₁ (.ref s.heap.objs.size) { s with heap := s.heap.push dqObj }) :
    codeAny (model prog w) A (.call (.builtin "collections.deque.__new__") ⟨[.type "collections.deque"], []⟩) (wants Q₁ E) s := by
  refine codeAny_call_builtin dq_plain_new dq_entry_new (wpAny_of_eq dq_newCall ?_)
  unfold Builtin.«collections.deque.__new__» Deque.newArgs
  refine wpAny_bind (wpAny_of_eq (a := (Value.type "collections.deque", [])) (by kernel_rfl) ?_)
  dsimp only
  unfold Deque.new
  refine wpAny_bind ?_
  show wpAny _ _ (do
    let d ← if typeHasDict (.type "collections.deque") then some <$> alloc { cls := .type "dict", data := .dict #[] } else pure none
    newObj (.type "collections.deque") (.fields (#[.none, rawInt 0] ++ #[])) d) _ _ _
  refine wpAny_bind (wpAny_of_eq (a := none) (by kernel_rfl) ?_)
  exact wpAny_newObj_type (wpAny_pure h)
theorem dq_call {Q : Value → Shared → Prop} (F : Fr h₀ L s.heap m) (N : News h₀ L s.heap news)
    (h : ∀ D h', Fr h₀ L h' m → News h₀ L h' ((D, dqObj) :: news) → (∀ p ∈ news, p.1 < D) → Q (.ref D) { s with heap := h' }) :
    wpAny (model prog w) A (call (.type "collections.deque") []) Q E s := by
  refine callType_codes (Q₁ := fun obj s₁ => obj = .ref s.heap.objs.size ∧ s₁ = { s with heap := s.heap.push dqObj }) dq_called dq_typeCall dq_entry_init (dq_code_new ⟨rfl, rfl⟩) ?_
  rintro obj s₁ ⟨rfl, rfl⟩
  have N1 := N.push F dqObj
  have F1 := F.push dqObj
  have hg := (N1 _ (List.mem_cons_self ..)).1
  refine ⟨⟨_, hg, rfl⟩, dq_args_init _, ?_⟩
  unfold Builtin.«collections.deque.__init__»
  refine wpAny_bind (m := setField _ 0 _) (wpAny_setField hg rfl (by decide) ?_)
  have U := news_upd (pre := []) (d := s.heap.objs.size) (o := dqObj) (o' := dqObj) (f := Obj.mapFields (·.setIfInBounds 0 .none)) F1 N1 (by simp) (fun p hp => Nat.ne_of_lt (Heap.lt_size (N p hp).1)) rfl rfl
  have hg2 := (U.2 _ (List.mem_cons_self ..)).1
  refine wpAny_bind ?_
  unfold Deque.clear Deque.items
  refine wpAny_bind (wpAny_bind (wpAny_fieldsOf hg2 rfl (wpAny_pure ?_)))
  refine wpAny_pure (wpAny_pure ⟨rfl, ?_⟩)
  exact h _ _ U.1 U.2 (fun p hp => Heap.lt_size (N p hp).1)
theorem dq_len_body {l : Addr} {Q : Value → Shared → Prop} (hl : s.heap.get? l = some dqObj)
    (h : Q (.int 0 (s.toks + 1)) { s with toks := s.toks + 1 + 1 }) : wpAny (model prog w) A (Builtin.«len» ⟨[.ref l], []⟩) (fun fin s' => ∃ r, fin = .done (.ret r) ∧ Q r s') E s := by
  have hT : s.TypeIs (.ref l) "collections.deque" := ⟨_, hl, rfl⟩
  unfold Builtin.«len»
  refine wpAny_bind (m := oneArg "len" _) (wpAny_pure ?_)
  refine wpAny_bind (m := callSpecial? (.ref l) (Str.ofString "__len__")) (wpAny_callSpecial?_slot (name := Str.ofString "__len__") hT dq_slot_len
    (wpAny_call_entry dq_slot_len hT dq_entry_len ?_ (dq_args_len _)))
  · unfold Builtin.«collections.deque.__len__»
    refine wpAny_bind (wpAny_of_eq (a := (Value.ref l, [])) (by kernel_rfl) ?_)
    unfold Deque.size
    refine wpAny_bind (wpAny_bind (wpAny_fieldsOf hl rfl (wpAny_pure ?_)))
    refine wpAny_bind (wpAny_mkInt (wpAny_pure ⟨_, rfl, ?_⟩))
    refine wpAny_bind (wpAny_holding (wpAny_pure ?_))
    refine wpAny_bind (wpAny_letGo ?_)
    exact wpAny_bind (wpAny_mkInt (wpAny_pure ⟨_, rfl, h⟩))
theorem dq_truthy {l : Addr} {Q : Bool → Shared → Prop} (hl : s.heap.get? l = some dqObj)
    (h : Q false { s with toks := s.toks + 1 + 1 }) : wpAny (model prog w) A (truthy (.ref l)) Q E s := by
  have hT : s.TypeIs (.ref l) "collections.deque" := ⟨_, hl, rfl⟩
  have key : wpAny (model prog w) A (runValue (.builtin "len" ⟨[.ref l], []⟩)) (fun r s' => r = .int 0 (s.toks + 1) ∧ Q false s') E s := by
    refine wpAny_runValue (codeAny_builtin entry_len ?_)
    rw [Around.under_plainId plain_len _]
    exact wpAny_mono (dq_len_body (Q := fun r s' => r = .int 0 (s.toks + 1) ∧ Q false s') hl ⟨rfl, h⟩) (fun fin s' h' => by obtain ⟨r, rfl, hq⟩ := h'; exact hq) fun _ _ e => e
  unfold truthy
  first
    | refine wpAny_bind (wpAny_callSpecial?_none (name := Str.ofString "__bool__") hT dq_noBool ?_)
    | refine wpAny_bind (wpAny_pure (wpAny_bind (wpAny_callSpecial?_none (name := Str.ofString "__bool__") hT dq_noBool ?_)))
  first
    | refine wpAny_bind (wpAny_specialOf (name := Str.ofString "__len__") hT dq_slot_len.lookup ?_)
    | refine wpAny_bind (wpAny_pure (wpAny_bind (wpAny_specialOf (name := Str.ofString "__len__") hT dq_slot_len.lookup ?_)))
  first
    | exact wpAny_bind (wpAny_mono key (fun r s' h' => by obtain ⟨rfl, hq⟩ := h'; exact wpAny_pure hq) fun _ _ e => e)
    | exact wpAny_bind (wpAny_pure (wpAny_bind (wpAny_mono key (fun r s' h' => by obtain ⟨rfl, hq⟩ := h'; exact wpAny_pure hq) fun _ _ e => e)))
end
end Mine
end

section
open PySem PySem.W PySem.Spec PySem.Calls PyProof.Rows PyProof.V
namespace Mine
theorem units_make (A : Around) (a : Args) : (A.under (.builtin "type.__call__" a)).units = A.units + 1 := rfl
end Mine
open Mine
local macro_rules | `(tactic| ktr_units) => `(tactic| (have hcL9 := cLine_is; (try simp only [units_in1, units_deeper, Around.mark_units, units_caller, units_make] at *); (try dsimp only [ktrTop] at *); omega))

section
open PySem PySem.W PySem.Spec PySem.Calls PyProof.Rows PyProof.V
set_option maxRecDepth 100000
set_option maxHeartbeats 0
namespace Mine
local macro_rules | `(tactic| k_room) => `(tactic| ktr_room)

theorem allNe {D : Addr} {l : List (Addr × Obj)} (h : ∀ p ∈ l, p.1 < D) : ∀ p ∈ l, p.1 ≠ D := fun p hp => Nat.ne_of_lt (h p hp)
local macro_rules | `(tactic| k_all) => `(tactic| first | assumption | exact allNe (by assumption))
def rdS (x : PySem.Str) (j : Nat) : PySem.Str := if j < x.length then ⟨#[x.cps.toList.getD j 0]⟩ else Str.ofString ""
def rdP (x : PySem.Str) (j : Nat) : Nat := if j < x.length then j + 1 else j
theorem rd_char {x : PySem.Str} {j : Nat} {q : Int} (h : j < x.length) (hq : q = (j : Int) + 1) : Txt.slice (Txt.slice x (some (j : Int)) (some q) ++ Str.ofString " ") none (some (-1)) = rdS x j := by
  subst hq
  unfold rdS
  rw [if_pos h]
  have hz : x.length = x.cps.toList.length := by simp [Str.length]
  have e1 := slice_plain (x := x) (a := j) (b := j + 1) (by omega) (by omega)
  have e2 : (Txt.slice x (some (j : Int)) (some ((j : Int) + 1))).cps.toList = [x.cps.toList.getD j 0] := by
    rw [show ((j : Int) + 1) = ((j + 1 : Nat) : Int) by omega, e1, show j + 1 - j = 1 by omega, List.drop_eq_getElem_cons (by omega)]
    simp [List.getD_eq_getElem?_getD, List.getElem?_eq_getElem (show j < x.cps.toList.length by omega)]
  have e3 : (Txt.slice x (some (j : Int)) (some ((j : Int) + 1)) ++ Str.ofString " ").cps.toList = [x.cps.toList.getD j 0] ++ [32] := by
    rw [app_toList, e2]; congr 1
  refine str_ext ((slice_init ?_).trans ?_)
  · have : (Txt.slice x (some (j : Int)) (some ((j : Int) + 1)) ++ Str.ofString " ").length = 2 := by
      have := congrArg List.length e3
      simpa [Str.length] using this
    omega
  · rw [e3]; rfl
theorem c_read (w : World) (mean : ExcName → Option Value) (mg mb : PySem.Str → Option Value) (news : CbLed) (X D : Addr) (x : PySem.Str) (j : Nat) (t k1 k2 k3 t1 t2 t3 : Tok) (hl : x.length < 200) (hXD : @LT.lt Nat _ D X) (h1 : ∀ p ∈ news, p.1 ≠ X) (h2 : ∀ p ∈ news, p.1 ≠ D)
    (hp : j ≤ x.length) :
    ∀ {pp : PySem.Program} {ll : List PySem.Str} (dp un : Nat) (gd : Option (List Code)) (cn : PySem.Str) (cs : Scope) (a : Addr) (ccd : Value) (cl : List (PySem.Str × Addr)) (outer : List Env) (A₀ : Around) (base h₀ : Heap) (L : Addr) (m : PySem.Str → Option Value) (s : Shared) (Q E : Value → Shared → Prop),
    Below A₀ base outer h₀ → Fr h₀ L s.heap m → (hk.heap_1 w.params).In h₀ → News h₀ L s.heap ((X, instObj 654 D) :: (D, sioD w.params x (j : Int) k1 k2 k3 t1 t2 t3) :: news) → Top pp ll mean mg mb h₀ → cs.kind = .function →
    dp + 3 < recursionLimit → un + 20 < cLine →
    (∀ (t t3 : Tok) (h' : Heap) (tk' : Nat), Fr h₀ L h' m → News h₀ L h' ((X, instObj 654 D) :: (D, sioD w.params x (rdP x j : Int) k1 k2 k3 t1 t2 t3) :: news) → Q (.str (rdS x j) t) { s with heap := h', toks := tk' }) →
      wpAny (model PySem.Challenge.rw_il0189_01.row.prog w) (ktrTop dp un gd cn cs L a ccd cl outer) (call (.ref 600) [.ref X, Value.int 1 t]) Q E s := by
  k_fill; intros; rename_i hret
  refine wpAny_call ?_
  k_dflt (refine' code_def (binds := [(Str.ofString "self", Value.ref X), (Str.ofString "size", Value.int 1 t)]) ?k1 ?k2 ?k3 ?k4 ?k5 ?kA ?kF ?kK ?k6 ?k7 ?k8 ?k9 ?kB ?_ ?c2 ?c3 ?c4 ?c5; (case kA => exact rfl); (case kF => exact rfl); (case kK => assumption); (case k1 => k_asm); (case k2 => k_asm); (case k3 => k_asm); (case k4 => k_asm); (case k5 => k_asm); (case k6 => k_is); (case k7 => k_is); (case k8 => ktr_room); (case k9 => first | exact BindsTo.of_eq rfl | exact binds_K (by k_in) rfl (by k_is) rfl rfl rfl); (case c5 => decide); (case kB => exact locs rfl); (case c2 => exact rfl); (case c3 => exact rfl); (case c4 => exact rfl); k_whole; intro g' L' h' FG' F' N' B' X' T'; (try dsimp only); (try k_lift B'); (try k_fold))
  k_steps
  · rename_i hge _ _ _ _
    have hj : ¬ j < x.length := by omega
    have e1 : rdS x j = Str.ofString "" := if_neg hj
    have e2 : rdP x j = j := if_neg hj
    rw [e1, e2] at hret
    exact hret _ _ _ _ (by k_asm) (by k_asm)
  all_goals (
    have hj : j < x.length := by omega
    have e2 : ((rdP x j : Nat) : Int) = (j : Int) + 1 := by unfold rdP; rw [if_pos hj]; rfl
    rw [rd_char hj (by omega)]
    rw [e2] at hret
    first
    | exact hret _ _ _ _ (by k_asm) (by k_asm)
    | (have e3 : (x.length : Int) = (j : Int) + 1 := by omega
       rename News _ _ _ _ => N9
       rw [e3] at N9
       exact hret _ _ _ _ (by k_asm) N9))
end Mine
end

section
open PySem PySem.W PySem.Spec PySem.Calls PyProof.Rows PyProof.V
set_option maxRecDepth 100000
set_option maxHeartbeats 0
namespace Mine
theorem fr_named {g h : Heap} {L : Addr} {m : PySem.Str → Option Value} {P : Prop} (_F : Fr g L h m) (k : ∀ (g₁ : Heap) (L₁ : Addr), g₁ = g → L₁ = L → P) : P := k _ _ rfl rfl
theorem pull3s {f : PySem.Str → Option Value} {a b c : PySem.Str} {va vb vc : Option Value} (ha : f a = va) (hb : f b = vb) (hc : f c = vc) : f = fun y => if y = a then va else if y = b then vb else if y = c then vc else f y := by
  funext y
  by_cases e : y = a
  · subst e; simp [ha]
  · by_cases e2 : y = b
    · subst e2; simp [e, hb]
    · by_cases e3 : y = c
      · subst e3; simp [e, e2, hc]
      · simp [e, e2, e3]
/-- the tokens of the lexer's dict that nothing changes -/
abbrev lexD (P : Params) (ks : Nat → Tok) (X pb fs : Addr) (st : Value) (tok : PySem.Str) (v15 : Tok) : Obj := dictOf [⟨PyData.keyHash P (Str.ofString "instream"), .str (Str.ofString "instream") (ks 0), .ref X⟩,
  ⟨PyData.keyHash P (Str.ofString "infile"), .str (Str.ofString "infile") (ks 1), .none⟩,
  ⟨PyData.keyHash P (Str.ofString "posix"), .str (Str.ofString "posix") (ks 2), .bool true⟩,
  ⟨PyData.keyHash P (Str.ofString "eof"), .str (Str.ofString "eof") (ks 3), .none⟩,
  ⟨PyData.keyHash P (Str.ofString "commenters"), .str (Str.ofString "commenters") (ks 4), .str (Str.ofString "") (ks 19)⟩,
  ⟨PyData.keyHash P (Str.ofString "wordchars"), .str (Str.ofString "wordchars") (ks 5), .str (Str.ofString "abcdfeghijklmnopqrstuvwxyzABCDEFGHIJKLMNOPQRSTUVWXYZ0123456789_ßàáâãäåæçèéêëìíîïðñòóôõöøùúûüýþÿÀÁÂÃÄÅÆÇÈÉÊËÌÍÎÏÐÑÒÓÔÕÖØÙÚÛÜÝÞ") (ks 20)⟩,
  ⟨PyData.keyHash P (Str.ofString "whitespace"), .str (Str.ofString "whitespace") (ks 6), .str (Str.ofString " \t\x0d\n") (ks 21)⟩,
  ⟨PyData.keyHash P (Str.ofString "whitespace_split"), .str (Str.ofString "whitespace_split") (ks 7), .bool true⟩,
  ⟨PyData.keyHash P (Str.ofString "quotes"), .str (Str.ofString "quotes") (ks 8), .str (Str.ofString "'\"") (ks 22)⟩,
  ⟨PyData.keyHash P (Str.ofString "escape"), .str (Str.ofString "escape") (ks 9), .str (Str.ofString "\\") (ks 23)⟩,
  ⟨PyData.keyHash P (Str.ofString "escapedquotes"), .str (Str.ofString "escapedquotes") (ks 10), .str (Str.ofString "\"") (ks 24)⟩,
  ⟨PyData.keyHash P (Str.ofString "state"), .str (Str.ofString "state") (ks 11), st⟩,
  ⟨PyData.keyHash P (Str.ofString "pushback"), .str (Str.ofString "pushback") (ks 12), .ref pb⟩,
  ⟨PyData.keyHash P (Str.ofString "lineno"), .str (Str.ofString "lineno") (ks 13), .int 1 (ks 25)⟩,
  ⟨PyData.keyHash P (Str.ofString "debug"), .str (Str.ofString "debug") (ks 14), .int 0 (ks 26)⟩,
  ⟨PyData.keyHash P (Str.ofString "token"), .str (Str.ofString "token") (ks 15), .str tok v15⟩,
  ⟨PyData.keyHash P (Str.ofString "filestack"), .str (Str.ofString "filestack") (ks 16), .ref fs⟩,
  ⟨PyData.keyHash P (Str.ofString "source"), .str (Str.ofString "source") (ks 17), .none⟩,
  ⟨PyData.keyHash P (Str.ofString "_punctuation_chars"), .str (Str.ofString "_punctuation_chars") (ks 18), .str (Str.ofString "") (ks 27)⟩] 19

section
variable {prog : PySem.Program} {w : World} {A : Around} {E : Value → Shared → Prop} {Q : Flow → Shared → Prop} {s : Shared} {env : Env} {h₀ : Heap} {L : Addr} {test : Expr} {body : List Stmt} {pos : Pos} {m : PySem.Str → Option Value} {news : List (Addr × Obj)}
def exitN (X : Shared → Prop) (Q : Flow → Shared → Prop) (f : Flow) (s : Shared) : Prop := match f with | .next => X s | f => Q f s
/-- a while that is left by a break alone; what a turn's end wants is any QQ -/
theorem while_exit (J : Nat → (PySem.Str → Option Value) → List (Addr × Obj) → Prop) (X : Shared → Prop) {n₀ : Nat}
    (F : Fr h₀ L s.heap m) (N : News h₀ L s.heap news) (hJ : J n₀ m news)
    (turn : ∀ n m₁ news₁ h₁ tk₁ (QQ : Flow → Shared → Prop), (∀ (h' : Heap) (n' tk : Nat) (m₂ : PySem.Str → Option Value) (news₂ : List (Addr × Obj)), Fr h₀ L h' m₂ → News h₀ L h' news₂ → n' < n → J n' m₂ news₂ → QQ .next { s with heap := h', toks := tk }) → (∀ s₃, X s₃ → QQ .brk s₃) →
      Fr h₀ L h₁ m₁ → News h₀ L h₁ news₁ → J n m₁ news₁ →
      wpAny (model prog w) A (isTrue test env (eval test env)) (fun b s₂ => if b = true then wpAny (model prog w) A (execs body env) QQ E s₂ else X s₂) E { s with heap := h₁, toks := tk₁ })
    (hX : ∀ s', X s' → Q .next s') (hE : PassesOwn (model prog w) A env E := by passes_own) :
    wpAny (model prog w) A (exec (.While test body [] pos) env) Q E s :=
  wpAny_mono (While_inv2 (Q := exitN X Q) J F N hJ (fun n m₁ news₁ h₁ tk₁ F₁ N₁ j => turn n m₁ news₁ h₁ tk₁ _ (fun h' n' tk m₂ news₂ F N hn hJ => ⟨h', tk, m₂, news₂, n', rfl, F, N, hn, hJ⟩) (fun _ h => h) F₁ N₁ j) hE)
    (fun f s' h => by cases f <;> first | exact hX _ h | exact h) fun _ _ e => e
end
local macro_rules | `(tactic| k_room) => `(tactic| ktr_room)

local macro_rules | `(tactic| k_all) => `(tactic| first | assumption | (refine allNe ?_; assumption))
theorem fit200 {n : Nat} (h : n < 200) : ¬ ((n : Int) ≥ 2 ^ 63) := by omega
theorem truthy_one {prog : PySem.Program} {w : World} {A : Around} {E : Value → Shared → Prop} {s : Shared} {c : Nat} {t : Tok} {Q : Bool → Shared → Prop} (h : Q true { s with toks := s.toks + 1 + 1 }) : wpAny (model prog w) A (truthy (.str ⟨#[c]⟩ t)) Q E s :=
  P.truthy_str (fit64 (show (1 : Nat) < 64 by decide)) h
section
variable {prog : PySem.Program} {w : World} {A : Around} {E : Value → Shared → Prop} {s : Shared} {x : PySem.Str} {t : Tok}
theorem ts200 {Q : Bool → Shared → Prop} (h : Q ((x.length : Int) != 0) { s with toks := s.toks + 1 + 1 }) (hl : x.length < 200 := by assumption) : wpAny (model prog w) A (truthy (.str x t)) Q E s := P.truthy_str (fit200 hl) h
end
local macro_rules | `(tactic| walk_at "truthy str") => `(tactic| (k_here; first | refine truthy_one ?_ | refine ts200 ?_))
local macro_rules | `(tactic| walk_at "exec While") => `(tactic| (refine Stop.out ?_))
local macro_rules | `(tactic| walk_at "call ref") => `(tactic| (k_here; with_reducible refine stopC 600 ?_))
section
variable {prog : PySem.Program} {w : World} {A : Around} {E : Value → Shared → Prop} {s : Shared} {x y : PySem.Str} {t u : Tok} {b : Bool} {Q : Value → Shared → Prop}
theorem inq (e : (!(Builtin.Str.occurrences x y 0 x.length 1).isEmpty) = b) (h : Q (.bool b) s) : wpAny (model prog w) A (compareOp .In (.str y u) (.str x t)) Q E s := in_str (by rw [e]; exact h)
theorem ninq (e : (!(!(Builtin.Str.occurrences x y 0 x.length 1).isEmpty)) = b) (h : Q (.bool b) s) : wpAny (model prog w) A (compareOp .NotIn (.str y u) (.str x t)) Q E s := notIn_str (by rw [e]; exact h)
end
theorem fr_eq {h₀ h : Heap} {L : Addr} {m m' : PySem.Str → Option Value} (F : Fr h₀ L h m) (e : m = m') : Fr h₀ L h m' := e ▸ F
theorem news_tail {h₀ h : Heap} {L : Addr} {a : Addr × Obj} {l : List (Addr × Obj)} (N : News h₀ L h (a :: l)) : News h₀ L h l := fun p hp => N p (List.mem_cons_of_mem _ hp)
theorem toS_len {l : List Nat} (h : l.length < 200) : (toS l).length < 200 := by
  have : (toS l).length = l.length := by simp [toS, Str.length]
  omega
theorem tok_next {l : List Nat} {i : Nat} {tok : PySem.Str} (hi : i < l.length) (h : tok = toS (l.take i)) : tok ++ ⟨#[l.getD i 0]⟩ = toS (l.take (i + 1)) := by
  subst h
  refine str_ext ?_
  rw [app_toList, List.take_add_one, List.getD_eq_getElem?_getD, List.getElem?_eq_getElem hi]
  simp [toS]
theorem eq_no {prog : PySem.Program} {w : World} {A : Around} {E : Value → Shared → Prop} {s : Shared} {c : Nat} {t u : Tok} {Q : Value → Shared → Prop} (hc : safeC c = true) (h : Q (.bool false) s) :
    wpAny (model prog w) A (compareOp .Eq (.str ⟨#[c]⟩ t) (.str (Str.ofString "\n") u)) Q E s := by
  refine eq_str ?_
  have e : ((⟨#[c]⟩ : PySem.Str) == Str.ofString "\n") = false := by
    rcases safe_cases hc with rfl | rfl | rfl | rfl | rfl | rfl | rfl | rfl | rfl | rfl | rfl | rfl | rfl | rfl | rfl | rfl | rfl <;> decide +kernel
  rw [e]; exact h
local macro_rules | `(tactic| walk_at "compareOp Eq str str") => `(tactic| (k_here; refine eq_no (by assumption) ?_))
theorem occ_at {x : PySem.Str} {c : Nat} : (!(Builtin.Str.occurrences x ⟨#[c]⟩ 0 x.length 1).isEmpty) = decide (c ∈ x.cps.toList) := by rw [empty_one, Bool.not_not]
theorem in_ws {c : Nat} (h : safeC c = true) : (!(Builtin.Str.occurrences (Str.ofString " \t\x0d\n") ⟨#[c]⟩ 0 (Str.ofString " \t\x0d\n").length 1).isEmpty) = false := by
  rw [occ_at]
  rcases safe_cases h with rfl | rfl | rfl | rfl | rfl | rfl | rfl | rfl | rfl | rfl | rfl | rfl | rfl | rfl | rfl | rfl | rfl <;> decide +kernel
theorem in_qu {c : Nat} (h : safeC c = true) : (!(Builtin.Str.occurrences (Str.ofString "'\"") ⟨#[c]⟩ 0 (Str.ofString "'\"").length 1).isEmpty) = false := by
  rw [occ_at]
  rcases safe_cases h with rfl | rfl | rfl | rfl | rfl | rfl | rfl | rfl | rfl | rfl | rfl | rfl | rfl | rfl | rfl | rfl | rfl <;> decide +kernel
theorem in_es {c : Nat} (h : safeC c = true) : (!(Builtin.Str.occurrences (Str.ofString "\\") ⟨#[c]⟩ 0 (Str.ofString "\\").length 1).isEmpty) = false := by
  rw [occ_at]
  rcases safe_cases h with rfl | rfl | rfl | rfl | rfl | rfl | rfl | rfl | rfl | rfl | rfl | rfl | rfl | rfl | rfl | rfl | rfl <;> decide +kernel
theorem in_no {c : Nat} : (!(Builtin.Str.occurrences (Str.ofString "") ⟨#[c]⟩ 0 (Str.ofString "").length 1).isEmpty) = false := by
  rw [occ_at]
  have : (Str.ofString "").cps.toList = [] := by decide +kernel
  rw [this]; simp
theorem nin_no {c : Nat} : (!(!(Builtin.Str.occurrences (Str.ofString "") ⟨#[c]⟩ 0 (Str.ofString "").length 1).isEmpty)) = true := by rw [in_no]; rfl
section
variable {prog : PySem.Program} {w : World} {A : Around} {E : Value → Shared → Prop} {s : Shared} {x y : PySem.Str} {c : Nat} {t u : Tok} {b : Bool} {Q : Value → Shared → Prop}
theorem inWs (h : Q (.bool false) s) (hc : safeC c = true := by assumption) : wpAny (model prog w) A (compareOp .In (.str ⟨#[c]⟩ u) (.str (Str.ofString " \t\x0d\n") t)) Q E s := inq (in_ws hc) h
theorem inQu (h : Q (.bool false) s) (hc : safeC c = true := by assumption) : wpAny (model prog w) A (compareOp .In (.str ⟨#[c]⟩ u) (.str (Str.ofString "'\"") t)) Q E s := inq (in_qu hc) h
theorem inEs (h : Q (.bool false) s) (hc : safeC c = true := by assumption) : wpAny (model prog w) A (compareOp .In (.str ⟨#[c]⟩ u) (.str (Str.ofString "\\") t)) Q E s := inq (in_es hc) h
theorem inNo (h : Q (.bool false) s) : wpAny (model prog w) A (compareOp .In (.str ⟨#[c]⟩ u) (.str (Str.ofString "") t)) Q E s := inq in_no h
theorem inF (h : Q (.bool false) s) (e : (!(Builtin.Str.occurrences x y 0 x.length 1).isEmpty) = false := by decide +kernel) : wpAny (model prog w) A (compareOp .In (.str y u) (.str x t)) Q E s := inq e h
theorem inT (h : Q (.bool true) s) (e : (!(Builtin.Str.occurrences x y 0 x.length 1).isEmpty) = true := by decide +kernel) : wpAny (model prog w) A (compareOp .In (.str y u) (.str x t)) Q E s := inq e h
theorem ninNo (h : Q (.bool true) s) : wpAny (model prog w) A (compareOp .NotIn (.str ⟨#[c]⟩ u) (.str (Str.ofString "") t)) Q E s := ninq nin_no h
theorem ninF (h : Q (.bool false) s) (e : (!(!(Builtin.Str.occurrences x y 0 x.length 1).isEmpty)) = false := by decide +kernel) : wpAny (model prog w) A (compareOp .NotIn (.str y u) (.str x t)) Q E s := ninq e h
theorem ninT (h : Q (.bool true) s) (e : (!(!(Builtin.Str.occurrences x y 0 x.length 1).isEmpty)) = true := by decide +kernel) : wpAny (model prog w) A (compareOp .NotIn (.str y u) (.str x t)) Q E s := ninq e h
end
local macro_rules | `(tactic| walk_at "compareOp In str str") => `(tactic| (k_here; first | refine inWs ?_ | refine inQu ?_ | refine inEs ?_ | refine inNo ?_ | refine inF ?_ | refine inT ?_ | refine in_str ?_))
local macro_rules | `(tactic| walk_at "compareOp NotIn str str") => `(tactic| (k_here; first | refine ninNo ?_ | refine ninF ?_ | refine ninT ?_ | refine notIn_str ?_))
/-- the room that a call of the lexer's stands in -/
abbrev Led (P : Params) (ks : Nat → Tok) (X D lx d pb fs : Addr) (x : PySem.Str) (j : Int) (q1 q2 q3 t1 t2 t3 : Tok) (st : Value) (tok : PySem.Str) (v15 : Tok) (news : List (Addr × Obj)) : List (Addr × Obj) :=
  (X, instObj 654 D) :: (D, sioD P x j q1 q2 q3 t1 t2 t3) :: (lx, instObj 789 d) :: (d, lexD P ks X pb fs st tok v15) :: (pb, dqObj) :: (fs, dqObj) :: news

/-- between two turns of read_token's loop -/
def rtJ (P : Params) (ks : Nat → Tok) (X D lx d pb fs : Addr) (x : PySem.Str) (j : Nat) (q1 q2 q3 t1 t2 : Tok) (wd : List Nat) (news : CbLed) (n : Nat) (m₁ : PySem.Str → Option Value) (ns : List (Addr × Obj)) : Prop :=
  ∃ (u : PySem.Str → Option Value) (te : Tok) (u3 v15 ts : Tok), m₁ = (fun y => if y = Str.ofString "quoted" then some (Value.bool false) else if y = Str.ofString "escapedstate" then some (Value.str (Str.ofString " ") te) else if y = Str.ofString "self" then some (Value.ref lx) else u y) ∧
      ((ns = Led P ks X D lx d pb fs x (j : Int) q1 q2 q3 t1 t2 u3 (.str (Str.ofString " ") ts) (Str.ofString "") v15 news ∧ n = wd.length + 2) ∨ ∃ i tok, 1 ≤ i ∧ i ≤ wd.length ∧ tok = toS (wd.take i) ∧ tok.length < 200 ∧ ns = Led P ks X D lx d pb fs x ((j + i : Nat) : Int) q1 q2 q3 t1 t2 u3 (.str (Str.ofString "a") ts) tok v15 news ∧ n = wd.length + 1 - i)
/-- behind it -/
def rtX (P : Params) (ks : Nat → Tok) (X D lx d pb fs : Addr) (x : PySem.Str) (j : Nat) (q1 q2 q3 t1 t2 : Tok) (wd tl : List Nat) (news : CbLed) (s : Shared) (g₁ : Heap) (L₁ : Addr) (s' : Shared) : Prop :=
  ∃ (h' : Heap) (tk' : Nat) (u : PySem.Str → Option Value) (te : Tok) (st : Value) (u3 v15 ts : Tok) (pe : Int) (tz : PySem.Str), s' = { heap := h', gens := s.gens, drawn := s.drawn, toks := tk', os := s.os } ∧ Fr g₁ L₁ h' (fun y => if y = Str.ofString "quoted" then some (Value.bool false) else if y = Str.ofString "escapedstate" then some (Value.str (Str.ofString " ") te) else if y = Str.ofString "self" then some (Value.ref lx) else u y) ∧ News g₁ L₁ h' (Led P ks X D lx d pb fs x pe q1 q2 q3 t1 t2 u3 st tz v15 news) ∧ pe = ((if tl = [] then x.length else j + wd.length + 1 : Nat) : Int) ∧ tz = toS wd ∧ st = (if tl = [] then .none else .str (Str.ofString " ") ts)
theorem c_rt (w : World) (mean : ExcName → Option Value) (mg mb : PySem.Str → Option Value) (news : CbLed) (ks : Nat → Tok) (q1 q2 q3 t1 t2 t3 v15 ts : Tok) (X D lx d pb fs : Addr) (x : PySem.Str) (j : Nat) (wd tl : List Nat) (hl : x.length < 200)
    (o1 : @LT.lt Nat _ d lx) (o2 : @LT.lt Nat _ lx D) (o3 : @LT.lt Nat _ D X) (o4 : @LT.lt Nat _ X pb) (o5 : @LT.lt Nat _ pb fs)
    (a1 : ∀ p ∈ news, p.1 ≠ d) (a2 : ∀ p ∈ news, p.1 ≠ lx) (a3 : ∀ p ∈ news, p.1 ≠ D) (a4 : ∀ p ∈ news, p.1 ≠ X) (a5 : ∀ p ∈ news, p.1 ≠ pb) (a6 : ∀ p ∈ news, p.1 ≠ fs)
    (hx : x.cps.toList.drop j = wd ++ tl) (hw : wd.head? = some 61) (hs : ∀ c ∈ wd, safeC c = true) (ht : tl = [] ∨ ∃ r, tl = 32 :: r) :
    ∀ {pp : PySem.Program} {ll : List PySem.Str} (dp un : Nat) (gd : Option (List Code)) (cn : PySem.Str) (cs : Scope) (a : Addr) (ccd : Value) (cl : List (PySem.Str × Addr)) (outer : List Env) (A₀ : Around) (base h₀ : Heap) (L : Addr) (m : PySem.Str → Option Value) (s : Shared) (Q E : Value → Shared → Prop),
    Below A₀ base outer h₀ → Fr h₀ L s.heap m → (hk.heap_1 w.params).In h₀ → News h₀ L s.heap (Led w.params ks X D lx d pb fs x (j : Int) q1 q2 q3 t1 t2 t3 (.str (Str.ofString " ") ts) (Str.ofString "") v15 news) → Top pp ll mean mg mb h₀ → cs.kind = .function →
    dp + 6 < recursionLimit → un + 50 < cLine →
    (∀ (t t3 ts v15 : Tok) (st : Value) (h' : Heap) (tk' : Nat), st = (if tl = [] then .none else .str (Str.ofString " ") ts) → Fr h₀ L h' m → News h₀ L h' (Led w.params ks X D lx d pb fs x ((if tl = [] then x.length else j + wd.length + 1 : Nat) : Int) q1 q2 q3 t1 t2 t3 st (Str.ofString "") v15 news) → Q (.str (toS wd) t) { s with heap := h', toks := tk' }) →
      wpAny (model PySem.Challenge.rw_il0189_01.row.prog w) (ktrTop dp un gd cn cs L a ccd cl outer) (call (.ref 757) [.ref lx]) Q E s := by
  k_fill; intro pp ll dp un gd cn cs a ccd cl outer A₀ base h₀ L m s Q E; intros; rename_i hret
  refine wpAny_call ?_
  k_dflt (refine' code_def (binds := [(Str.ofString "self", Value.ref lx)]) ?k1 ?k2 ?k3 ?k4 ?k5 ?kA ?kF ?kK ?k6 ?k7 ?k8 ?k9 ?kB ?_ ?c2 ?c3 ?c4 ?c5; (case kA => exact rfl); (case kF => exact rfl); (case kK => assumption); (case k1 => k_asm); (case k2 => k_asm); (case k3 => k_asm); (case k4 => k_asm); (case k5 => k_asm); (case k6 => k_is); (case k7 => k_is); (case k8 => ktr_room); (case k9 => first | exact BindsTo.of_eq rfl | exact binds_K (by k_in) rfl (by k_is) rfl rfl rfl); (case c5 => decide); (case kB => exact locs rfl); (case c2 => exact rfl); (case c3 => exact rfl); (case c4 => exact rfl); k_whole; intro g' L' h' FG' F' N' B' X' T'; (try dsimp only); (try k_lift B'); (try k_fold))
  k_steps
  refine Stop.into ?_
  rename Fr _ _ _ _ => F1
  refine fr_named F1 ?_
  rintro g₁ L₁ rfl rfl
  rename News _ _ _ _ => N1
  have hlen : j + wd.length + tl.length = x.length := by
    have h := congrArg List.length hx
    rw [List.length_drop, Array.length_toList, List.length_append] at h
    have hz : x.length = x.cps.size := rfl
    have : 0 < wd.length := by cases wd with | nil => cases hw | cons _ _ => simp
    omega
  have hwl : 0 < wd.length := by cases wd with | nil => cases hw | cons _ _ => simp
  have hg : ∀ i, i < wd.length → x.cps.toList.getD (j + i) 0 = wd.getD i 0 := by
    intro i hi
    rw [getD_drop, hx, List.getD_eq_getElem?_getD, List.getElem?_append_left hi, ← List.getD_eq_getElem?_getD]
  refine' while_exit (n₀ := wd.length + 2) (rtJ w.params ks X D lx d pb fs x j q1 q2 q3 t1 t2 wd news) (rtX w.params ks X D lx d pb fs x j q1 q2 q3 t1 t2 wd tl news s g₁ L₁) F1 N1 ?hJ ?turn ?hX
  case hJ => exact ⟨_, _, _, _, _, pull3s (by with_unfolding_all rfl) (by with_unfolding_all rfl) (by with_unfolding_all rfl), .inl ⟨rfl, rfl⟩⟩
  case turn =>
    intro n m₁ ns h₁ tk₁ QQ hN hB F4 N4 hJ
    refine hide fun P0 hP0 => ?_
    obtain ⟨u, te, u3, v15, ts, rfl, ⟨rfl, rfl⟩ | ⟨i, tok, hi1, hi2, htok, hz, rfl, rfl⟩⟩ := hJ
    · refine hP0 ?_
      clear hP0 F1 N1
      k_steps
      refine Stop.into ?_
      k_dflt (refine' c_read _ _ _ _ _ _ _ _ _ _ _ _ _ _ _ _ ?hl ?hXD ?h1 ?h2 ?hp _ _ _ _ _ _ _ _ _ _ _ _ _ _ _ _ _ ?k1 ?k2 ?k3 ?k4 ?k5 ?kK ?kd ?ku ?kR)
      (case k1 => k_asm)
      (case k2 => k_asm)
      (case k3 => k_asm)
      (case k4 => k_asm)
      (case hl => assumption)
      (case hXD => assumption)
      (case h1 => k_all)
      (case h2 => k_all)
      (case hp => omega)
      (case k5 => k_asm)
      (case kK => first | exact rfl | assumption)
      (case kd => ktr_room)
      (case ku => ktr_units)
      intro t9 t39 h9 tk9 F9 N9
      have e1 : rdS x j = Str.ofString "=" := by
        unfold rdS
        rw [if_pos (by omega)]
        have h := hg 0 hwl
        rw [Nat.add_zero] at h
        rw [h]
        cases wd with
        | nil => cases hw
        | cons c r => cases hw; show (⟨#[61]⟩ : PySem.Str) = _; decide +kernel
      have e2 : rdP x j = j + 1 := if_pos (by omega)
      rw [e1]
      rw [e2] at N9
      clear e1 e2
      k_steps
      rename Fr _ _ _ _ => F5
      rename News _ _ _ _ => N5
      refine hN _ wd.length _ _ _ F5 N5 (by omega) ?_
      refine' ⟨_, _, _, _, _, pull3s (by with_unfolding_all rfl) (by with_unfolding_all rfl) (by with_unfolding_all rfl), .inr ⟨1, Str.ofString "=", by omega, by omega, ?e, by decide +kernel, rfl, by omega⟩⟩
      case e =>
        cases wd with
        | nil => cases hw
        | cons c r => cases hw; show _ = (⟨#[61]⟩ : PySem.Str); decide +kernel
    · refine hP0 ?_
      clear hP0 F1
      k_steps
      refine Stop.into ?_
      k_dflt (refine' c_read _ _ _ _ _ _ _ _ _ _ _ _ _ _ _ _ ?hlb ?hXDb ?h1b ?h2b ?hpb _ _ _ _ _ _ _ _ _ _ _ _ _ _ _ _ _ ?k1b ?k2b ?k3b ?k4b ?k5b ?kKb ?kdb ?kub ?kRb)
      (case k1b => k_asm)
      (case k2b => k_asm)
      (case k3b => k_asm)
      (case k4b => k_asm)
      (case hlb => assumption)
      (case hXDb => assumption)
      (case h1b => k_all)
      (case h2b => k_all)
      (case hpb => omega)
      (case k5b => k_asm)
      (case kKb => first | exact rfl | assumption)
      (case kdb => ktr_room)
      (case kub => ktr_units)
      intro t9 t39 h9 tk9 F9 N9
      rcases Nat.lt_or_ge i wd.length with hi | hi
      · have hc : safeC (wd.getD i 0) = true := hs _ (by rw [List.getD_eq_getElem?_getD, List.getElem?_eq_getElem hi]; exact List.getElem_mem ..)
        have e1 : rdS x (j + i) = ⟨#[wd.getD i 0]⟩ := by unfold rdS; rw [if_pos (by omega), hg i hi]
        have e2 : rdP x (j + i) = j + (i + 1) := by unfold rdP; rw [if_pos (by omega)]; omega
        rw [e1]
        rw [e2] at N9
        clear e1 e2
        k_steps
        all_goals (
          rename Fr _ _ _ _ => F5
          rename News _ _ _ _ => N5
          refine hN _ (wd.length - i) _ _ _ F5 (news_tail N5) (by omega) ?_
          refine' ⟨_, _, _, _, _, pull3s (by with_unfolding_all rfl) (by with_unfolding_all rfl) (by with_unfolding_all rfl), .inr ⟨i + 1, tok ++ ⟨#[wd.getD i 0]⟩, by omega, by omega, tok_next hi htok, ?_, rfl, by omega⟩⟩
          rw [tok_next hi htok]
          exact toS_len (by rw [List.length_take]; omega))
      · have hi' : i = wd.length := by omega
        have htw : tok = toS wd := by rw [htok, hi', List.take_length]
        have htl : tok.length = wd.length := by rw [htw]; rfl
        rcases ht with ht | ⟨r, ht⟩
        · have hlx : j + i = x.length := by rw [ht] at hlen; simp at hlen; omega
          have e1 : rdS x (j + i) = Str.ofString "" := by unfold rdS; rw [if_neg (by omega)]
          have e2 : rdP x (j + i) = x.length := by unfold rdP; rw [if_neg (by omega)]; exact hlx
          rw [e1]
          rw [e2] at N9
          clear e1 e2
          k_steps
          rename Fr _ _ _ _ => F5
          rename News _ _ _ _ => N5
          refine hB _ ?_
          exact ⟨_, _, _, _, _, _, _, ts, _, _, rfl, fr_eq F5 (pull3s (by with_unfolding_all rfl) (by with_unfolding_all rfl) (by with_unfolding_all rfl)), news_tail N5, by rw [if_pos ht], htw, (if_pos ht).symm⟩
        · have hlx : j + i < x.length := by rw [ht] at hlen; simp at hlen; omega
          have e1 : rdS x (j + i) = Str.ofString " " := by
            unfold rdS
            rw [if_pos (by omega)]
            have : x.cps.toList.getD (j + i) 0 = 32 := by
              rw [getD_drop, hx, hi', ht, List.getD_eq_getElem?_getD, List.getElem?_append_right (Nat.le_refl _), Nat.sub_self]; rfl
            rw [this]; decide +kernel
          have e2 : rdP x (j + i) = j + wd.length + 1 := by unfold rdP; rw [if_pos (by omega)]; omega
          rw [e1]
          rw [e2] at N9
          clear e1 e2
          k_steps
          · rename Fr _ _ _ _ => F5
            rename News _ _ _ _ => N5
            have hne : ¬ tl = [] := by rw [ht]; simp
            refine hB _ ?_
            exact ⟨_, _, _, _, _, _, _, _, _, _, rfl, fr_eq F5 (pull3s (by with_unfolding_all rfl) (by with_unfolding_all rfl) (by with_unfolding_all rfl)), news_tail N5, by rw [if_neg hne], htw, (if_neg hne).symm⟩
          · exfalso
            have : 0 < wd.length := hwl
            omega
  case hX =>
    intro s' hX9
    refine hide fun P0 hP0 => ?_
    obtain ⟨h9, tk9, u, te, st, u3, v15, ts, pe, tok, rfl, F9, N9, hpe, htok, hst⟩ := hX9
    refine hP0 ?_
    clear hP0
    have htl : tok.length < 200 := by rw [htok]; exact toS_len (by omega)
    have htl2 : 0 < tok.length := by rw [htok]; show 0 < wd.toArray.size; simpa using hwl
    clear F1 N1
    k_steps
    · exfalso
      rename (tok == Str.ofString "") = true => hh
      have := eq_of_beq hh
      rw [this] at htl2
      revert htl2; decide +kernel
    · rename Fr h₀ _ _ _ => F5
      rename News h₀ _ _ _ => N5
      rw [← htok, ← hpe] at hret
      exact hret _ _ _ _ _ _ _ hst F5 N5
end Mine
end

section
open PySem PySem.W PySem.Spec PySem.Calls PyProof.Rows PyProof.V
set_option maxRecDepth 100000
set_option maxHeartbeats 0
namespace Mine
theorem ngt {h₀ h : Heap} {L a : Addr} {o : Obj} {news : List (Addr × Obj)} (N : News h₀ L h news) (hm : (a, o) ∈ news) : h.get? a = some o := (N _ hm).1
local macro_rules | `(tactic| k_room) => `(tactic| ktr_room)
local macro_rules | `(tactic| k_all) => `(tactic| first | assumption | (refine allNe ?_; assumption))
local macro_rules | `(tactic| walk_at "truthy str") => `(tactic| (k_here; first | refine truthy_one ?_ | refine ts200 ?_))
local macro_rules | `(tactic| walk_at "exec While") => `(tactic| (refine Stop.out ?_))
local macro_rules | `(tactic| walk_at "call ref") => `(tactic| (k_here; with_reducible refine stopC 600 ?_))
theorem c_rt0 (w : World) (mean : ExcName → Option Value) (mg mb : PySem.Str → Option Value) (news : CbLed) (ks : Nat → Tok) (q1 q2 q3 t1 t2 t3 v15 : Tok) (X D lx d pb fs : Addr) (x : PySem.Str) (hl : x.length < 200)
    (o1 : @LT.lt Nat _ d lx) (o2 : @LT.lt Nat _ lx D) (o3 : @LT.lt Nat _ D X) (o4 : @LT.lt Nat _ X pb) (o5 : @LT.lt Nat _ pb fs)
    (a1 : ∀ p ∈ news, p.1 ≠ d) (a2 : ∀ p ∈ news, p.1 ≠ lx) (a3 : ∀ p ∈ news, p.1 ≠ D) (a4 : ∀ p ∈ news, p.1 ≠ X) (a5 : ∀ p ∈ news, p.1 ≠ pb) (a6 : ∀ p ∈ news, p.1 ≠ fs) :
    ∀ {pp : PySem.Program} {ll : List PySem.Str} (dp un : Nat) (gd : Option (List Code)) (cn : PySem.Str) (cs : Scope) (a : Addr) (ccd : Value) (cl : List (PySem.Str × Addr)) (outer : List Env) (A₀ : Around) (base h₀ : Heap) (L : Addr) (m : PySem.Str → Option Value) (s : Shared) (Q E : Value → Shared → Prop),
    Below A₀ base outer h₀ → Fr h₀ L s.heap m → (hk.heap_1 w.params).In h₀ → News h₀ L s.heap (Led w.params ks X D lx d pb fs x ((x.length : Nat) : Int) q1 q2 q3 t1 t2 t3 .none (Str.ofString "") v15 news) → Top pp ll mean mg mb h₀ → cs.kind = .function →
    dp + 6 < recursionLimit → un + 50 < cLine →
    (∀ (t3 v15 : Tok) (h' : Heap) (tk' : Nat), Fr h₀ L h' m → News h₀ L h' (Led w.params ks X D lx d pb fs x ((x.length : Nat) : Int) q1 q2 q3 t1 t2 t3 .none (Str.ofString "") v15 news) → Q .none { s with heap := h', toks := tk' }) →
      wpAny (model PySem.Challenge.rw_il0189_01.row.prog w) (ktrTop dp un gd cn cs L a ccd cl outer) (call (.ref 757) [.ref lx]) Q E s := by
  k_fill; intro pp ll dp un gd cn cs a ccd cl outer A₀ base h₀ L m s Q E; intros; rename_i hret
  refine wpAny_call ?_
  k_dflt (refine' code_def (binds := [(Str.ofString "self", Value.ref lx)]) ?k1 ?k2 ?k3 ?k4 ?k5 ?kA ?kF ?kK ?k6 ?k7 ?k8 ?k9 ?kB ?_ ?c2 ?c3 ?c4 ?c5; (case kA => exact rfl); (case kF => exact rfl); (case kK => assumption); (case k1 => k_asm); (case k2 => k_asm); (case k3 => k_asm); (case k4 => k_asm); (case k5 => k_asm); (case k6 => k_is); (case k7 => k_is); (case k8 => ktr_room); (case k9 => first | exact BindsTo.of_eq rfl | exact binds_K (by k_in) rfl (by k_is) rfl rfl rfl); (case c5 => decide); (case kB => exact locs rfl); (case c2 => exact rfl); (case c3 => exact rfl); (case c4 => exact rfl); k_whole; intro g' L' h' FG' F' N' B' X' T'; (try dsimp only); (try k_lift B'); (try k_fold))
  k_steps
  refine Stop.into ?_
  rename Fr _ _ _ _ => F1
  refine fr_named F1 ?_
  rintro g₁ L₁ rfl rfl
  rename News _ _ _ _ => N1
  refine' while_exit (n₀ := 0) (fun n m₁ ns => ∃ (u : PySem.Str → Option Value) (te : Tok), m₁ = (fun y => if y = Str.ofString "quoted" then some (Value.bool false) else if y = Str.ofString "escapedstate" then some (Value.str (Str.ofString " ") te) else if y = Str.ofString "self" then some (Value.ref lx) else u y) ∧ ns = Led w.params ks X D lx d pb fs x ((x.length : Nat) : Int) q1 q2 q3 t1 t2 t3 .none (Str.ofString "") v15 news)
    (fun s' => ∃ (h' : Heap) (tk' : Nat) (u : PySem.Str → Option Value) (te : Tok) (u3 v15 : Tok), s' = { heap := h', gens := s.gens, drawn := s.drawn, toks := tk', os := s.os } ∧ Fr g₁ L₁ h' (fun y => if y = Str.ofString "quoted" then some (Value.bool false) else if y = Str.ofString "escapedstate" then some (Value.str (Str.ofString " ") te) else if y = Str.ofString "self" then some (Value.ref lx) else u y) ∧
      News g₁ L₁ h' (Led w.params ks X D lx d pb fs x ((x.length : Nat) : Int) q1 q2 q3 t1 t2 u3 .none (Str.ofString "") v15 news)) F1 N1 ?hJ ?turn ?hX
  case hJ => exact ⟨_, _, pull3s (by with_unfolding_all rfl) (by with_unfolding_all rfl) (by with_unfolding_all rfl), rfl⟩
  case turn =>
    intro n m₁ ns h₁ tk₁ QQ hN hB F4 N4 hJ
    obtain ⟨u, te, rfl, rfl⟩ := hJ
    clear F1
    have e1 : rdS x x.length = Str.ofString "" := by unfold rdS; rw [if_neg (by omega)]
    have e2 : rdP x x.length = x.length := by unfold rdP; rw [if_neg (by omega)]
    k_steps
    refine Stop.into ?_
    k_dflt (refine' c_read _ _ _ _ _ _ _ _ _ _ _ _ _ _ _ _ ?hl ?hXD ?h1 ?h2 ?hp _ _ _ _ _ _ _ _ _ _ _ _ _ _ _ _ _ ?k1 ?k2 ?k3 ?k4 ?k5 ?kK ?kd ?ku ?kR)
    (case k1 => k_asm)
    (case k2 => k_asm)
    (case k3 => k_asm)
    (case k4 => k_asm)
    (case hl => assumption)
    (case hXD => assumption)
    (case h1 => k_all)
    (case h2 => k_all)
    (case hp => omega)
    (case k5 => k_asm)
    (case kK => first | exact rfl | assumption)
    (case kd => ktr_room)
    (case ku => ktr_units)
    intro t9 t39 h9 tk9 F9 N9
    rw [e1]
    rw [e2] at N9
    k_steps
    rename Fr _ _ _ _ => F5
    rename News _ _ _ _ => N5
    refine hB _ ?_
    exact ⟨_, _, _, _, _, _, rfl, fr_eq F5 (pull3s (by with_unfolding_all rfl) (by with_unfolding_all rfl) (by with_unfolding_all rfl)), N5⟩
  case hX =>
    rintro s' ⟨h9, tk9, u, te, u3, v15, rfl, F9, N9⟩
    clear F1 N1
    k_steps
    all_goals (
      rename Fr h₀ _ _ _ => F5
      rename News h₀ _ _ _ => N5
      exact hret _ _ _ _ F5 N5)
end Mine
end

section
open PySem PySem.W PySem.Spec PySem.Calls PyProof.Rows PyProof.V
set_option maxRecDepth 100000
set_option maxHeartbeats 0
namespace Mine
local macro_rules | `(tactic| walk_at "idle") => `(tactic| skip)
local macro_rules | `(tactic| k_room) => `(tactic| ktr_room)
local macro_rules | `(tactic| k_all) => `(tactic| first | assumption | (refine allNe ?_; assumption))
local macro_rules | `(tactic| walk_at "truthy str") => `(tactic| (k_here; first | refine truthy_one ?_ | refine ts200 ?_))
local macro_rules | `(tactic| walk_at "truthy ref") => `(tactic| (k_here; (rename News _ _ _ _ => N9); k_dflt (refine' dq_truthy ?k1 ?_; (case k1 => (refine ngt N9 ?_; k_mem)))))
local macro_rules | `(tactic| walk_at "call ref") => `(tactic| (k_here; (try dsimp only [List.cons_append, List.nil_append]); with_reducible refine stopC 757 ?_))

section
variable {M : Model} {A₀ A : Around} {E : Value → Shared → Prop} {s : Shared} {base g G : Heap} {outer : List Env} {L a e t : Addr} {m : PySem.Str → Option Value} {name : PySem.Str} {scope : Scope} {cd : Value} {cl : List (PySem.Str × Addr)} {vs : List Value} {news : List (Addr × Obj)} {X : String}
theorem owit_stopS {Q : Option Value → Shared → Prop} (R : RaisedS base G (envX name scope L a cd cl :: outer) e (.type X) t vs news s.heap) (F : Fr g L G m) (K : Below A₀ base outer g) (hsm : G.UpToSlots s.heap) (hsub : isSubtype (.type X) (.type "StopIteration") = pure true)
    (k : ∀ g', KtsTurn (outer.filterMap (·.frame)) g g' → Fr g' L s.heap m → News g' L s.heap news → Below A₀ base outer g' → Q none s) : OwitStop M A Q E (.ref e) s := by
  obtain ⟨⟨B, hB, hBG, hl, hfl, _⟩, _⟩ := R
  have hL : B.get? L = none := by
    obtain ⟨_, ⟨L', _, hf, hn', _⟩, _⟩ := hfl.2.2.1
    obtain rfl : L = L' := Option.some.inj hf
    exact hn'
  obtain ⟨g', T', F', K'⟩ := kts_ground (name := name) (scope := scope) (a := a) (cd := cd) K F hBG hfl.1 hsm
  obtain ⟨ob, hob, hobc⟩ := (flyingW_base hB hfl).there
  have hT : s.TypeIs (.ref e) X := (show ∃ o, s.heap.get? e = some o ∧ o.cls = .type X from ⟨ob, hob, hobc⟩)
  unfold OwitStop
  refine wpAny_isInstance hT hsub ?_
  show (if true = true then Q none s else E (.ref e) s)
  rw [if_pos rfl]
  exact k g' T' F' (fun q hq => ⟨hfl.1 _ _ (hl q hq).1, (fun z => by have := (hl q hq).1; rw [z, hL] at this; cases this), T'.none_ _ (kts_none F.keep (hl q hq).2.1)⟩) K'
end
theorem c_nx (w : World) (mean : ExcName → Option Value) (mg mb : PySem.Str → Option Value) (news : CbLed) (ks : Nat → Tok) (q1 q2 q3 t1 t2 t3 v15 ts : Tok) (X D lx d pb fs : Addr) (x : PySem.Str) (hl : x.length < 200)
    (o1 : @LT.lt Nat _ d lx) (o2 : @LT.lt Nat _ lx D) (o3 : @LT.lt Nat _ D X) (o4 : @LT.lt Nat _ X pb) (o5 : @LT.lt Nat _ pb fs)
    (a1 : ∀ p ∈ news, p.1 ≠ d) (a2 : ∀ p ∈ news, p.1 ≠ lx) (a3 : ∀ p ∈ news, p.1 ≠ D) (a4 : ∀ p ∈ news, p.1 ≠ X) (a5 : ∀ p ∈ news, p.1 ≠ pb) (a6 : ∀ p ∈ news, p.1 ≠ fs) (j : Nat) (wd tl : List Nat)
    (hx : x.cps.toList.drop j = wd ++ tl) (hw : wd.head? = some 61) (hs : ∀ c ∈ wd, safeC c = true) (ht : tl = [] ∨ ∃ r, tl = 32 :: r) :
    ∀ {pp : PySem.Program} {ll : List PySem.Str} (dp un : Nat) (gd : Option (List Code)) (cn : PySem.Str) (cs : Scope) (a : Addr) (ccd : Value) (cl : List (PySem.Str × Addr)) (outer : List Env) (A₀ : Around) (base h₀ : Heap) (L : Addr) (m : PySem.Str → Option Value) (s : Shared) (Q : Option Value → Shared → Prop) (E : Value → Shared → Prop),
    Below A₀ base outer h₀ → Fr h₀ L s.heap m → (hk.heap_1 w.params).In h₀ → News h₀ L s.heap (Led w.params ks X D lx d pb fs x (j : Int) q1 q2 q3 t1 t2 t3 (.str (Str.ofString " ") ts) (Str.ofString "") v15 news) → Top pp ll mean mg mb h₀ → cs.kind = .function →
    dp + 9 < recursionLimit → un + 80 < cLine →
    (∀ (t t3 ts v15 : Tok) (st : Value) (h' : Heap) (tk' : Nat), st = (if tl = [] then .none else .str (Str.ofString " ") ts) → Fr h₀ L h' m → News h₀ L h' (Led w.params ks X D lx d pb fs x ((if tl = [] then x.length else j + wd.length + 1 : Nat) : Int) q1 q2 q3 t1 t2 t3 st (Str.ofString "") v15 news) → Q (some (.str (toS wd) t)) { s with heap := h', toks := tk' }) →
      wpAny (model PySem.Challenge.rw_il0189_01.row.prog w) (ktrTop dp un gd cn cs L a ccd cl outer) (pyNext (.ref lx)) Q E s := by
  k_fill; intro pp ll dp un gd cn cs a ccd cl outer A₀ base h₀ L m s Q E; intros; rename_i hret
  rename Frag.In _ _ => KX
  rename Fr _ _ _ _ => F1
  refine owit_next F1 KX (by k_inst) (f := 786) (by k_is) (by k_is) ?_
  refine wpAny_call ?_
  k_dflt (refine' code_def (binds := [(Str.ofString "self", Value.ref lx)]) ?k1 ?k2 ?k3 ?k4 ?k5 ?kA ?kF ?kK ?k6 ?k7 ?k8 ?k9 ?kB ?_ ?c2 ?c3 ?c4 ?c5; (case kA => exact rfl); (case kF => exact rfl); (case kK => assumption); (case k1 => k_asm); (case k2 => k_asm); (case k3 => k_asm); (case k4 => k_asm); (case k5 => k_asm); (case k6 => k_is); (case k7 => k_is); (case k8 => ktr_room); (case k9 => first | exact BindsTo.of_eq rfl | exact binds_K (by k_in) rfl (by k_is) rfl rfl rfl); (case c5 => decide); (case kB => exact locs rfl); (case c2 => exact rfl); (case c3 => exact rfl); (case c4 => exact rfl); k_whole; intro g' L' h' FG' F' N' B' X' T'; (try dsimp only); (try k_lift B'); (try k_fold))
  k_steps
  refine Stop.into ?_
  k_dflt (refine' c_rt _ _ _ _ _ _ _ _ _ _ _ _ _ _ _ _ _ _ _ _ _ _ ?wd ?tl ?hl ?o1 ?o2 ?o3 ?o4 ?o5 ?a1 ?a2 ?a3 ?a4 ?a5 ?a6 ?hx ?hw ?hs ?ht _ _ _ _ _ _ _ _ _ _ _ _ _ _ _ _ _ ?k1 ?k2 ?k3 ?k4 ?k5 ?kK ?kd ?ku ?kR)
  (case wd => exact wd)
  (case tl => exact tl)
  (case k1 => k_asm)
  (case k2 => k_asm)
  (case k3 => k_asm)
  (case k4 => k_asm)
  (case k5 => k_asm)
  (case hl => assumption)
  (case o1 => assumption)
  (case o2 => assumption)
  (case o3 => assumption)
  (case o4 => assumption)
  (case o5 => assumption)
  (case a1 => assumption)
  (case a2 => assumption)
  (case a3 => assumption)
  (case a4 => assumption)
  (case a5 => assumption)
  (case a6 => assumption)
  (case hx => assumption)
  (case hw => assumption)
  (case hs => assumption)
  (case ht => assumption)
  (case kK => first | exact rfl | assumption)
  (case kd => ktr_room)
  (case ku => ktr_units)
  intro t9 t39 ts9 v159 st9 h9 tk9 hst F9 N9
  have htl : (toS wd).length < 200 := by
    have h := congrArg List.length hx
    rw [List.length_drop, Array.length_toList, List.length_append] at h
    have hz : x.length = x.cps.size := rfl
    exact toS_len (by omega)
  k_steps
  rename Fr h₀ _ _ _ => F5
  rename News h₀ _ _ _ => N5
  exact hret _ _ _ _ _ _ _ hst F5 N5
theorem c_nx0 (w : World) (mean : ExcName → Option Value) (mg mb : PySem.Str → Option Value) (news : CbLed) (ks : Nat → Tok) (q1 q2 q3 t1 t2 t3 v15 : Tok) (X D lx d pb fs : Addr) (x : PySem.Str) (hl : x.length < 200)
    (o1 : @LT.lt Nat _ d lx) (o2 : @LT.lt Nat _ lx D) (o3 : @LT.lt Nat _ D X) (o4 : @LT.lt Nat _ X pb) (o5 : @LT.lt Nat _ pb fs)
    (a1 : ∀ p ∈ news, p.1 ≠ d) (a2 : ∀ p ∈ news, p.1 ≠ lx) (a3 : ∀ p ∈ news, p.1 ≠ D) (a4 : ∀ p ∈ news, p.1 ≠ X) (a5 : ∀ p ∈ news, p.1 ≠ pb) (a6 : ∀ p ∈ news, p.1 ≠ fs) :
    ∀ {pp : PySem.Program} {ll : List PySem.Str} (dp un : Nat) (gd : Option (List Code)) (cn : PySem.Str) (cs : Scope) (a : Addr) (ccd : Value) (cl : List (PySem.Str × Addr)) (outer : List Env) (A₀ : Around) (base h₀ : Heap) (L : Addr) (m : PySem.Str → Option Value) (s : Shared) (Q : Option Value → Shared → Prop) (E : Value → Shared → Prop),
    Below A₀ base outer h₀ → Fr h₀ L s.heap m → (hk.heap_1 w.params).In h₀ → News h₀ L s.heap (Led w.params ks X D lx d pb fs x ((x.length : Nat) : Int) q1 q2 q3 t1 t2 t3 .none (Str.ofString "") v15 news) → Top pp ll mean mg mb h₀ → cs.kind = .function →
    dp + 9 < recursionLimit → un + 80 < cLine →
    (∀ (t3 v15 : Tok) (h₀' h' : Heap) (tk' : Nat), KtsTurn (outer.filterMap (·.frame)) h₀ h₀' → Fr h₀' L h' m → Below A₀ base outer h₀' → News h₀' L h' (Led w.params ks X D lx d pb fs x ((x.length : Nat) : Int) q1 q2 q3 t1 t2 t3 .none (Str.ofString "") v15 news) → Q none { s with heap := h', toks := tk' }) →
      wpAny (model PySem.Challenge.rw_il0189_01.row.prog w) (ktrTop dp un gd cn cs L a ccd cl outer) (pyNext (.ref lx)) Q E s := by
  k_fill; intro pp ll dp un gd cn cs a ccd cl outer A₀ base h₀ L m s Q E; intros; rename_i hret
  rename Frag.In _ _ => KX
  rename Fr _ _ _ _ => F1
  refine owit_next F1 KX (by k_inst) (f := 786) (by k_is) (by k_is) ?_
  refine wpAny_call ?_
  k_dflt (refine' code_def (binds := [(Str.ofString "self", Value.ref lx)]) ?k1 ?k2 ?k3 ?k4 ?k5 ?kA ?kF ?kK ?k6 ?k7 ?k8 ?k9 ?kB ?_ ?c2 ?c3 ?c4 ?c5; (case kA => exact rfl); (case kF => exact rfl); (case kK => assumption); (case k1 => k_asm); (case k2 => k_asm); (case k3 => k_asm); (case k4 => k_asm); (case k5 => k_asm); (case k6 => k_is); (case k7 => k_is); (case k8 => ktr_room); (case k9 => first | exact BindsTo.of_eq rfl | exact binds_K (by k_in) rfl (by k_is) rfl rfl rfl); (case c5 => decide); (case kB => exact locs rfl); (case c2 => exact rfl); (case c3 => exact rfl); (case c4 => exact rfl); k_whole; intro g' L' h' FG' F' N' B' X' T'; (try dsimp only); (try k_lift B'); (try k_fold))
  k_steps
  refine Stop.into ?_
  k_dflt (refine' c_rt0 _ _ _ _ _ _ _ _ _ _ _ _ _ _ _ _ _ _ _ _ ?hl ?o1 ?o2 ?o3 ?o4 ?o5 ?a1 ?a2 ?a3 ?a4 ?a5 ?a6 _ _ _ _ _ _ _ _ _ _ _ _ _ _ _ _ _ ?k1 ?k2 ?k3 ?k4 ?k5 ?kK ?kd ?ku ?kR)
  (case k1 => k_asm)
  (case k2 => k_asm)
  (case k3 => k_asm)
  (case k4 => k_asm)
  (case k5 => k_asm)
  (case hl => assumption)
  (case o1 => assumption)
  (case o2 => assumption)
  (case o3 => assumption)
  (case o4 => assumption)
  (case o5 => assumption)
  (case a1 => assumption)
  (case a2 => assumption)
  (case a3 => assumption)
  (case a4 => assumption)
  (case a5 => assumption)
  (case a6 => assumption)
  (case kK => first | exact rfl | assumption)
  (case kd => ktr_room)
  (case ku => ktr_units)
  intro t39 v159 h9 tk9 F9 N9
  have kd9 := @ktsDicts_nil h₀
  k_steps
  rename RaisedS _ _ _ _ _ _ _ _ _ => rs9
  rename Heap.UpToSlots _ _ => u9
  rename Fr h₀ _ _ _ => f9
  rename Below A₀ _ _ _ => b9
  exact owit_stopS rs9 f9 b9 u9 (by first | rfl | kernel_rfl | decide) fun g9 t9 f8 n9 b8 => hret _ _ _ _ _ t9 f8 b8 n9
end Mine
end

section
open PySem PySem.W PySem.Spec PySem.Calls PyProof.Rows PyProof.V PySem.Builtin
set_option maxRecDepth 100000
set_option maxHeartbeats 4000000
namespace Mine
section
variable {prog : PySem.Program} {w : World} {A : Around} {E : Value → Shared → Prop} {s : Shared}
theorem own_loop {S I : Addr} {res : Value} {R : Result → Shared → Prop} {n : Nat} (J : Nat → Array Value → Shared → Prop) (hn : n ≤ sizeLine)
    (hst : ∀ i acc s, i < n → J i acc s → wpAny (model prog w) A.in1 (pyNext (.ref I)) (fun r s' => ∃ v, r = some v ∧ acc.size = i ∧ (∃ c, s'.heap.get? S = some (listOf acc c)) ∧ J (i + 1) (acc.push v) { s' with heap := s'.heap.update S (Obj.mapSeq (·.push v)) }) (fun e s' => R (.error e) s') s)
    (hend : ∀ acc s, J n acc s → wpAny (model prog w) A.in1 (pyNext (.ref I)) (fun r s' => r = none ∧ R (.ok (.ret res)) s') (fun e s' => R (.error e) s') s) :
    ∀ (k i : Nat) (acc : Array Value) (s : Shared), n - i = k → i ≤ n → J i acc s → codeAny (model prog w) A (.builtin "list.extend.loop" ⟨[.ref S, .ref I, res], []⟩) R s := by
  intro k
  induction k with
  | zero =>
    intro i acc s hk hi hJ
    have hin : i = n := by omega
    subst hin
    refine codeAny_builtin F.entry_extend_loop ?_
    rw [Around.under_plainId F.plain_extend_loop _]
    show wpAny _ A.in1 (pyNext (.ref I) >>= _) _ _ s
    refine wpAny_bind (wpAny_mono (hend acc s hJ) (fun r s' hr => ?_) fun _ _ z => z)
    obtain ⟨rfl, hr⟩ := hr
    exact wpAny_pure hr
  | succ k ih =>
    intro i acc s hk hi hJ
    have hlt : i < n := by omega
    refine codeAny_builtin F.entry_extend_loop ?_
    rw [Around.under_plainId F.plain_extend_loop _]
    show wpAny _ A.in1 (pyNext (.ref I) >>= _) _ _ s
    refine wpAny_bind (wpAny_mono (hst i acc s hlt hJ) (fun r s' hr => ?_) fun _ _ z => z)
    obtain ⟨v, rfl, hsz, ⟨c, hS⟩, hJ'⟩ := hr
    show wpAny _ A.in1 (updateSeq S (·.push v) >>= _) _ _ _
    refine wpAny_bind ?_
    exact wpAny_updateSeq hS rfl (wpAny_pure ⟨plainId_quiet F.plain_extend_loop _, ih (i + 1) (acc.push v) _ (by omega) hlt hJ'⟩) (by rw [hsz]; omega) (by show (acc.push v).size ≤ sizeLine + 1; rw [Array.size_push, hsz]; omega)
variable {K : Frag} {C L f : Addr} {h₀ : Heap} {m : PySem.Str → Option Value} {ox : Obj} {od : Option Obj} {news : List (Addr × Obj)}
theorem own_extend {S I : Addr} {res : Value} {R : Result → Shared → Prop} {n : Nat} (J : Nat → Array Value → Shared → Prop) (hn : n ≤ sizeLine) (hSI : S ≠ I)
    (F1 : Fr h₀ L s.heap m) (X₀ : K.In h₀) (I1 : InstAt s.heap I ox C od) (hs : findIn K (.ref C) "__iter__" = some (some (.ref f))) (hf : isFn K (.ref f) = true) (hx : ∃ g, findIn K (.ref C) "__next__" = some (some g))
    (hl1 : findIn K (.ref C) "__len__" = some none) (hl2 : findIn K (.ref C) "__length_hint__" = some none)
    (hit : wpAny (model prog w) A.in1 (call (.ref f) [.ref I]) (fun v s' => v = .ref I ∧ Fr h₀ L s'.heap m ∧ InstAt s'.heap I ox C od ∧ (∃ c, s'.heap.get? S = some (listOf #[] c)) ∧ J 0 #[] { s' with heap := (s'.heap.update S (Obj.mapSeq (·.push Value.none))).update S (Obj.mapSeq (·.pop)) }) (fun e s' => R (.error e) s') s)
    (hst : ∀ i acc s, i < n → J i acc s → wpAny (model prog w) A.in1 (pyNext (.ref I)) (fun r s' => ∃ v, r = some v ∧ acc.size = i ∧ (∃ c, s'.heap.get? S = some (listOf acc c)) ∧ J (i + 1) (acc.push v) { s' with heap := s'.heap.update S (Obj.mapSeq (·.push v)) }) (fun e s' => R (.error e) s') s)
    (hend : ∀ acc s, J n acc s → wpAny (model prog w) A.in1 (pyNext (.ref I)) (fun r s' => r = none ∧ R (.ok (.ret res)) s') (fun e s' => R (.error e) s') s) :
    wpAny (model prog w) A.in1 (Builtin.List.listExtendWith (.ref S) (.ref I) res)
      (fun fin s' => match fin with | .done f => R (.ok f) s' | .again c' => c'.quiet = true ∧ codeAny (model prog w) A c' R s') (fun e s' => R (.error e) s') s := by
  unfold Builtin.List.listExtendWith
  have h1 : Builtin.List.listSameRef (.ref S) (.ref I) = false := by simp [Builtin.List.listSameRef, hSI]
  refine wpAny_bind (I1.type.here ?_)
  have h2 : (Value.ref C == Value.type "list") = false := rfl
  have h3 : (Value.ref C == Value.type "tuple") = false := rfl
  simp only [h1, h2, h3, Bool.or_false, Bool.false_eq_true, if_false]
  refine wpAny_bind (owit_iter F1 X₀ I1 hs hf (wpAny_mono hit (fun v s' hv => ?_) fun _ _ z => z))
  obtain ⟨rfl, F2, I2, ⟨c, hS⟩, hJ⟩ := hv
  obtain ⟨g, hg⟩ := hx
  refine owit_it F2 X₀ I2 hg ?_
  refine wpAny_bind (wpAny_holding ?_)
  unfold Builtin.List.listLengthHint
  refine wpAny_bind (wpAny_bind (I2.type.here ((looks_findIn (X₀.keeps F2.keep) hl1).here ?_)))
  refine wpAny_bind (wpAny_bind (I2.type.here ((looks_findIn (X₀.keeps F2.keep) hl2).here ?_)))
  refine wpAny_pure ?_
  show wpAny _ A.in1 (rule "list.extend.makes-room" >>= fun _ => Builtin.List.listTouch (.ref S) >>= fun _ =>
    again (.builtin "list.extend.loop" ⟨[.ref S, .ref I, res], []⟩)) _ _ _
  refine wpAny_bind (wpAny_rule ?_)
  refine wpAny_bind ?_
  show wpAny _ A.in1 (updateSeq S (·.push .none) >>= fun _ => updateSeq S (·.pop)) _ _ _
  refine wpAny_bind (wpAny_updateSeq hS rfl ?_)
  have hS₂ := Heap.get?_update_self (Obj.mapSeq (·.push Value.none)) hS rfl
  refine wpAny_updateSeq (hz := by seq_fits) hS₂ rfl ?_
  exact wpAny_pure ⟨plainId_quiet F.plain_extend_loop _, own_loop J hn hst hend n 0 _ _ rfl (Nat.zero_le _) hJ⟩

theorem map_push (acc : Array Value) (c : Nat) (v : Value) : Obj.mapSeq (·.push v) (listOf acc c) = listOf (acc.push v) (c + 1) := by
  unfold Obj.mapSeq W.listOf
  simp
def Lk (s s' : Shared) : Prop := ∃ h tk, s' = { s with heap := h, toks := tk }
theorem Lk.heap {s s' : Shared} {h : Heap} (x : Lk s s') : Lk s { s' with heap := h } := by
  obtain ⟨a, b, rfl⟩ := x
  exact ⟨h, b, rfl⟩
theorem list_own {I : Addr} {Q : Value → Shared → Prop} {n : Nat} (Ld : Nat → List (Addr × Obj) → Prop) (P : Nat → Array Value → Prop) (hn : n ≤ sizeLine)
    (F1 : Fr h₀ L s.heap m) (N1 : News h₀ L s.heap news) (X₀ : K.In h₀) (hI : ∀ h, (∀ p ∈ news, h.get? p.1 = some p.2) → InstAt h I ox C od) (hIn : ∃ o, (I, o) ∈ news)
    (hs : findIn K (.ref C) "__iter__" = some (some (.ref f))) (hf : isFn K (.ref f) = true) (hx : ∃ g, findIn K (.ref C) "__next__" = some (some g))
    (hl1 : findIn K (.ref C) "__len__" = some none) (hl2 : findIn K (.ref C) "__length_hint__" = some none)
    (hsame : ∀ i led, Ld i led → ∀ p ∈ led, p.1 ∈ news.map (·.1)) (hPs : ∀ i acc, P i acc → acc.size = i) (hL0 : Ld 0 news) (hP0 : P 0 #[])
    (hit : ∀ S c s' E', (∀ p ∈ news, p.1 < S) → Lk s s' → Fr h₀ L s'.heap m → News h₀ L s'.heap ((S, listOf #[] c) :: news) →
      wpAny (model prog w) A.in1.in1 (call (.ref f) [.ref I]) (fun v s'' => v = .ref I ∧ Lk s s'' ∧ Fr h₀ L s''.heap m ∧ News h₀ L s''.heap ((S, listOf #[] c) :: news)) E' s')
    (hst : ∀ S c i acc led s' E', i < n → Ld i led → P i acc → (∀ p ∈ led, p.1 < S) → Lk s s' → Fr h₀ L s'.heap m → News h₀ L s'.heap ((S, listOf acc c) :: led) →
      wpAny (model prog w) A.in1.in1 (pyNext (.ref I)) (fun r s'' => ∃ v led', r = some v ∧ P (i + 1) (acc.push v) ∧ Ld (i + 1) led' ∧ Lk s s'' ∧ Fr h₀ L s''.heap m ∧ News h₀ L s''.heap ((S, listOf acc c) :: led')) E' s')
    (hend : ∀ S c acc led s' E', Ld n led → P n acc → (∀ p ∈ led, p.1 < S) → Lk s s' → Fr h₀ L s'.heap m → News h₀ L s'.heap ((S, listOf acc c) :: led) →
      wpAny (model prog w) A.in1.in1 (pyNext (.ref I)) (fun r s'' => r = none ∧ Q (.ref S) s'') E' s') :
    wpAny (model prog w) A (call (.type "list") [.ref I]) Q E s := by
  have hlt : ∀ p ∈ news, p.1 < s.heap.objs.size := fun p hp => Heap.lt_size (N1 p hp).1
  have hlt' : ∀ i led, Ld i led → ∀ p ∈ led, p.1 < s.heap.objs.size := fun i led hl p hp => by
    obtain ⟨q, hq, e⟩ := List.mem_map.mp (hsame i led hl p hp)
    rw [← e]
    exact hlt q hq
  obtain ⟨oI, hIn⟩ := hIn
  have hSI : s.heap.objs.size ≠ I := (Nat.ne_of_lt (hlt _ hIn)).symm
  refine callType_codes (Q₁ := fun obj s₁ => obj = .ref s.heap.objs.size ∧ s₁ = { s with heap := s.heap.push { cls := .type "list", data := .seq #[] } }) F.called_list (F.typeCall_list_1 _) F.entry_list_init
    (code_list_new _ ⟨rfl, rfl⟩) fun obj s₁ h₁ => ?_
  obtain ⟨rfl, rfl⟩ := h₁
  have N2 := N1.push F1 (listOf #[] 0)
  have F2 := F1.push (listOf #[] 0)
  have hS := (N2 _ (List.mem_cons_self ..)).1
  refine ⟨⟨_, hS, rfl⟩, F.args_list_init_2 _ _, ?_⟩
  show wpAny _ A.in1.in1 (do let old ← Builtin.List.listItems (.ref s.heap.objs.size); Builtin.List.listUpdate (.ref s.heap.objs.size) (fun _ => #[]); letGo old.toList.reverse; Builtin.List.listExtendWith (.ref s.heap.objs.size) (.ref I) .none) _ _ _
  refine wpAny_bind ?_
  unfold Builtin.List.listItems
  refine wpAny_bind (wpAny_seqItems hS rfl (wpAny_pure ?_))
  show wpAny _ A.in1.in1 (updateSeq s.heap.objs.size (fun _ => #[]) >>= fun _ => letGo (#[] : Array Value).toList.reverse >>= fun _ => Builtin.List.listExtendWith (.ref s.heap.objs.size) (.ref I) .none) _ _ _
  refine wpAny_bind (wpAny_updateSeq hS rfl ?_)
  have U := news_upd (pre := []) (d := s.heap.objs.size) (o := listOf #[] 0) (o' := listOf #[] 0) (f := Obj.mapSeq (fun _ => (#[] : Array Value))) F2 N2 (by simp) (fun p hp => Nat.ne_of_lt (hlt p hp)) rfl rfl
  refine wpAny_bind (wpAny_letGo ?_)
  refine own_extend (fun i acc s' => ∃ c led, Ld i led ∧ P i acc ∧ Lk s s' ∧ Fr h₀ L s'.heap m ∧ News h₀ L s'.heap ((s.heap.objs.size, listOf acc c) :: led)) hn hSI U.1 X₀ (hI _ fun p hp => (U.2 p (List.mem_cons_of_mem _ hp)).1) hs hf hx hl1 hl2 ?_ ?_ ?_
  · refine wpAny_mono (hit _ _ _ _ hlt ⟨_, _, rfl⟩ U.1 U.2) (fun v s' hv => ?_) fun _ _ z => z
    obtain ⟨rfl, hk, F3, N3⟩ := hv
    have U2 := news_upd (pre := []) (d := s.heap.objs.size) (o' := listOf #[Value.none] 1) (f := Obj.mapSeq (·.push Value.none)) F3 N3 (by simp) (fun p hp => Nat.ne_of_lt (hlt p hp)) rfl rfl
    have U3 := news_upd (pre := []) (d := s.heap.objs.size) (o' := listOf #[] 2) (f := Obj.mapSeq (·.pop)) U2.1 U2.2 (by simp) (fun p hp => Nat.ne_of_lt (hlt p hp)) rfl rfl
    exact ⟨rfl, F3, hI _ fun p hp => (N3 p (List.mem_cons_of_mem _ hp)).1, ⟨_, (N3 _ (List.mem_cons_self ..)).1⟩, _, _, hL0, hP0, hk.heap, U3.1, U3.2⟩
  · rintro i acc s' hi ⟨c, led, hL, hP, hk, F3, N3⟩
    refine wpAny_mono (hst _ _ _ _ _ _ _ hi hL hP (hlt' _ _ hL) hk F3 N3) (fun r s' hr => ?_) fun _ _ z => z
    obtain ⟨v, led', rfl, hP', hL', hk', F4, N4⟩ := hr
    have U2 := news_upd (pre := []) (d := s.heap.objs.size) (o' := listOf (acc.push v) (c + 1)) (f := Obj.mapSeq (·.push v)) F4 N4 (by simp) (fun p hp => Nat.ne_of_lt (hlt' _ _ hL' p hp)) (map_push _ _ _) rfl
    exact ⟨v, rfl, hPs _ _ hP, ⟨_, (N4 _ (List.mem_cons_self ..)).1⟩, _, _, hL', hP', hk'.heap, U2.1, U2.2⟩
  · rintro acc s' ⟨c, led, hL, hP, hk, F3, N3⟩
    refine wpAny_mono (hend _ _ _ _ _ _ hL hP (hlt' _ _ hL) hk F3 N3) (fun r s' hr => ?_) fun _ _ z => z
    exact ⟨hr.1, rfl, hr.2⟩
end
end Mine
end

section
open PySem PySem.W PySem.Spec PySem.Calls PyProof.Rows PyProof.V
set_option maxRecDepth 100000
set_option maxHeartbeats 4000000
namespace Mine
abbrev Fs (l : List Env) : List Addr := l.filterMap (·.frame)
def LeaveT (fs : List Addr) (A₀ : Around) (base : Heap) (outer : List Env) (h₀ : Heap) (L : Addr) (m : PySem.Str → Option Value) (g : Heap) (R : Result → Shared → Prop) (v : Value) (s' : Shared) : Prop :=
  ∃ g' L' m' news', KtsTurn fs g g' ∧ Fr g' L' s'.heap m' ∧ News g' L' s'.heap news' ∧
    ∀ h₀', KtsTurn (Fs outer) h₀ h₀' → Fr h₀' L s'.heap m → News h₀' L s'.heap news' → Below A₀ base outer h₀' → R (.ok (.ret v)) s'
theorem leaveT_ {fs : List Addr} {A₀ : Around} {base h₀ g g' : Heap} {outer : List Env} {L L' : Addr} {m m' : PySem.Str → Option Value} {news' : List (Addr × Obj)} {R : Result → Shared → Prop} {v : Value} {s' : Shared}
    (F' : Fr g' L' s'.heap m') (N' : News g' L' s'.heap news') (T : KtsTurn fs g g')
    (k : ∀ h₀', KtsTurn (Fs outer) h₀ h₀' → Fr h₀' L s'.heap m → News h₀' L s'.heap news' → Below A₀ base outer h₀' → R (.ok (.ret v)) s') : LeaveT fs A₀ base outer h₀ L m g R v s' := ⟨g', L', m', news', T, F', N', k⟩
section
variable {prog : PySem.Program} {w : World} {A₀ A : Around} {s : Shared} {base h₀ : Heap} {outer : List Env} {L : Addr} {m : PySem.Str → Option Value} {env : Env} {news : List (Addr × Obj)} {K : Frag} {p : PySem.Program} {loose : List PySem.Str} {mean : ExcName → Option Value} {mg mb : PySem.Str → Option Value}
  {R : Result → Shared → Prop} {name qual : PySem.Str} {params : Arguments} {body : List Stmt} {scope : Scope} {dV kV doc pm cdv ct oc : Value} {an od : Option Addr} {osl : Array (Option Value)} {f : Addr} {args : Args} {binds : List (PySem.Str × Value)}
theorem fs_mem {b : Addr} (hf : env.frame = some L) (hm : b ∈ Fs (env :: outer)) : b = L ∨ b ∈ Fs outer := by
  obtain ⟨e, he, hf'⟩ := List.mem_filterMap.mp hm
  rcases List.mem_cons.mp he with rfl | he
  · exact .inl (Option.some.inj (hf'.symm.trans hf))
  · exact .inr (List.mem_filterMap.mpr ⟨e, he, hf'⟩)
theorem groundT (B : Below A₀ base outer h₀) (F : Fr h₀ L s.heap m) (N : News h₀ L s.heap news) (hA : A.frames = some (env :: outer)) (hf : env.frame = some L) (hke : env.scope.kind = .function) (D : KtsDicts (Fs outer) h₀) :
    Fr h₀ L (hideAll s.heap (news.map (·.1))) m ∧ Below A base (env :: outer) (hideAll s.heap (news.map (·.1))) ∧ h₀.StaysIn (hideAll s.heap (news.map (·.1))) ∧ KtsDicts (Fs (env :: outer)) (hideAll s.heap (news.map (·.1))) ∧
      ∀ v s', LeaveT (Fs (env :: outer)) A₀ base outer h₀ L m (hideAll s.heap (news.map (·.1))) R v s' → R (.ok (.ret v)) s' := by
  obtain ⟨FG, BG, st, _⟩ := groundX (R := fun _ _ => True) B F N hA hf hke
  obtain ⟨oL, es, ep, hLg, hLd, hLk, hLf⟩ := FG.ns
  refine ⟨⟨⟨oL, es, ep, hLg, hLd, hLk, hLf⟩, FG.keep, FG.above⟩, BG, st, fun b hb => ?_, fun v s' hl => ?_⟩
  · rcases fs_mem hf hb with rfl | hb
    · exact ⟨oL, es, ep, hLg, hLd⟩
    · obtain ⟨o, es', n', ho', hd'⟩ := D b hb
      exact ⟨o, es', n', st b o ho', hd'⟩
  · obtain ⟨g', L', m', news', T', F', N', k⟩ := hl
    have nL₀ : h₀.get? L = none := kts_self F
    obtain ⟨sl, hs⟩ := T'.up hLg
    obtain ⟨T₁, S₁⟩ := kts_turn_at (h := s'.heap) (fs := Fs outer) (g := h₀)
      (fun b hb => by
        obtain ⟨_, o, ho', _⟩ := B.frames.mem hb
        exact ⟨o, ho'⟩)
      (fun b o e nmem => F'.keep b o (T'.other b o (st b o e) (fun q => by
        rcases fs_mem hf q with z | z
        · rw [z, nL₀] at e
          cases e
        · exact nmem z)))
      (fun b o e hm => by
        obtain ⟨sl', hs'⟩ := T'.up (st b o e)
        exact ⟨sl', F'.keep _ _ hs'⟩)
    have B₃ : Below A₀ base outer (ktsHeap s'.heap (Fs outer) h₀) := ⟨B.stack, fun b o e => T₁.other b o (B.stays b o e) (fun hm => by
      rw [(B.frames.mem hm).1] at e
      cases e), B.frames.of_keeps fun b o e _ => by
      obtain ⟨sl', hs'⟩ := T₁.up e
      exact ⟨_, hs', rfl⟩⟩
    refine k _ T₁ ⟨⟨_, es, ep, F'.keep _ _ hs, hLd, hLk, hLf⟩, S₁, by rw [T₁.size]; exact F.above⟩ (fun p hp => ⟨(N' p hp).1, fun q => ?_, ?_⟩) B₃
    · have := (N' p hp).2.2; rw [q, hs] at this; cases this
    · refine T₁.none_ _ ?_
      cases q : h₀.get? p.1 with
      | none => rfl
      | some o =>
        obtain ⟨sl', hs'⟩ := T'.up (st _ _ q)
        have := (N' p hp).2.2
        rw [hs'] at this
        cases this
theorem code_defT (B : Below A₀ base outer h₀) (F : Fr h₀ L s.heap m) (X₀ : K.In h₀) (N : News h₀ L s.heap news) (T : Top p loose mean mg mb h₀) (D : KtsDicts (Fs outer) h₀) (hA : A.frames = some (env :: outer)) (hf : env.frame = some L) (hke : env.scope.kind = .function)
    (ho : K.lookup f = some ⟨oc, od, .func (fnOf name qual params body scope dV kV doc pm an cdv ct), osl⟩) (hcd : codeIn K cdv qual = true) (hroom : A.depth < recursionLimit)
    (hbind : BindsTo s (fnOf name qual params body scope dV kV doc pm an cdv ct) args binds) (hloc : ∀ y ∈ binds, scope.names.lookup y.1 = some .local)
    (h : ∀ g L' h₁, Fr h₀ L g m → Fr g L' h₁ (fun y => binds.reverse.lookup y) → News g L' h₁ news → Below A base (env :: outer) g → K.In g → Top p loose mean mg mb g → KtsDicts (Fs (env :: outer)) g →
      wpAny (model prog w) (A.deeper (envOf qual scope L' f cdv)) (execs body (envOf qual scope L' f cdv))
        (fun fl s' => LeaveT (Fs (env :: outer)) A₀ base outer h₀ L m g R (match fl with | .ret v => v | _ => .none) s')
        (fun e s' => wpAny (model prog w) (A.deeper (envOf qual scope L' f cdv)) (leaving (envOf qual scope L' f cdv) e) (fun _ s'' => R (.error e) s'') (fun e' s'' => R (.error e') s'') s')
        { s with heap := h₁, toks := s.toks + binds.length })
    (hco : scope.isCoroutine = false) (hgen : scope.isGenerator = false) (hk : scope.kind = .function)
    (hcell : ∀ x ∈ scope.names, x.2 ≠ .cell) : codeAny (model prog w) A (.call (.ref f) args) R s := by
  have X := X₀.keeps F.keep
  obtain ⟨FG, BG, st, DG, lv⟩ := groundT (R := R) B F N hA hf hke D
  refine codeAny_call_def (fd := fnOf name qual params body scope dV kV doc pm an cdv ct) (body := body) (binds := binds) hroom (X _ _ ho) rfl (T.nolimit.keeps F.keep) (codeRec_of X hcd) rfl hbind hcell hloc (fun h₁ hns hk₁ => ?_) hco hgen hk
  exact wpAny_mono (h _ s.heap.objs.size h₁ FG ⟨hns, fun b o e => hk₁ b o (of_hideAll _ e), Nat.le_of_eq (hideAll_size _ _)⟩
    (fun p hp => ⟨hk₁ _ _ (N p hp).1, Nat.ne_of_lt (Heap.lt_size (N p hp).1), hideAll_none _ (List.mem_map_of_mem hp)⟩) BG (X₀.keeps st) (T.keeps st) DG) (fun fl s' hl => lv _ _ hl) fun _ _ y => y
theorem code_defTC (B : Below A₀ base outer h₀) (F : Fr h₀ L s.heap m) (X₀ : K.In h₀) (N : News h₀ L s.heap news) (T : Top p loose mean mg mb h₀) (D : KtsDicts (Fs outer) h₀) (hA : A.frames = some (env :: outer)) (hf : env.frame = some L) (hke : env.scope.kind = .function)
    (ho : K.lookup f = some ⟨oc, od, .func (fnOf name qual params body scope dV kV doc pm an cdv ct), osl⟩) (hcd : codeIn K cdv qual = true) (hroom : A.depth < recursionLimit)
    (hbind : BindsTo s (fnOf name qual params body scope dV kV doc pm an cdv ct) args binds) (hkind : (binds.all fun y => scope.names.lookup y.1 == some .local || scope.names.lookup y.1 == some .cell) = true)
    (hnd : ((cellsFrom 0 scope.names []).map (·.1)).Nodup)
    (h : ∀ g L' h₁ tk cells, Fr h₀ L g m → Fr g L' h₁ (bindL (envOfC qual scope L' f cdv).kindOf binds fun _ => none) → News g L' h₁ (cells ++ news) →
      CellsAre (bindC (envOfC qual scope L' f cdv).kindOf binds fun _ => none) (cellsFrom (L' + 1) scope.names []) cells → Below A base (env :: outer) g → K.In g → Top p loose mean mg mb g → KtsDicts (Fs (env :: outer)) g → (∀ p ∈ news, p.1 < L') →
      wpAny (model prog w) (A.deeper (envOfC qual scope L' f cdv)) (execs body (envOfC qual scope L' f cdv))
        (fun fl s' => LeaveT (Fs (env :: outer)) A₀ base outer h₀ L m g R (match fl with | .ret v => v | _ => .none) s')
        (fun e s' => wpAny (model prog w) (A.deeper (envOfC qual scope L' f cdv)) (leaving (envOfC qual scope L' f cdv) e) (fun _ s'' => R (.error e) s'') (fun e' s'' => R (.error e') s'') s')
        { s with heap := h₁, toks := tk })
    (hco : scope.isCoroutine = false) (hgen : scope.isGenerator = false) (hk : scope.kind = .function) : codeAny (model prog w) A (.call (.ref f) args) R s := by
  have hlim := T.nolimit
  obtain ⟨FG, BG, st, DG, lv⟩ := groundT (R := R) B F N hA hf hke D
  refine codeAny_call_function hroom ((X₀.keeps F.keep) _ _ ho) rfl hco hgen rfl (codeRec_of (X₀.keeps F.keep) hcd) (hbind _ _ _ _ ?_)
  refine wpAny_newFunctionEnv_cells hk (kindsX hkind _) fun env' he s' x => ?_
  subst he
  refine ⟨(hlim.keeps F.keep).keeps x.toInCall.keep, codeAny_func ?_⟩
  obtain ⟨h₁, tk, rfl, _⟩ := x.done
  have hk₁ := x.toInCall.keep
  obtain ⟨cells, NC, Y⟩ := Cl.news (h₀ := s.heap) (Nat.le_refl _) fun n c hm => ⟨x.cell n c (lookup_of_mem_nodup (cellsFrom_names scope.names 0 (s.heap.objs.size + 1) [] [] rfl ▸ hnd) hm), x.above n c hm⟩
  refine wpAny_mono (h _ s.heap.objs.size h₁ tk cells FG ⟨x.toInCall.ns, fun b o e => hk₁ b o (of_hideAll _ e), Nat.le_of_eq (hideAll_size _ _)⟩ (fun p hp => ?_) Y BG (X₀.keeps st) (T.keeps st) DG (fun p hp => Heap.lt_size (N p hp).1)) (fun fl s' hl => lv _ _ hl) fun _ _ y => y
  rcases List.mem_append.mp hp with hp | hp
  · refine ⟨(NC p hp).1, (NC p hp).2.1, ?_⟩
    cases q : (hideAll s.heap (news.map (·.1))).get? p.1 with
    | none => rfl
    | some o => have := of_hideAll _ q; rw [(NC p hp).2.2] at this; cases this
  · exact ⟨hk₁ _ _ (N p hp).1, Nat.ne_of_lt (Heap.lt_size (N p hp).1), hideAll_none _ (List.mem_map_of_mem hp)⟩
end
end Mine
end

section
open PySem PySem.W PySem.Spec PySem.Calls PyProof.Rows PyProof.V
set_option maxRecDepth 100000
set_option maxHeartbeats 4000000
namespace Mine
local macro_rules | `(tactic| k_room) => `(tactic| ktr_room)
/-- __iter__ of the lexer hands back the lexer -/
theorem c_it (w : World) (mean : ExcName → Option Value) (mg mb : PySem.Str → Option Value) (news : CbLed) (lx : Addr) :
    ∀ {pp : PySem.Program} {ll : List PySem.Str} (dp un : Nat) (gd : Option (List Code)) (cn : PySem.Str) (cs : Scope) (a : Addr) (ccd : Value) (cl : List (PySem.Str × Addr)) (outer : List Env) (A₀ : Around) (base h₀ : Heap) (L : Addr) (m : PySem.Str → Option Value) (s : Shared) (Q E : Value → Shared → Prop),
    Below A₀ base outer h₀ → Fr h₀ L s.heap m → (hk.heap_1 w.params).In h₀ → News h₀ L s.heap news → Top pp ll mean mg mb h₀ → cs.kind = .function →
    dp + 3 < recursionLimit →
    (∀ (h' : Heap) (tk' : Nat), Fr h₀ L h' m → News h₀ L h' news → Q (.ref lx) { s with heap := h', toks := tk' }) →
      wpAny (model PySem.Challenge.rw_il0189_01.row.prog w) (ktrTop dp un gd cn cs L a ccd cl outer) (call (.ref 779) [.ref lx]) Q E s := by
  k_fill; intros; rename_i hret
  refine wpAny_call ?_
  k_dflt (refine' code_def (binds := [(Str.ofString "self", Value.ref lx)]) ?k1 ?k2 ?k3 ?k4 ?k5 ?kA ?kF ?kK ?k6 ?k7 ?k8 ?k9 ?kB ?_ ?c2 ?c3 ?c4 ?c5; (case kA => exact rfl); (case kF => exact rfl); (case kK => assumption); (case k1 => k_asm); (case k2 => k_asm); (case k3 => k_asm); (case k4 => k_asm); (case k5 => k_asm); (case k6 => k_is); (case k7 => k_is); (case k8 => ktr_room); (case k9 => first | exact BindsTo.of_eq rfl | exact binds_K (by k_in) rfl (by k_is) rfl rfl rfl); (case c5 => decide); (case kB => exact locs rfl); (case c2 => exact rfl); (case c3 => exact rfl); (case c4 => exact rfl); k_whole; intro g' L' h' FG' F' N' B' X' T'; (try dsimp only); (try k_lift B'); (try k_fold))
  k_steps
  exact hret _ _ (by assumption) (by assumption)

def jn : List (List Nat) → List Nat
  | [] => []
  | [w] => w
  | w :: v :: r => w ++ 32 :: jn (v :: r)
theorem jn_cons (wd : List Nat) (r : List (List Nat)) : jn (wd :: r) = wd ++ (if r = [] then [] else 32 :: jn r) := by
  cases r with
  | nil => simp [jn]
  | cons v r => simp [jn]
theorem strs_push {acc : Array Value} {ss : List PySem.Str} {z : PySem.Str} {t : Tok} (h : StrsAre acc.toList ss) : StrsAre (acc.push (.str z t)).toList (ss ++ [z]) := by
  rw [Array.toList_push]
  exact strs_app h (.cons _ _ .nil)
def LdS (P : Params) (ks : Nat → Tok) (X D lx d pb fs : Addr) (x : PySem.Str) (q1 q2 q3 t1 t2 : Tok) (news : List (Addr × Obj)) (wl : List (List Nat)) (i : Nat) (led : List (Addr × Obj)) : Prop :=
  ∃ (j : Nat) (t3 ts v15 : Tok), led = Led P ks X D lx d pb fs x (j : Int) q1 q2 q3 t1 t2 t3 (if i = wl.length then .none else .str (Str.ofString " ") ts) (Str.ofString "") v15 news ∧
    (if i = wl.length then j = x.length else x.cps.toList.drop j = jn (wl.drop i))
theorem news_mid {h₀ h : Heap} {L : Addr} {p : Addr × Obj} {l1 l2 : List (Addr × Obj)} : News h₀ L h (p :: (l1 ++ l2)) ↔ News h₀ L h (l1 ++ p :: l2) :=
  ⟨fun N q hq => N q (List.perm_middle.mem_iff.mp hq), fun N q hq => N q (List.perm_middle.mem_iff.mpr hq)⟩
theorem led_move {P : Params} {ks : Nat → Tok} {X D lx d pb fs : Addr} {x : PySem.Str} {j : Int} {q1 q2 q3 t1 t2 t3 : Tok} {st : Value} {tok : PySem.Str} {v15 : Tok} {news : List (Addr × Obj)} {p : Addr × Obj} {h₀ h : Heap} {L : Addr} :
    News h₀ L h (p :: Led P ks X D lx d pb fs x j q1 q2 q3 t1 t2 t3 st tok v15 news) ↔ News h₀ L h (Led P ks X D lx d pb fs x j q1 q2 q3 t1 t2 t3 st tok v15 (p :: news)) :=
  news_mid (l1 := [_, _, _, _, _, _])
theorem wd_len {x : PySem.Str} {j : Nat} {a b : List Nat} (h : x.cps.toList.drop j = a ++ b) (ha : a ≠ []) : j + a.length + b.length = x.length := by
  have e := congrArg List.length h
  rw [List.length_drop, List.length_append, Array.length_toList] at e
  have : a.length ≠ 0 := fun z => ha (List.length_eq_zero_iff.mp z)
  show _ = x.cps.size
  omega
theorem wd_next {x : PySem.Str} {j : Nat} {a r : List Nat} (h : x.cps.toList.drop j = a ++ 32 :: r) : x.cps.toList.drop (j + a.length + 1) = r := by
  rw [Nat.add_assoc, ← List.drop_drop, h]
  simp [List.drop_append]
theorem split_list (w : World) (mean : ExcName → Option Value) (mg mb : PySem.Str → Option Value) (news : CbLed) (ks : Nat → Tok) (q1 q2 q3 t1 t2 t3 v15 ts : Tok) (X D lx d pb fs : Addr) (x : PySem.Str) (hl : x.length < 200)
    (o1 : @LT.lt Nat _ d lx) (o2 : @LT.lt Nat _ lx D) (o3 : @LT.lt Nat _ D X) (o4 : @LT.lt Nat _ X pb) (o5 : @LT.lt Nat _ pb fs)
    (a1 : ∀ p ∈ news, p.1 < d) (wl : List (List Nat)) (hwl : wl.length < 200) (hne : wl ≠ []) (hx : x.cps.toList = jn wl) (hw : ∀ v ∈ wl, v.head? = some 61 ∧ ∀ c ∈ v, safeC c = true) :
    ∀ {pp : PySem.Program} {ll : List PySem.Str} (dp un : Nat) (gd : Option (List Code)) (cn : PySem.Str) (cs : Scope) (a : Addr) (ccd : Value) (cl : List (PySem.Str × Addr)) (outer : List Env) (A₀ : Around) (base h₀ : Heap) (L : Addr) (m : PySem.Str → Option Value) (s : Shared) (Q E : Value → Shared → Prop),
    Below A₀ base outer h₀ → Fr h₀ L s.heap m → (hk.heap_1 w.params).In h₀ → News h₀ L s.heap (Led w.params ks X D lx d pb fs x (0 : Int) q1 q2 q3 t1 t2 t3 (.str (Str.ofString " ") ts) (Str.ofString "") v15 news) → Top pp ll mean mg mb h₀ → cs.kind = .function →
    dp + 12 < recursionLimit → un + 100 < cLine →
    (∀ (S : Addr) (kk : Nat) (us : Array Value) (h₀' h' : Heap) (tk' : Nat), StrsAre us.toList (wl.map toS) → (∀ p ∈ news, p.1 < S) → KtsTurn (Fs outer) h₀ h₀' → Fr h₀' L h' m → Below A₀ base outer h₀' → News h₀' L h' ((S, W.listOf us kk) :: news) → Q (.ref S) { s with heap := h', toks := tk' }) →
      wpAny (model PySem.Challenge.rw_il0189_01.row.prog w) (ktrTop dp un gd cn cs L a ccd cl outer) (call (.type "list") [.ref lx]) Q E s := by
  intro pp ll dp un gd cn cs a ccd cl outer A₀ base h₀ L m s Q E B F1 X₀ N1 T hcs hd hu hret
  have hn0 : wl.length ≠ 0 := fun z => hne (List.length_eq_zero_iff.mp z)
  refine list_own (C := 789) (f := 779) (ox := instObj 789 d) (od := some (lexD w.params ks X pb fs (.str (Str.ofString " ") ts) (Str.ofString "") v15)) (n := wl.length) (LdS w.params ks X D lx d pb fs x q1 q2 q3 t1 t2 news wl) (fun i acc => StrsAre acc.toList ((wl.take i).map toS) ∧ i ≤ wl.length) (by unfold sizeLine; omega) F1 N1 X₀ (fun h hh => ⟨hh (lx, instObj 789 d) (by simp [Led]), rfl, rfl, hh (d, _) (by simp [Led])⟩) ⟨instObj 789 d, by simp [Led]⟩ (by k_is) (by k_is) ⟨_, by k_is⟩ (by k_is) (by k_is) ?_ ?_ ?_ ⟨by simpa using StrsAre.nil, Nat.zero_le _⟩ ?_ ?_ ?_
  · rintro i led ⟨j, t3', ts', v15', rfl, _⟩ p hp
    have := List.mem_map_of_mem (f := (·.1)) hp
    exact this
  · rintro i acc ⟨hP, hi⟩
    have := StrsAre.length hP
    rw [List.length_map, List.length_take, Array.length_toList] at this
    omega
  · exact ⟨0, t3, ts, v15, by rw [if_neg (Ne.symm hn0)]; rfl, by rw [if_neg (Ne.symm hn0)]; simpa using hx⟩
  · rintro S c s' E' hS ⟨h9, tk9, rfl⟩ F3 N3
    exact c_it w mean mg mb _ lx dp (un + 1 + 1) gd cn cs a ccd cl outer A₀ base h₀ L m _ _ E' B F3 X₀ N3 T hcs (by omega) fun h' tk' F4 N4 => ⟨rfl, ⟨_, _, rfl⟩, F4, N4⟩
  · rintro S c i acc led s' E' hi ⟨j, t3', ts', v15', rfl, hj⟩ ⟨hP, _⟩ hS ⟨h9, tk9, rfl⟩ F3 N3
    have hin : i ≠ wl.length := Nat.ne_of_lt hi
    rw [if_neg hin] at hj N3
    have hd1 : ∀ b ∈ [X, D, lx, d, pb, fs], b < S := fun b hb => by
      have h' : b ∈ (Led w.params ks X D lx d pb fs x (j : Int) q1 q2 q3 t1 t2 t3' (if i = wl.length then .none else .str (Str.ofString " ") ts') (Str.ofString "") v15' news).map (·.1) := by
        simp only [Led, List.map_cons, List.mem_cons] at hb ⊢
        rcases hb with e | e | e | e | e | e | e <;> simp_all
      obtain ⟨q, hq, e⟩ := List.mem_map.mp h'
      rw [← e]
      exact hS q hq
    have off : ∀ b ∈ [X, D, lx, d, pb, fs], d ≤ b → ∀ p ∈ (S, W.listOf acc c) :: news, p.1 ≠ b := fun b hb hdb p hp => by
      rcases List.mem_cons.mp hp with rfl | hp
      · exact Ne.symm (Nat.ne_of_lt (hd1 b hb))
      · have := a1 p hp
        exact Nat.ne_of_lt (Nat.lt_of_lt_of_le this hdb)
    have hwi : wl.drop i = wl[i] :: wl.drop (i + 1) := List.drop_eq_getElem_cons hi
    rw [hwi, jn_cons] at hj
    have hwd := hw wl[i] (List.getElem_mem hi)
    have hw0 : wl[i] ≠ [] := fun z => by rw [z] at hwd; cases hwd.1
    have o1' : d < lx := o1
    have o2' : lx < D := o2
    have o3' : D < X := o3
    have o4' : X < pb := o4
    have o5' : pb < fs := o5
    have d0 : d ≤ lx := by unfold Addr at *; omega
    have d1 : d ≤ D := by unfold Addr at *; omega
    have d2 : d ≤ X := by unfold Addr at *; omega
    have d3 : d ≤ pb := by unfold Addr at *; omega
    have d4 : d ≤ fs := by unfold Addr at *; omega
    refine c_nx w mean mg mb ((S, W.listOf acc c) :: news) ks q1 q2 q3 t1 t2 t3' v15' ts' X D lx d pb fs x hl o1 o2 o3 o4 o5 (off d (by simp) (Nat.le_refl _)) (off lx (by simp) d0) (off D (by simp) d1) (off X (by simp) d2) (off pb (by simp) d3) (off fs (by simp) d4) j wl[i] (if wl.drop (i + 1) = [] then [] else 32 :: jn (wl.drop (i + 1))) hj hwd.1 hwd.2 (by split; exact .inl rfl; exact .inr ⟨_, rfl⟩)
      dp (un + 1 + 1) gd cn cs a ccd cl outer A₀ base h₀ L m _ _ E' B F3 X₀ (led_move.mp N3) T hcs (by omega) (by omega) fun t t3'' ts'' v15'' st h' tk' hst F4 N4 => ?_
    refine ⟨_, _, rfl, ⟨?_, hi⟩, ⟨(if (if wl.drop (i + 1) = [] then [] else 32 :: jn (wl.drop (i + 1))) = [] then x.length else j + wl[i].length + 1), t3'', ts'', v15'', rfl, ?_⟩, ⟨_, _, rfl⟩, F4, ?_⟩
    · rw [List.take_add_one, List.getElem?_eq_getElem hi, List.map_append]
      exact strs_push hP
    · by_cases e : i + 1 = wl.length
      · have : wl.drop (i + 1) = [] := by rw [e]; exact List.drop_length
        rw [if_pos e, this]; simp
      · have : wl.drop (i + 1) ≠ [] := fun z => e (by have := congrArg List.length z; rw [List.length_drop] at this; simp at this; omega)
        rw [if_neg this] at hj
        rw [if_neg e, if_neg this, if_neg (by simp)]
        exact wd_next hj
    · refine led_move.mpr ?_
      have he : st = (if i + 1 = wl.length then .none else .str (Str.ofString " ") ts'') := by
        rw [hst]
        by_cases e : i + 1 = wl.length
        · have : wl.drop (i + 1) = [] := by rw [e]; exact List.drop_length
          rw [if_pos e, this]; simp
        · have : wl.drop (i + 1) ≠ [] := fun z => e (by have := congrArg List.length z; rw [List.length_drop] at this; simp at this; omega)
          rw [if_neg e, if_neg this, if_neg (by simp)]
      rw [he] at N4
      exact N4
  · rintro S c acc led s' E' ⟨j, t3', ts', v15', rfl, hj⟩ ⟨hP, _⟩ hS ⟨h9, tk9, rfl⟩ F3 N3
    rw [if_pos rfl] at hj N3
    subst hj
    have hd1 : ∀ b ∈ [X, D, lx, d, pb, fs], b < S := fun b hb => by
      have h' : b ∈ (Led w.params ks X D lx d pb fs x ((x.length : Nat) : Int) q1 q2 q3 t1 t2 t3' (if wl.length = wl.length then .none else .str (Str.ofString " ") ts') (Str.ofString "") v15' news).map (·.1) := by
        simp only [Led, List.map_cons, List.mem_cons] at hb ⊢
        rcases hb with e | e | e | e | e | e | e <;> simp_all
      obtain ⟨q, hq, e⟩ := List.mem_map.mp h'
      rw [← e]
      exact hS q hq
    have off : ∀ b ∈ [X, D, lx, d, pb, fs], d ≤ b → ∀ p ∈ (S, W.listOf acc c) :: news, p.1 ≠ b := fun b hb hdb p hp => by
      rcases List.mem_cons.mp hp with rfl | hp
      · exact Ne.symm (Nat.ne_of_lt (hd1 b hb))
      · have := a1 p hp
        exact Nat.ne_of_lt (Nat.lt_of_lt_of_le this hdb)
    have o1' : d < lx := o1
    have o2' : lx < D := o2
    have o3' : D < X := o3
    have o4' : X < pb := o4
    have o5' : pb < fs := o5
    have d0 : d ≤ lx := by unfold Addr at *; omega
    have d1 : d ≤ D := by unfold Addr at *; omega
    have d2 : d ≤ X := by unfold Addr at *; omega
    have d3 : d ≤ pb := by unfold Addr at *; omega
    have d4 : d ≤ fs := by unfold Addr at *; omega
    refine c_nx0 w mean mg mb ((S, W.listOf acc c) :: news) ks q1 q2 q3 t1 t2 t3' v15' X D lx d pb fs x hl o1 o2 o3 o4 o5 (off d (by simp) (Nat.le_refl _)) (off lx (by simp) d0) (off D (by simp) d1) (off X (by simp) d2) (off pb (by simp) d3) (off fs (by simp) d4)
      dp (un + 1 + 1) gd cn cs a ccd cl outer A₀ base h₀ L m _ _ E' B F3 X₀ (led_move.mp N3) T hcs (by omega) (by omega) fun t3'' v15'' h₀' h' tk' Tn F4 B4 N4 => ?_
    refine ⟨rfl, hret S c acc h₀' h' tk' (by rw [List.take_length] at hP; exact hP) (fun p hp => hS p (by simp [Led, hp])) Tn F4 B4 fun q hq => N4 q ?_⟩
    simp only [List.mem_cons] at hq
    simp only [Led, List.mem_cons]
    rcases hq with e | e <;> simp [e]
end Mine
end

section
open PySem PySem.W PySem.Spec PySem.Calls PyProof.Rows PyProof.V
set_option maxRecDepth 100000
set_option maxHeartbeats 0
namespace Mine
local macro_rules | `(tactic| k_room) => `(tactic| ktr_room)
local macro_rules | `(tactic| walk_at "call ref") => `(tactic| (k_here; with_reducible refine stopC 654 ?_))
local macro_rules | `(tactic| walk_at "call type:collections.deque") => `(tactic| (k_here; refine Stop.out ?_))
local macro_rules | `(tactic| walk_at "call type:list") => `(tactic| (k_here; refine Stop.out ?_))
def tk28 (t0 t1 t2 t3 t4 t5 t6 t7 t8 t9 t10 t11 t12 t13 t14 t15 t16 t17 t18 t19 t20 t21 t22 t23 t24 t25 t26 t27 : Tok) : Nat → Tok
  | 0 => t0 | 1 => t1 | 2 => t2 | 3 => t3 | 4 => t4 | 5 => t5 | 6 => t6 | 7 => t7 | 8 => t8 | 9 => t9 | 10 => t10 | 11 => t11 | 12 => t12 | 13 => t13 | 14 => t14 | 15 => t15 | 16 => t16 | 17 => t17 | 18 => t18 | 19 => t19 | 20 => t20 | 21 => t21 | 22 => t22 | 23 => t23 | 24 => t24 | 25 => t25 | 26 => t26 | 27 => t27 | _ => 0
theorem led_of {P : Params} {ks : Nat → Tok} {X D lx d pb fs : Addr} {x : PySem.Str} {q1 q2 q3 t1 t2 t3 : Tok} {st : Value} {tok : PySem.Str} {v15 : Tok} {news : List (Addr × Obj)} {h₀ h : Heap} {L : Addr}
    (N : News h₀ L h ((fs, dqObj) :: (pb, dqObj) :: (X, instObj 654 D) :: (D, sioD P x (0 : Int) q1 q2 q3 t1 t2 t3) :: (lx, instObj 789 d) :: (d, lexD P ks X pb fs st tok v15) :: news)) :
    News h₀ L h (Led P ks X D lx d pb fs x (0 : Int) q1 q2 q3 t1 t2 t3 st tok v15 news) := fun q hq => N q (by
  rcases List.mem_cons.mp hq with rfl | hq
  · repeat (first | exact List.mem_cons_self .. | apply List.mem_cons_of_mem)
  rcases List.mem_cons.mp hq with rfl | hq
  · repeat (first | exact List.mem_cons_self .. | apply List.mem_cons_of_mem)
  rcases List.mem_cons.mp hq with rfl | hq
  · repeat (first | exact List.mem_cons_self .. | apply List.mem_cons_of_mem)
  rcases List.mem_cons.mp hq with rfl | hq
  · repeat (first | exact List.mem_cons_self .. | apply List.mem_cons_of_mem)
  rcases List.mem_cons.mp hq with rfl | hq
  · repeat (first | exact List.mem_cons_self .. | apply List.mem_cons_of_mem)
  rcases List.mem_cons.mp hq with rfl | hq
  · repeat (first | exact List.mem_cons_self .. | apply List.mem_cons_of_mem)
  · repeat (first | exact hq | apply List.mem_cons_of_mem))
theorem c_split (w : World) (mean : ExcName → Option Value) (mg mb : PySem.Str → Option Value) (news : CbLed) (x : PySem.Str) (t : Tok) (hl : x.length < 200) (wl : List (List Nat)) (hwl : wl.length < 200) (hne : wl ≠ []) (hx : x.cps.toList = jn wl) (hw : ∀ v ∈ wl, v.head? = some 61 ∧ ∀ c ∈ v, safeC c = true) :
  ∀ {pp : PySem.Program} {ll : List PySem.Str} (dp un : Nat) (gd : Option (List Code)) (cn : PySem.Str) (cs : Scope) (a : Addr) (ccd : Value) (cl : List (PySem.Str × Addr)) (outer : List Env) (A₀ : Around) (base h₀ : Heap) (L : Addr) (m : PySem.Str → Option Value) (s : Shared) (Q E : Value → Shared → Prop),
    Below A₀ base outer h₀ → Fr h₀ L s.heap m → (hk.heap_1 w.params).In h₀ → News h₀ L s.heap news → Top pp ll mean mg mb h₀ → KtsDicts (Fs outer) h₀ → cs.kind = .function →
    dp + 20 < recursionLimit → un + 400 < cLine →
    (∀ (S : Addr) (kk : Nat) (us : Array Value) (h₀' h' : Heap) (tk' : Nat), StrsAre us.toList (wl.map toS) → (∀ p ∈ news, p.1 < S) → KtsTurn (Fs outer) h₀ h₀' → Fr h₀' L h' m → Below A₀ base outer h₀' → News h₀' L h' ((S, W.listOf us kk) :: news) → Q (.ref S) { s with heap := h', toks := tk' }) →
      wpAny (model PySem.Challenge.rw_il0189_01.row.prog w) (ktrTop dp un gd cn cs L a ccd cl outer) (call (.ref 801) [Value.str x t]) Q E s := by
  k_fill; intros; rename_i hret
  refine wpAny_call ?_
  k_dflt (refine' code_defT (binds := [(Str.ofString "s", Value.str x t), (Str.ofString "comments", Value.bool false), (Str.ofString "posix", Value.bool true)]) ?k1 ?k2 ?k3 ?k4 ?k5 ?kD ?kA ?kF ?kK ?k6 ?k7 ?k8 ?k9 ?kB ?_ ?c2 ?c3 ?c4 ?c5; (case kA => exact rfl); (case kF => exact rfl); (case kK => assumption); (case k1 => k_asm); (case k2 => k_asm); (case k3 => k_asm); (case k4 => k_asm); (case k5 => k_asm); (case kD => assumption); (case k6 => k_is); (case k7 => k_is); (case k8 => ktr_room); (case k9 => first | exact BindsTo.of_eq rfl | exact binds_K (by k_in) rfl (by k_is) rfl rfl rfl); (case c5 => decide); (case kB => exact locs rfl); (case c2 => exact rfl); (case c3 => exact rfl); (case c4 => exact rfl); k_whole; intro g' L' h' FG' F' N' B' X' T' D'; (try dsimp only); (try k_lift B'); (try k_fold))
  k_steps
  refine Stop.into ?_
  k_dflt (refine' c_sio _ _ _ _ _ _ _ ?qhl _ _ _ _ _ _ _ _ _ _ _ _ _ _ _ _ _ ?q1 ?q2 ?q3 ?q4 ?q5 ?qK ?qd ?qu ?qR; (case qhl => assumption); (case q1 => k_asm); (case q2 => k_asm); (case q3 => k_asm); (case q4 => k_asm); (case q5 => k_asm); (case qK => first | exact rfl | assumption); (case qd => ktr_room); (case qu => ktr_units))
  intro D9 X9 k19 k29 k39 t19 t29 t39 h9 tk9 l1 l2 F9 N9
  (try k_lt l1)
  (try k_lt2 l2)
  (try dsimp only)
  (try k_fold)
  k_steps
  refine Stop.into ?_
  k_dflt (refine' dq_call ?u11 ?u12 ?_; (case u11 => k_asm); (case u12 => k_asm); k_whole)
  intro D9 h9 F9 N9 l1
  (try k_lt l1)
  k_steps
  refine Stop.into ?_
  k_dflt (refine' dq_call ?u21 ?u22 ?_; (case u21 => k_asm); (case u22 => k_asm); k_whole)
  intro D9 h9 F9 N9 l1
  (try k_lt l1)
  k_steps
  refine Stop.into ?_
  rename Fr _ _ _ _ => f9
  rename News _ _ _ _ => n9
  rename KtsDicts (Fs (_ :: _)) _ => d9
  have n8 := led_of (ks := tk28 _ _ _ _ _ _ _ _ _ _ _ _ _ _ _ _ _ _ _ _ _ _ _ _ _ _ _ _) n9
  k_dflt (refine' split_list w mean mg mb news _ _ _ _ _ _ _ _ _ _ _ _ _ _ _ x hl ?o1 ?o2 ?o3 ?o4 ?o5 ?a1 wl hwl hne hx hw _ _ _ _ _ _ _ _ _ _ _ _ _ _ _ _ _ ?k1 f9 ?k3 n8 ?k5 ?kK ?kd ?ku ?kR)
  (case k1 => k_asm)
  (case k3 => k_asm)
  (case k5 => k_asm)
  (case kK => first | exact rfl | assumption)
  (case kd => ktr_room)
  (case ku => ktr_units)
  (case o1 => omega)
  (case o2 => omega)
  (case o3 => omega)
  (case o4 => omega)
  (case o5 => omega)
  (case a1 => assumption)
  intro S9 k9 u9 h₁ h2 tk2 hs9 ho9 T9 F9 B9 N9
  exact leaveT_ F9 N9 T9 fun g1 t1 f1 n1 b1 => hret _ _ _ _ _ _ hs9 ho9 t1 f1 b1 n1
end Mine
end
end

section
open PySem PySem.W PySem.Spec PySem.Calls PyProof.Rows PyProof.V
set_option maxRecDepth 100000
set_option maxHeartbeats 0
namespace Mine
def LeaveA (R : Result → Shared → Prop) (v : Value) (s' : Shared) : Prop := R (.ok (.ret v)) s'
section
variable {prog : PySem.Program} {w : World} {A : Around} {s : Shared} {K : Frag} {p : PySem.Program} {loose : List PySem.Str} {mean : ExcName → Option Value} {mg mb : PySem.Str → Option Value}
  {R : Result → Shared → Prop} {name qual : PySem.Str} {params : Arguments} {body : List Stmt} {scope : Scope} {dV kV doc pm cdv ct oc : Value} {an od : Option Addr} {osl : Array (Option Value)} {f : Addr} {args : Args} {binds : List (PySem.Str × Value)}
/-- a call of a def from anywhere; the ground is the whole heap at the call -/
theorem code_defA (X : K.In s.heap) (T : Top p loose mean mg mb s.heap) (ho : K.lookup f = some ⟨oc, od, .func (fnOf name qual params body scope dV kV doc pm an cdv ct), osl⟩) (hcd : codeIn K cdv qual = true) (hroom : A.depth < recursionLimit)
    (hbind : BindsTo s (fnOf name qual params body scope dV kV doc pm an cdv ct) args binds) (hloc : ∀ y ∈ binds, scope.names.lookup y.1 = some .local)
    (h : ∀ L' h₁, Fr s.heap L' h₁ (fun y => binds.reverse.lookup y) → News s.heap L' h₁ [] →
      wpAny (model prog w) (A.deeper (envOf qual scope L' f cdv)) (execs body (envOf qual scope L' f cdv))
        (fun fl s' => LeaveA R (match fl with | .ret v => v | _ => .none) s')
        (fun e s' => wpAny (model prog w) (A.deeper (envOf qual scope L' f cdv)) (leaving (envOf qual scope L' f cdv) e) (fun _ s'' => R (.error e) s'') (fun e' s'' => R (.error e') s'') s')
        { s with heap := h₁, toks := s.toks + binds.length })
    (hco : scope.isCoroutine = false) (hgen : scope.isGenerator = false) (hk : scope.kind = .function) (hcell : ∀ x ∈ scope.names, x.2 ≠ .cell) : codeAny (model prog w) A (.call (.ref f) args) R s :=
  codeAny_call_def (fd := fnOf name qual params body scope dV kV doc pm an cdv ct) (body := body) (binds := binds) hroom (X _ _ ho) rfl T.nolimit (codeRec_of X hcd) rfl hbind hcell hloc (fun h₁ hns hk₁ => h _ h₁ ⟨hns, hk₁, Nat.le_refl _⟩ fun _ h => nomatch h) hco hgen hk
end
local macro_rules | `(tactic| k_room) => `(tactic| ktr_room)
local macro_rules | `(tactic| walk_at "truthy str") => `(tactic| (k_here; refine ts64 ?_))
local macro_rules | `(tactic| walk_at "callWith ref") => `(tactic| ((with_reducible show wpAny _ _ (callWith _ (Value.ref 809) _ _ _) _ _ _); refine Stop.out ?_))
theorem c_qA {pp : PySem.Program} {ll : List PySem.Str} (w : World) (mean : ExcName → Option Value) (mg mb : PySem.Str → Option Value) (x : PySem.Str) (t : Tok) (hx : 0 < x.length) (hl : x.length < 64) (hsafe : ∀ c ∈ x.cps.toList, safeC c = true) :
    ∀ (A : Around) (s : Shared) (Q E : Value → Shared → Prop), A.handled = none → A.depth + 5 < recursionLimit → A.units + 60 < cLine → (hk.heap_1 w.params).In s.heap → Top pp ll mean mg mb s.heap →
    (∀ t h' tk', (∀ b o, s.heap.get? b = some o → h'.get? b = some o) → Q (.str x t) { s with heap := h', toks := tk' }) →
    wpAny (model PySem.Challenge.rw_il0189_01.row.prog w) A (call (.ref 816) [.str x t]) Q E s := by
  k_fill; intro A s Q E _hh hd hu X T hret
  refine wpAny_call ?_
  k_dflt (refine' code_defA ?k3 ?k5 ?k6 ?k7 ?k8 ?k9 ?kB ?_ ?c2 ?c3 ?c4 ?c5; (case k3 => assumption); (case k5 => assumption); (case k6 => k_is); (case k7 => k_is); (case k8 => omega); (case k9 => first | exact BindsTo.of_eq rfl | exact binds_K (by k_in) rfl (by k_is) rfl rfl rfl); (case c5 => decide); (case kB => exact locs rfl); (case c2 => exact rfl); (case c3 => exact rfl); (case c4 => exact rfl); k_whole; intro L' h' F' N'; (try dsimp only); (try k_fold))
  k_steps
  · refine Stop.into ?_
    rename Fr _ _ _ _ => F2
    rename Frag.In _ _ => X2
    have KX := Frag.In.keeps X2 F2.keep
    obtain ⟨h9, h6, h5⟩ := pat_K KX
    refine callWith_B ⟨_, _, _, h9⟩ ?_
    k_steps
    · exact ⟨_, _, _, h9⟩
    · refine call_search h9 h6 h5 hsafe hx hl (looks_instIn KX (by kernel_rfl)) ?_ (looks_typeIn (v := .ref 106) KX (by kernel_rfl)) ?_
      · obtain ⟨_, _, _, _, _, _, _, _, _, _, e6⟩ := h6
        exact (Looks.ld e6).andThen .now
      · k_steps
        (rename Fr _ _ _ _ => F9)
        exact hret _ _ _ F9.keep
  · exfalso; omega
end Mine
end

section
open PySem PySem.W PySem.Spec PySem.Calls PyProof.Rows PyProof.V
set_option maxRecDepth 100000
set_option maxHeartbeats 0
namespace Mine
section
variable {h : Heap} {P : Addr} {ps : Array Value} {m mg mb : PySem.Str → Option Value} {K : Frag} {p : PySem.Program} {loose : List PySem.Str} {mean : ExcName → Option Value}
theorem rg_get {b : Addr} {o : Obj} (hP : h.get? P = some (tabObj #[])) (e : h.get? b = some o) (hn : o ≠ tabObj #[]) : (regrown h P ps).get? b = some o :=
  regrown_other h P ps b o (fun q => hn (by rw [q, hP] at e; exact (Option.some.inj e).symm)) e
theorem rg_ns {a : Addr} {mm : PySem.Str → Option Value} (hP : h.get? P = some (tabObj #[])) (x : h.Ns a mm) : (regrown h P ps).Ns a mm :=
  let ⟨o, es, ep, e, hd, r⟩ := x; ⟨o, es, ep, rg_get hP e (fun q => by rw [q] at hd; cases hd), hd, r⟩
theorem rg_K (hP : h.get? P = some (tabObj #[])) (X : K.In h) (hK : noTabs K = true) : K.In (regrown h P ps) := fun a o e => by
  refine rg_get hP (X a o e) fun q => ?_
  have h2 := List.all_eq_true.mp hK (a, o) (mem_of_lookupK e)
  subst q
  exact absurd (show false = true from h2) Bool.false_ne_true
abbrev looseT (p : PySem.Program) (loose : List PySem.Str) : List PySem.Str := loose ++ (recsOf p).map (·.name) ++ (litsOf p).map (·.1) ++ (clssOf p loose).map (·.name)
theorem rg_top (hP : h.get? P = some (tabObj #[])) (T : Top p loose mean mg mb h) : Top topProg (looseT p loose) mean mg mb (regrown h P ps) where
  g := rg_ns hP T.g
  b := rg_ns hP T.b
  nolimit := let ⟨mc, a, r⟩ := T.nolimit; ⟨mc, rg_ns hP a, r⟩
  nodigits := let ⟨mc, a, r⟩ := T.nodigits; ⟨mc, rg_ns hP a, r⟩
  fn := fun d hd => absurd (show d ∈ ([] : List DefRec) from hd) List.not_mem_nil
  own := fun o ho => absurd (show o ∈ ([] : List OwnSpec) from ho) List.not_mem_nil
  const := fun x d e => by cases (show (none : Option PyData) = some d from e)
  free := fun x h1 h2 _ _ _ => T.free x h1 (fun q => h2 (List.mem_append_left _ (List.mem_append_left _ (List.mem_append_left _ q))))
    (fun q => h2 (List.mem_append_left _ (List.mem_append_left _ (List.mem_append_right _ q)))) (fun q => h2 (List.mem_append_left _ (List.mem_append_right _ q))) fun q => h2 (List.mem_append_right _ q)
  builtins := T.builtins
  tab := fun d hd => absurd (show d ∈ ([] : List DefRec) from hd) List.not_mem_nil
  bmain := let ⟨bm, ob, a1, a2, a3, a4, r⟩ := T.bmain; ⟨bm, ob, a1, a2, rg_get hP a3 (fun q => by rw [q] at a4; cases a4), a4, r⟩
  seer := fun e => absurd (show false = true from e) Bool.false_ne_true
end
section
variable {M : Model} {A : Around} {E : Value → Shared → Prop} {s : Shared} {scope : Scope} {cl : List (PySem.Str × Addr)} {C : Addr} {code : Value} {env : Env} {x : PySem.Str} {pos : Pos} {v : Value} {Q : Value → Shared → Prop} {K : Frag} {h₀ : Heap} {m mg mb : PySem.Str → Option Value} {p : PySem.Program} {loose : List PySem.Str} {mean : ExcName → Option Value}
theorem nameG_K (F : Fr h₀ C s.heap m) (X : K.In h₀) (T : Top p loose mean mg mb h₀) (e : nsIn K mainGlobals x = some (some v)) (h : Q v s)
    (hg : env.globals = mainGlobals := by rfl) (hk : scope.kind = .function := by rfl) (hx : (genEnv scope cl C code builtinsNs env).kindOf x = some .globalImplicit := by rfl) (hd : (x == ("__debug__" : PySem.Str)) = false := by decide) :
    wpAny M A (eval (.Name x pos) (genEnv scope cl C code builtinsNs env)) Q E s :=
  Name_function_global hk hx (loadGlobal_global (env := genEnv scope cl C code builtinsNs env) (show s.heap.Ns env.globals mg from hg ▸ T.g.keeps F.keep) (mg_of X T.g e) h) hd
theorem nameG_L (F : Fr h₀ C s.heap m) (hv : m x = some v) (h : Q v s)
    (hk : scope.kind = .function := by rfl) (hx : (genEnv scope cl C code builtinsNs env).kindOf x = some .local := by rfl) (hd : (x == ("__debug__" : PySem.Str)) = false := by decide) :
    wpAny M A (eval (.Name x pos) (genEnv scope cl C code builtinsNs env)) Q E s := wpAny_Name (wpAny_loadName_local hk hx F.ns hv h) hd
end
theorem fold_len : ∀ (l : List PySem.Str) (a : Nat), (∀ x ∈ l, x.length < 64) → l.foldl (fun a (x : PySem.Str) => a + x.length + (Str.ofString " ").length) a ≤ a + 65 * l.length
  | [], a, _ => by simp
  | x :: r, a, h => by
    have h1 := h x (List.mem_cons_self ..)
    have h2 := fold_len r (a + x.length + (Str.ofString " ").length) fun y hy => h y (List.mem_cons_of_mem _ hy)
    have h3 : (Str.ofString " ").length = 1 := by decide
    rw [List.foldl_cons, List.length_cons]
    rw [h3] at h2 ⊢
    omega
theorem joinOk_small (l : List PySem.Str) (hn : l.length ≤ 64) (h : ∀ x ∈ l, x.length < 64) : JoinOk (Str.ofString " ") l = true := by
  have h1 := fold_len l 0 h
  unfold JoinOk
  rw [List.foldl_toArray]
  have h2 : ¬ (l.foldl (fun a (x : PySem.Str) => a + x.length + (Str.ofString " ").length) 0 > sizeLine) := by unfold sizeLine; omega
  show (!(decide (l.foldl (fun a (x : PySem.Str) => a + x.length + (Str.ofString " ").length) 0 > sizeLine))) = true
  rw [decide_eq_false h2]
  rfl
theorem gr_ex {g h : Heap} {L : Addr} {m : PySem.Str → Option Value} (_F : Fr g L h m) : ∃ g2, g2 = g := ⟨_, rfl⟩
theorem inR {h h' : Heap} {P C : Addr} {ps : Array Value} {m : PySem.Str → Option Value} {K : Frag} (_F : Fr (regrown h P ps) C h' m) (hP : h.get? P = some (tabObj #[])) (X : K.In h) (hK : noTabs K = true) : K.In (regrown h P ps) := rg_K hP X hK
theorem topR {h h' : Heap} {P C : Addr} {ps : Array Value} {m mg mb : PySem.Str → Option Value} {p : PySem.Program} {loose : List PySem.Str} {mean : ExcName → Option Value} (_F : Fr (regrown h P ps) C h' m) (hP : h.get? P = some (tabObj #[])) (T : Top p loose mean mg mb h) : Top topProg (looseT p loose) mean mg mb (regrown h P ps) := rg_top hP T
theorem fr_ex {g h : Heap} {L : Addr} {m : PySem.Str → Option Value} (_F : Fr g L h m) : ∃ L9 m9, L9 = L ∧ m9 = m := ⟨_, _, rfl, rfl⟩
local macro_rules | `(tactic| k_room) => `(tactic| ktr_room)
local macro_rules | `(tactic| walk_at "eval GeneratorExp") => `(tactic| (refine Stop.out ?_))
local macro_rules | `(tactic| walk_at "eval Name") => `(tactic| (refine Stop.out ?_))
local macro_rules | `(tactic| walk_at "call ref") => `(tactic| (k_here; with_reducible refine stopC 816 ?_))
theorem c_join {pp : PySem.Program} {ll : List PySem.Str} (w : World) (mean : ExcName → Option Value) (mg mb : PySem.Str → Option Value) (l : Addr) (kk : Nat) (us : List Value) (ss : List PySem.Str) (hss : StrsAre us ss) (hn : us.length ≤ 64) (hok : ∀ x ∈ ss, 0 < x.length ∧ x.length < 64 ∧ ∀ c ∈ x.cps.toList, safeC c = true) :
    ∀ (A : Around) (s : Shared) (Q E : Value → Shared → Prop), A.handled = none → A.depth + 9 < recursionLimit → A.units + 100 < cLine → (hk.heap_1 w.params).In s.heap → Top pp ll mean mg mb s.heap → s.heap.get? 803 = some (tabObj #[]) → s.heap.get? l = some (W.listOf us.toArray kk) → AllBare s.gens →
    (∀ t ps s', AllBare s'.gens → s'.os = s.os → (∀ b o, (regrown s.heap 803 ps).get? b = some o → s'.heap.get? b = some o) → Q (.str (Txt.join (Str.ofString " ") ss) t) s') →
    wpAny (model PySem.Challenge.rw_il0189_01.row.prog w) A (call (.ref 808) [.ref l]) Q E s := by
  k_fill; intro A s Q E _hh hd hu X T hP hl hG hret
  have hC : CodeHd s.heap 807 803 := codeHd_of_K X (by kernel_rfl)
  obtain ⟨bm, ob, a1, a2, a3, a4, a5, a6⟩ := T.bmain
  have hnt : noTabs (hk.heap_1 w.params) = true := by kernel_rfl
  refine wpAny_call ?_
  k_dflt (refine' code_defA ?k3 ?k5 ?k6 ?k7 ?k8 ?k9 ?kB ?_ ?c2 ?c3 ?c4 ?c5; (case k3 => assumption); (case k5 => assumption); (case k6 => k_is); (case k7 => k_is); (case k8 => omega); (case k9 => first | exact BindsTo.of_eq rfl | exact binds_K (by k_in) rfl (by k_is) rfl rfl rfl); (case c5 => decide); (case kB => exact locs rfl); (case c2 => exact rfl); (case c3 => exact rfl); (case c4 => exact rfl); k_whole; intro L' h' F' N'; (try dsimp only); (try k_fold))
  k_steps
  refine Stop.into ?_
  (rename Fr _ _ _ _ => F1)
  (rename News _ _ _ _ => N5)
  obtain ⟨L9, m9, hL9, hm9⟩ := fr_ex F1
  subst hL9
  rw [← hm9] at F1
  have hm8 : m9 (Str.ofString "split_command") = some (.ref l) := by rw [hm9]; rfl
  clear hm9
  refine GeneratorExp_strsF (L := L9) (m := m9) (pz := fun _ => true) (d := fun x => .str x) (Based.start (hC.code hP trivial) (hC.tab hP) (by decide)) ⟨T.g, a1, a2, a3, a4, a5, a6⟩ rfl rfl _hh rfl rfl (by decide) rfl rfl rfl (by show A.depth + 1 < _; omega) ?_ (fun _ => rfl)
  refine nameX_L F1 hm8 ?_
  refine ⟨l, us, ss, _, rfl, ⟨_, F1.keep _ _ hl, rfl, _, rfl⟩, hss, F1, hG, T.nolimit.keeps F1.keep, Nat.le_refl _, F1.ns.lt, ?_, ?_, ?_⟩
  · intro c' C A' E' a t u m₂ _ _ _ _ _ _ _ _
    exact wpAny_pure (a := true) ⟨rfl, u.heap, u.toks, rfl, fun _ _ e => e⟩
  · intro c' C A' E' a t u m₂ hA hD hU ha _ F2 hm2 hLC hk2
    have X2 := inR F2 hP X hnt
    have T2 := topR F2 hP T
    obtain ⟨g2, hg2⟩ := gr_ex F2
    rw [← hg2] at F2 X2 T2
    clear hg2
    have hD' : A'.depth + 6 < recursionLimit := by have : A'.depth ≤ A.depth + 1 + 1 := hD; omega
    have hU' : A'.units + 70 < cLine := by have : A'.units ≤ A.units + 20 + 8 := Nat.le_trans hU (by show A.units + _ + 8 ≤ _; omega); omega
    clear hk2 hLC F1 hm8 hret hl hP X T hC N5
    refine Call_ ?_
    refine nameG_K F2 X2 T2 (by k_is) ?_
    k_steps
    refine Stop.into ?_
    refine nameG_L F2 hm2 ?_
    k_steps
    refine Stop.into ?_
    exact c_qA w mean mg mb a t (hok a ha).1 (hok a ha).2.1 (hok a ha).2.2 A' u _ E' hA (by omega) (by omega) (Frag.In.keeps X2 F2.keep) (Top.keeps T2 F2.keep) fun t' h' tk' hk9 => ⟨.str _ _, h', tk', rfl, hk9⟩
  · intro c' a s₅ B5 F5 G5 hos hk5 X5
    k_steps
    have hf : ss.filter (fun _ => true) = ss := List.filter_eq_self.mpr fun _ _ => rfl
    refine join_genSK (f := fun x => x) F5 G5 X5 (Nat.le_refl _) ?_ ?_ (by have := hss.length; unfold sizeLine; omega)
    · rw [hf, List.map_id']
      exact joinOk_small ss (by have := hss.length; omega) fun x hx => (hok x hx).2.1
    · intro s' t' F6 G6 hos6 _
      rw [hf, List.map_id']
      exact hret _ _ _ G6 (hos6.trans hos) F6.keep
end Mine
end

section
open PySem PySem.W PySem.Spec PySem.Calls PyProof.Rows PyProof.V
set_option maxRecDepth 100000
set_option maxHeartbeats 4000000
namespace Mine
theorem hideG {G : Prop} (h : ∀ P : Prop, (G → P) → P) : G := h G id
section
variable {prog : PySem.Program} {w : World} {A₀ : Around} {E : Value → Shared → Prop} {s' : Shared} {base g h : Heap} {outer : List Env} {L a e : Addr} {m : PySem.Str → Option Value} {name : PySem.Str} {scope : Scope} {cd : Value}
  {b₀ : Stmt} {suite : List Stmt} {pos np : Pos} {rest : List ExceptHandler} {Q : Flow → Shared → Prop} {news : List (Addr × Obj)} {KF : Frag}
  {p : PySem.Program} {loose : List PySem.Str} {mean : ExcName → Option Value} {mg mb : PySem.Str → Option Value} {x : PySem.Str} {X T' : String}
/-- an exception that a built-in raised in this frame is caught in this frame; the ground turns -/
theorem caught_new (K : Below A₀ base outer g) (F : Fr g L h m) (N : News g L h news) (hx : Heap.NewExc h s'.heap e X) (XB : KF.In base) (TB : Top p loose mean mg mb base)
    (ex : nsIn KF mainGlobals x = some none) (hv : bootBuiltins x = some (.type T')) (hn' : x ≠ "__name__")
    (hexc : isSubtype (.type T') (.type "BaseException") = pure true) (hnt : isSubtype (.type ((Manifest.find? T').elim "type" fun y => y.metatype)) (.type "tuple") = pure false) (hsub : isSubtype (.type X) (.type T') = pure true)
    (k : ∀ h' g', KtsTurn (Fs outer) g g' → Fr g' L h' m → News g' L h' news → Below A₀ base outer g' → KF.In g' → Top p loose mean mg mb g' →
      wpAny (model prog w) ((A₀.deeper (envOf name scope L a cd)).mark (some (.ref e))) (execs (b₀ :: suite) (envOf name scope L a cd)) Q E { s' with heap := h' })
    (hk : scope.kind = .function := by rfl) (hxk : (envOf name scope L a cd).kindOf x = some .globalImplicit := by rfl) (hd : (x == ("__debug__" : PySem.Str)) = false := by decide)
    (hE : PassesOwnAt (model prog w) ((A₀.deeper (envOf name scope L a cd)).mark (some (.ref e))) (A₀.deeper (envOf name scope L a cd)) (envOf name scope L a cd) E := by passes_own) :
    wpAny (model prog w) (A₀.deeper (envOf name scope L a cd)) (noteFrame (.ref e) (envOf name scope L a cd))
      (fun _ s₂ => wpAny (model prog w) (A₀.deeper (envOf name scope L a cd)) (setFlight (.ref e) none) (fun _ s₃ =>
        wpAny (model prog w) (A₀.deeper (envOf name scope L a cd)) (handleBy (.ref e) (envOf name scope L a cd) (.ExceptHandler (some (.Name x np)) none (b₀ :: suite) pos :: rest)) Q E s₃) E s₂) E s' := by
  have K' := K.push (name := name) (a := a) (cd := cd) F hk
  have hin : ∀ env ∈ (envOf name scope L a cd :: outer), ∀ b, env.frame = some b → b ∈ (envOf name scope L a cd :: outer).filterMap (·.frame) := fun env he b hb => List.mem_filterMap.mpr ⟨env, he, hb⟩
  have hl : ∀ q ∈ news, (hideAll h ((envOf name scope L a cd :: outer).filterMap (·.frame))).get? q.1 = some q.2 := fun q hq => by
    refine hideAll_get _ (N q hq).1 fun hm => ?_
    obtain ⟨env, he, hf⟩ := List.mem_filterMap.mp hm
    rcases List.mem_cons.mp he with rfl | he
    · exact (N q hq).2.1 (Option.some.inj hf).symm
    · obtain ⟨o, ho, _⟩ := (K.frames.mem (List.mem_filterMap.mpr ⟨env, he, hf⟩)).2
      rw [(N q hq).2.2] at ho; cases ho
  have hBh : ∀ b o, (hideAll h ((envOf name scope L a cd :: outer).filterMap (·.frame))).get? b = some o → s'.heap.get? b = some o := fun b o q => hx.keeps b o (of_hideAll _ q)
  have hBG : ∀ b o, h.get? b = some o → b ∉ (envOf name scope L a cd :: outer).filterMap (·.frame) → (hideAll h ((envOf name scope L a cd :: outer).filterMap (·.frame))).get? b = some o := fun b o q nm => hideAll_get _ q nm
  obtain ⟨ob, tp, he, hcls, hdt⟩ := hx.there
  have hen : (hideAll h ((envOf name scope L a cd :: outer).filterMap (·.frame))).get? e = none := by
    cases q : (hideAll h ((envOf name scope L a cd :: outer).filterMap (·.frame))).get? e with
    | none => rfl
    | some o => have := of_hideAll _ q; rw [hx.new] at this; cases this
  have hff := (funFrames_hide K'.frames hin).of_keeps fun b o hb _ => ⟨o, hx.keeps b o hb, rfl⟩
  unfold noteFrame
  simp only [show (envOf name scope L a cd).frame = some L from rfl]
  refine wpAny_bind (wpAny_field he hdt (x := .none) rfl ?_)
  rw [if_neg (by decide)]
  refine wpAny_entryW (a0 := tp) (Around.frames_deeper K.stack) hff rfl he hBh hen hdt (by show 1 < 6; decide) rfl fun h₄ hN => ?_
  obtain ⟨k1, k2, k3, k4⟩ := hN
  rw [hcls] at k3
  refine wpAny_landsW (s := { s' with heap := h₄ }) ⟨k1, hen, k2, k3⟩ fun h₅ hheld sm5 => ?_
  have sm : h.UpToSlots h₅ := ((Heap.UpToSlots.of_keeps hx.keeps).trans k4).trans sm5
  obtain ⟨g₅, T₅, F₅, K₅⟩ := kts_ground K F hBG hheld.1 sm
  have X₅ : KF.In g₅ := XB.keeps K₅.stays
  have P₅ : TopRead p loose mg mb g₅ := topRead_of (TB.keeps K₅.stays)
  obtain ⟨ob', hob, hobc⟩ := hheld.there
  refine wpAny_handleBy_builtin (X := X) (T := T') (b := true) hexc hnt hsub (name_B F₅ X₅ P₅ ex hv hn' ⟨rfl, ⟨ob', hob, hobc⟩, ?_⟩ hk hxk hd)
  refine lands_againW hheld fun h₆ hfl₆ hsm₆ => ?_
  obtain ⟨g₆, T₆, F₆, K₆⟩ := kts_ground K F hBG hfl₆.1 (sm.trans hsm₆)
  have hLB : (hideAll h ((envOf name scope L a cd :: outer).filterMap (·.frame))).get? L = none := hideAll_none _ (List.mem_filterMap.mpr ⟨_, .head _, rfl⟩)
  have N₆ : News g₆ L h₆ news := fun q hq => ⟨hfl₆.1 _ _ (hl q hq), (N q hq).2.1, T₆.none_ _ (N q hq).2.2⟩
  exact wpAny_passesOwnAt hE (k h₆ g₆ T₆ F₆ N₆ K₆ (XB.keeps K₆.stays) (TB.keeps K₆.stays))
end
section
variable {prog : PySem.Program} {w : World} {A : Around} {E : Value → Shared → Prop} {Q : Flow → Shared → Prop} {s : Shared} {env : Env} {g : Heap} {L : Addr} {test : Expr} {body : List Stmt} {pos : Pos} {m : PySem.Str → Option Value} {news : List (Addr × Obj)}
/-- a while whose turns may turn the ground -/
theorem while_turn (KK : Heap → Prop) (J : Nat → (PySem.Str → Option Value) → List (Addr × Obj) → Prop) {n₀ : Nat} (F : Fr g L s.heap m) (N : News g L s.heap news) (hK : KK g) (hJ : J n₀ m news)
    (turn : ∀ n g₁ m₁ news₁ h₁ tk₁ (QQ : Flow → Shared → Prop), (∀ (g' h' : Heap) (n' tk : Nat) (m₂ : PySem.Str → Option Value) (news₂ : List (Addr × Obj)), KK g' → Fr g' L h' m₂ → News g' L h' news₂ → n' < n → J n' m₂ news₂ → QQ .next { s with heap := h', toks := tk }) →
      (∀ v s₃, Q (.ret v) s₃ → QQ (.ret v) s₃) → KK g₁ → Fr g₁ L h₁ m₁ → News g₁ L h₁ news₁ → J n m₁ news₁ →
      wpAny (model prog w) A (isTrue test env (eval test env)) (fun b s₂ => if b = true then wpAny (model prog w) A (execs body env) QQ E s₂ else Q .next s₂) E { s with heap := h₁, toks := tk₁ })
    (hE : PassesOwn (model prog w) A env E := by passes_own) :
    wpAny (model prog w) A (exec (.While test body [] pos) env) Q E s := by
  refine wpAny_While (codeAny_whileLoop (fun n s' => ∃ g₁ h₁ tk₁ m₁ news₁, s' = { s with heap := h₁, toks := tk₁ } ∧ KK g₁ ∧ Fr g₁ L h₁ m₁ ∧ News g₁ L h₁ news₁ ∧ J n m₁ news₁) ?_ n₀ ⟨g, s.heap, s.toks, m, news, rfl, hK, F, N, hJ⟩)
  rintro n s' hZ
  refine hideG fun P0 hP0 => ?_
  obtain ⟨g₁, h₁, tk₁, m₁, news₁, rfl, K₁, F₁, N₁, J₁⟩ := hZ
  refine hP0 ?_
  clear hP0
  refine wpAny_mono (turn n g₁ m₁ news₁ h₁ tk₁ (fun f s₃ => match f with | .next => ∃ g' h' n' tk m₂ news₂, s₃ = { s with heap := h', toks := tk } ∧ KK g' ∧ Fr g' L h' m₂ ∧ News g' L h' news₂ ∧ n' < n ∧ J n' m₂ news₂ | .ret v => Q (.ret v) s₃ | _ => False)
    (fun g' h' n' tk m₂ news₂ a b c d e => ⟨g', h', n', tk, m₂, news₂, rfl, a, b, c, d, e⟩) (fun _ _ x => x) K₁ F₁ N₁ J₁) (fun b s₂ h₂ => ?_) hE
  cases b with
  | false =>
    simp only [Bool.false_eq_true, if_false] at h₂ ⊢
    exact wpAny_execs_nil h₂
  | true =>
    simp only [if_true] at h₂ ⊢
    refine wpAny_mono h₂ (fun f s₃ h₃ => ?_) hE
    cases f with
    | next =>
      obtain ⟨g', h', n', tk, m₂, news₂, rfl, a, b, c, d, e⟩ := h₃
      exact ⟨n', d, g', h', tk, m₂, news₂, rfl, a, b, c, e⟩
    | cont => exact h₃.elim
    | brk => exact h₃.elim
    | ret v => exact h₃
end
end Mine
end

section
open PySem PySem.W PySem.Spec PySem.Calls PyProof.Rows PyProof.V
set_option maxRecDepth 100000
set_option maxHeartbeats 4000000
namespace Mine
def isS (x : PySem.Str) : Value → Bool
  | .str y _ => y == x
  | _ => false
def rmV (x : PySem.Str) (vs : List Value) : List Value := vs.eraseIdx (vs.findIdx (isS x))
theorem rmV_cons_hit {x : PySem.Str} {t : Tok} {vs : List Value} : rmV x (.str x t :: vs) = vs := by
  simp [rmV, List.findIdx_cons, isS]
theorem rmV_cons_miss {x y : PySem.Str} {t : Tok} {vs : List Value} (h : y ≠ x) : rmV x (.str y t :: vs) = .str y t :: rmV x vs := by
  have : (y == x) = false := beq_eq_false_iff_ne.mpr h
  simp [rmV, List.findIdx_cons, isS, this]
theorem rmV_strs {x : PySem.Str} : ∀ {vs : List Value} {T : List PySem.Str}, StrsAre vs T → x ∈ T → StrsAre (rmV x vs) (T.erase x)
  | _, _, .cons y t h, hx => by
    by_cases e : y = x
    · subst e
      rw [rmV_cons_hit, List.erase_cons_head]
      exact h
    · rw [rmV_cons_miss e, List.erase_cons_tail (by simpa using e)]
      exact .cons _ _ (rmV_strs h ((List.mem_cons.mp hx).resolve_left fun z => e z.symm))
theorem strs_has {x : PySem.Str} : ∀ {vs : List Value} {T : List PySem.Str}, StrsAre vs T → x ∈ T → ∃ v ∈ vs, isS x v = true
  | _, _, .cons y t h, hx => by
    by_cases e : y = x
    · exact ⟨_, .head _, by simp [isS, e]⟩
    · obtain ⟨v, hv, hs⟩ := strs_has h ((List.mem_cons.mp hx).resolve_left fun z => e z.symm)
      exact ⟨v, .tail _ hv, hs⟩
theorem strs_hasNot {x : PySem.Str} : ∀ {vs : List Value} {T : List PySem.Str}, StrsAre vs T → x ∉ T → ∀ v ∈ vs, isS x v = false
  | _, _, .cons y t h, hx, v, hv => by
    rcases List.mem_cons.mp hv with rfl | hv
    · exact beq_eq_false_iff_ne.mpr fun z => hx (z ▸ .head _)
    · exact strs_hasNot h (fun z => hx (.tail _ z)) v hv
theorem strs_eq {x : PySem.Str} {t : Tok} : ∀ {vs : List Value} {T : List PySem.Str}, StrsAre vs T → ∀ y, y ∈ vs → MeetsSeq.EqGives y (.str x t) (isS x y)
  | _, _, .cons a u h, y, hy => by
    rcases List.mem_cons.mp hy with rfl | hy
    · exact eqGives_str a x u t
    · exact strs_eq h y hy
section
variable {prog : PySem.Program} {w : World} {A : Around} {E : Value → Shared → Prop} {s : Shared} {h₀ : Heap} {L D : Addr} {m : PySem.Str → Option Value} {news news' : List (Addr × Obj)} {n : Nat} {vs : List Value} {T : List PySem.Str} {x : PySem.Str} {t : Tok} {Q : Value → Shared → Prop}
theorem rem_miss (N : News h₀ L s.heap news) (hm : (D, W.listOf vs.toArray n) ∈ news) (hT : StrsAre vs T) (hx : x ∉ T) (hh : A.handled = none)
    (h : ∀ h' tk e, Heap.NewExc s.heap h' e "ValueError" → E (.ref e) { s with heap := h', toks := tk }) : wpAny (model prog w) A (call (.builtin "list.remove") [.ref D, .str x t]) Q E s :=
  call_meets PySem.F.slot_list_remove ⟨_, (N _ hm).1, rfl⟩ PySem.F.entry_list_remove (PySem.F.args_list_remove_2 _ _)
    (MeetsSeq.list_remove_none D vs.toArray n (.str x t) (isS x) (fun y hy => strs_eq hT y (by simpa using hy)) fun i hi => strs_hasNot hT hx _ (by simp)) ⟨(N _ hm).1, hh, h⟩
theorem rem_hit (F : Fr h₀ L s.heap m) (N : News h₀ L s.heap news) (U : Upd D (W.listOf vs.toArray n) (W.listOf (rmV x vs).toArray (n + 1)) news news') (hT : StrsAre vs T) (hx : x ∈ T) (hz : vs.length ≤ sizeLine)
    (h : ∀ h', Fr h₀ L h' m → News h₀ L h' news' → StrsAre (rmV x vs) (T.erase x) → Q .none { s with heap := h' }) : wpAny (model prog w) A (call (.builtin "list.remove") [.ref D, .str x t]) Q E s := by
  obtain ⟨pre, post, rfl, rfl, a', b'⟩ := U.split
  have z := N (D, W.listOf vs.toArray n) (List.mem_append.mpr (.inr (.head _)))
  obtain ⟨v, hv, hs⟩ := strs_has hT hx
  have hj : vs.findIdx (isS x) < vs.length := List.findIdx_lt_length_of_exists ⟨v, hv, hs⟩
  refine call_meets PySem.F.slot_list_remove ⟨_, z.1, rfl⟩ PySem.F.entry_list_remove (PySem.F.args_list_remove_2 _ _)
    (MeetsSeq.list_remove D vs.toArray n (.str x t) (isS x) (fun y hy => strs_eq hT y (by simpa using hy)) (vs.findIdx (isS x)) (by simpa using hj) (by simpa using List.findIdx_getElem (w := hj)) (fun i hi hlt => by simpa using List.not_of_lt_findIdx hlt) (by simpa using hz))
    ⟨z.1, h _ (F.change (Heap.SameBut.update ..) z.2.1 z.2.2) (ki_turn _ N a' b' ?_ ?_) (rmV_strs hT hx)⟩
  · show vs.toArray.eraseIdxIfInBounds _ = (rmV x vs).toArray
    apply Array.toList_inj.mp
    simp [Array.toList_eraseIdxIfInBounds, rmV]
  · have hq : (rmV x vs).toArray.size ≠ vs.toArray.size := by
      rw [List.size_toArray, List.size_toArray, rmV, List.length_eraseIdx_of_lt hj]; omega
    rw [if_neg (by simpa using hq)]
theorem pop_last : ∀ {vs : List Value} {T : List PySem.Str}, StrsAre vs T → 0 < vs.length → ∃ y t, vs = vs.dropLast ++ [y] ∧ y = Value.str (T.getLastD (Str.ofString "")) t ∧ StrsAre vs.dropLast T.dropLast
  | _, _, .cons k t .nil, _ => ⟨.str k t, t, rfl, rfl, .nil⟩
  | _, _, .cons k t (.cons k' t' r), _ => by
    obtain ⟨y, u, h1, h2, h3⟩ := pop_last (.cons k' t' r) (Nat.succ_pos _)
    exact ⟨y, u, congrArg (List.cons (Value.str k t)) h1, h2, .cons k t h3⟩
theorem pop_str (F : Fr h₀ L s.heap m) (N : News h₀ L s.heap news) (U : Upd D (W.listOf vs.toArray n) (W.listOf vs.dropLast.toArray (n + 1)) news news') (hi : StrsAre vs T) (hne : 0 < vs.length)
    (hz : vs.length ≤ sizeLine) (h : ∀ h' t, Fr h₀ L h' m → News h₀ L h' news' → StrsAre vs.dropLast T.dropLast → Q (.str (T.getLastD (Str.ofString "")) t) { s with heap := h' }) : wpAny (model prog w) A (call (.builtin "list.pop") [.ref D]) Q E s := by
  obtain ⟨y, t, h1, h2, h3⟩ := pop_last hi hne
  subst h2
  refine kl_pop F N (p := vs.dropLast) (y := .str (T.getLastD (Str.ofString "")) t) ?_ U (by simpa using hz) fun h' F' N' => h h' t F' N' h3
  have e := kpa_last (.str (T.getLastD (Str.ofString "")) t) vs.dropLast
  rw [← h1] at e
  simpa using e
end
end Mine
end

section
open PySem PySem.W PySem.Spec PySem.Calls PyProof.Rows PyProof.V
set_option maxRecDepth 100000
set_option maxHeartbeats 0
namespace Mine
/-- what unorderable_list_difference does: S from its end on -/
def uldR : List PySem.Str → List PySem.Str → List PySem.Str → List PySem.Str × List PySem.Str
  | [], T, M => (M, T)
  | x :: r, T, M => if x ∈ T then uldR r (T.erase x) M else uldR r T (M ++ [x])
theorem uld_step {S T M : List PySem.Str} (h : S ≠ []) : uldR S.reverse T M = if S.getLastD (Str.ofString "") ∈ T then uldR S.dropLast.reverse (T.erase (S.getLastD (Str.ofString ""))) M else uldR S.dropLast.reverse T (M ++ [S.getLastD (Str.ofString "")]) := by
  have e : S = S.dropLast ++ [S.getLastD (Str.ofString "")] := by
    conv => lhs; rw [← List.dropLast_concat_getLast h]
    rw [List.getLastD_eq_getLast?, List.getLast?_eq_some_getLast h]
    rfl
  conv => lhs; rw [e, List.reverse_append]
  rfl
section
variable {prog : PySem.Program} {w : World} {A : Around} {E : Value → Shared → Prop} {s : Shared} {h₀ : Heap} {L D : Addr} {news : List (Addr × Obj)} {n : Nat} {vs : List Value} {T : List PySem.Str} {Q : Bool → Shared → Prop}
theorem truthy_strs (N : News h₀ L s.heap news) (hm : (D, W.listOf vs.toArray n) ∈ news) (hT : StrsAre vs T) (hz : T.length ≤ 64) (h : Q (decide (0 < T.length)) { s with toks := s.toks + 1 + 1 }) : wpAny (model prog w) A (truthy (.ref D)) Q E s :=
  wpAny_truthy_list (N.isList hm) (by have := hT.length; simp only [List.size_toArray]; omega) (by
    have e : (!vs.toArray.isEmpty) = decide (0 < T.length) := by
      cases hT with
      | nil => rfl
      | cons _ _ _ => simp
    rw [e]; exact h)
end
def KKt (A₀ : Around) (base : Heap) (outer : List Env) (g0 g1 : Heap) : Prop := KtsTurn (Fs outer) g0 g1 ∧ Below A₀ base outer g1
def Ju (ml e b : Addr) (news : List (Addr × Obj)) (S T : List PySem.Str) (n : Nat) (m₁ : PySem.Str → Option Value) (led : List (Addr × Obj)) : Prop :=
  ∃ (us vs ms : List Value) (ke kb km : Nat) (S' T' M' : List PySem.Str), n = S'.length ∧ StrsAre us S' ∧ StrsAre vs T' ∧ StrsAre ms M' ∧ T'.length ≤ 32 ∧ M'.length + S'.length ≤ 32 ∧ uldR S'.reverse T' M' = uldR S.reverse T [] ∧
    m₁ (Str.ofString "expected") = some (.ref e) ∧ m₁ (Str.ofString "actual") = some (.ref b) ∧ m₁ (Str.ofString "missing") = some (.ref ml) ∧ led = (ml, W.listOf ms.toArray km) :: (e, W.listOf us.toArray ke) :: (b, W.listOf vs.toArray kb) :: news
theorem pullU {f : PySem.Str → Option Value} {a b c : PySem.Str} {va vb vc : Option Value} (ha : f a = va) (hb : f b = vb) (hc : f c = vc) : ∃ u : PySem.Str → Option Value, f = fun y => if y = a then va else if y = b then vb else if y = c then vc else u y := by
  refine ⟨f, ?_⟩
  funext y
  by_cases e : y = a
  · subst e; simp [ha]
  · by_cases e2 : y = b
    · subst e2; simp [e, hb]
    · by_cases e3 : y = c
      · subst e3; simp [e, e2, hc]
      · simp [e, e2, e3]
local macro_rules | `(tactic| k_room) => `(tactic| ktr_room)
local macro_rules | `(tactic| walk_at "exec While") => `(tactic| (refine Stop.out ?_))
local macro_rules | `(tactic| walk_at "exec While Name") => `(tactic| (refine Stop.out ?_))
local macro_rules | `(tactic| walk_at "exec While Name cons nil") => `(tactic| (refine Stop.out ?_))
local macro_rules | `(tactic| k_all) => `(tactic| first | assumption | (refine allNe ?_; assumption))
local macro_rules | `(tactic| walk_at "truthy ref") => `(tactic| (k_here; refine Stop.out ?_))
local macro_rules | `(tactic| walk_at "call builtin:list.pop") => `(tactic| (k_here; refine Stop.out ?_))
local macro_rules | `(tactic| walk_at "call builtin:list.remove") => `(tactic| (k_here; refine Stop.out ?_))
local macro_rules | `(tactic| walk_at "noteFrame ref") => `(tactic| (refine Stop.out ?_))
local macro_rules | `(tactic| walk_at "LeaveT") => `(tactic| (refine Stop.out ?_))
theorem allLt_mem {d : Nat} : ∀ {l : List (Addr × Obj)}, AllLt d l → ∀ p ∈ l, p.1 < d := by
  intro l
  induction l with
  | nil => intro _ p hp; cases hp
  | cons q r ih =>
    intro h p hp
    rcases List.mem_cons.mp hp with e | hp
    · rw [e]; exact h.1
    · exact ih h.2 p hp
theorem c_uld (w : World) (mean : ExcName → Option Value) (mg mb : PySem.Str → Option Value) (news : CbLed) (e b : Addr) (us vs : List Value) (ke kb : Nat) (S T : List PySem.Str) (hS : StrsAre us S) (hT : StrsAre vs T) (hSl : S.length ≤ 32) (hTl : T.length ≤ 32) (heb : @LT.lt Nat _ e b)
    (a1 : ∀ p ∈ news, p.1 ≠ e) (a2 : ∀ p ∈ news, p.1 ≠ b) :
    ∀ {pp : PySem.Program} {ll : List PySem.Str} (dp un : Nat) (gd : Option (List Code)) (cn : PySem.Str) (cs : Scope) (a : Addr) (ccd : Value) (cl : List (PySem.Str × Addr)) (outer : List Env) (A₀ : Around) (base h₀ : Heap) (L : Addr) (m : PySem.Str → Option Value) (s : Shared) (Q E : Value → Shared → Prop),
    Below A₀ base outer h₀ → Fr h₀ L s.heap m → (hk.heap_1 w.params).In h₀ → (hk.heap_1 w.params).In base → News h₀ L s.heap ((e, W.listOf us.toArray ke) :: (b, W.listOf vs.toArray kb) :: news) → Top pp ll mean mg mb h₀ → Top pp ll mean mg mb base → KtsDicts (Fs outer) h₀ → cs.kind = .function →
    dp + 10 < recursionLimit → un + 60 < cLine →
    (∀ (tt ml : Addr) (km ke' kb' : Nat) (ms vs' : List Value) (h₀' h' : Heap) (tk' : Nat), StrsAre ms (uldR S.reverse T []).1 → StrsAre vs' (uldR S.reverse T []).2 → (∀ p ∈ news, p.1 < ml) → KtsTurn (Fs outer) h₀ h₀' → Fr h₀' L h' m → Below A₀ base outer h₀' →
      News h₀' L h' ((tt, { cls := .type "tuple", data := .seq #[.ref ml, .ref b] }) :: (ml, W.listOf ms.toArray km) :: (e, W.listOf #[] ke') :: (b, W.listOf vs'.toArray kb') :: news) → Q (.ref tt) { s with heap := h', toks := tk' }) →
      wpAny (model PySem.Challenge.rw_il0189_01.row.prog w) (ktrTop dp un gd cn cs L a ccd cl outer) (call (.ref 51) [.ref e, .ref b]) Q E s := by
  k_fill; intro pp ll dp un gd cn cs a ccd cl outer A₀ base h₀ L m s Q E B0 F0 X0 XB N0 T0 TB D0 hcs hd hu hret
  refine wpAny_call ?_
  k_dflt (refine' code_defT (binds := [(Str.ofString "expected", Value.ref e), (Str.ofString "actual", Value.ref b)]) ?k1 ?k2 ?k3 ?k4 ?k5 ?kD ?kA ?kF ?kK ?k6 ?k7 ?k8 ?k9 ?kB ?_ ?c2 ?c3 ?c4 ?c5; (case kA => exact rfl); (case kF => exact rfl); (case kK => assumption); (case k1 => k_asm); (case k2 => k_asm); (case k3 => assumption); (case k4 => k_asm); (case k5 => assumption); (case kD => assumption); (case k6 => k_is); (case k7 => k_is); (case k8 => ktr_room); (case k9 => first | exact BindsTo.of_eq rfl | exact binds_K (by k_in) rfl (by k_is) rfl rfl rfl); (case c5 => decide); (case kB => exact locs rfl); (case c2 => exact rfl); (case c3 => exact rfl); (case c4 => exact rfl); k_whole; intro g' L' h' FG' F' N' B' X' T' D'; (try dsimp only); (try k_lift B'); (try k_fold))
  k_steps
  refine Stop.into ?_
  rename Below _ _ (_ :: _) _ => B1
  rename Fr _ _ _ _ => F1
  rename News _ _ _ _ => N1
  refine while_turn (n₀ := S.length) (KKt _ _ _ _) (Ju _ e b news S T) F1 N1 ⟨KtsTurn.refl, B1⟩ ⟨us, vs, [], ke, kb, 0, S, T, [], rfl, hS, hT, .nil, hTl, by simpa using hSl, rfl, by with_unfolding_all rfl, by with_unfolding_all rfl, by with_unfolding_all rfl, rfl⟩ ?_
  rintro n g₁ m₁ news₁ h₁ tk₁ QQ hN hR ⟨tn, B2⟩ F2 N2 hZ
  refine hide fun P0 hP0 => ?_
  obtain ⟨us', vs', ms', ke', kb', km', S', T', M', rfl, hS', hT', hM', hTl', hMl', hE, e1, e2, e3, rfl⟩ := hZ
  refine hP0 ?_
  clear hP0
  obtain ⟨u, rfl⟩ := pullU e1 e2 e3
  clear F1 N1
  have X2 := Frag.In.keeps XB B2.stays
  have T2 := Top.keeps TB B2.stays
  have hus : us'.length = S'.length := hS'.length
  k_steps
  refine Stop.into ?_
  k_dflt (refine' truthy_strs ?N ?m ?hT ?z ?_; (case N => k_asm); (case m => k_mem); (case hT => assumption); (case z => omega))
  k_steps
  · refine Stop.into ?_
    (try dsimp only)
    k_dflt (refine' pop_str ?pF ?pN ?pU ?pi ?pl ?pz ?_; (case pF => k_asm); (case pN => k_asm); (case pU => k_upd); (case pi => assumption); (case pl => omega); (case pz => (unfold sizeLine; omega)))
    (intro h9 t9 F9 N9 hI9)
    k_steps
    refine Stop.into ?_
    (try dsimp only [List.cons_append, List.nil_append])
    rename Fr _ _ _ _ => F5
    rename News _ _ _ _ => N5
    have hI5 : StrsAre us'.dropLast S'.dropLast := by with_reducible assumption
    have hz : S' ≠ [] := fun z => by subst z; simp at *
    have hpos : 0 < S'.length := List.length_pos_iff.mpr hz
    have hdl : S'.dropLast.length = S'.length - 1 := List.length_dropLast
    have hstep := uld_step (T := T') (M := M') hz
    rw [hE] at hstep
    by_cases hx : S'.getLastD (Str.ofString "") ∈ T'
    · rw [if_pos hx] at hstep
      have hel : (T'.erase (S'.getLastD (Str.ofString ""))).length ≤ 32 := Nat.le_trans (List.length_erase_le) hTl'
      k_dflt (refine' rem_hit F5 N5 ?U hT' hx ?z ?_; (case U => k_upd); (case z => (have := hT'.length; unfold sizeLine; omega)))
      intro h9 F9 N9 hI9
      clear F5 N5
      k_steps
      exact hN _ _ S'.dropLast.length _ _ _ ⟨tn, B2⟩ F9 N9 (by omega) ⟨_, _, ms', _, _, _, S'.dropLast, _, M', rfl, hI5, hI9, hM', hel, by omega, hstep.symm, by with_unfolding_all rfl, by with_unfolding_all rfl, by with_unfolding_all rfl, rfl⟩
    · rw [if_neg hx] at hstep
      refine rem_miss N5 (by k_mem) hT' hx rfl fun h9 tk9 e9 hx9 => ?_
      k_steps
      refine Stop.into ?_
      refine caught_new B2 F5 N5 hx9 XB TB (by k_is) PyProof.Rows.Boot.«ValueError» (by decide) PySem.F.isExc_ValueError PySem.F.notTuple_ValueError (by rw [isSubtype_type]; kernel_rfl) ?_
      intro h8 g8 t8 F8 N8 B8 X8 T8
      have tn8 := tn.trans t8
      clear F5 N5 B2 tn t8 hx9
      k_steps
      rename Fr _ _ _ _ => F7
      rename News _ _ _ _ => N7
      exact hN _ _ S'.dropLast.length _ _ _ ⟨tn8, B8⟩ F7 N7 (by omega) ⟨_, vs', ms' ++ [_], _, _, _, S'.dropLast, T', _, rfl, hI5, hT', strs_app hM' (.cons _ _ .nil), hTl', by rw [List.length_append, List.length_singleton]; omega, hstep.symm, by with_unfolding_all rfl, by with_unfolding_all rfl, by with_unfolding_all rfl, by rw [List.push_toArray]⟩
  · refine Stop.into ?_
    rename Fr _ _ _ _ => F5
    rename News _ _ _ _ => N5
    with_reducible rename @LT.lt Nat _ e _ ∧ _ ∧ AllLt _ _ => l1
    obtain rfl : S' = [] := List.length_eq_zero_iff.mp (by omega)
    obtain rfl : us' = [] := List.length_eq_zero_iff.mp hus
    have hE2 : (M', T') = uldR S.reverse T [] := hE
    exact leaveT_ F5 N5 tn fun h₀' t1 f1 n1 b1 => hret _ _ _ _ _ ms' vs' _ _ _ (by rw [← hE2]; exact hM') (by rw [← hE2]; exact hT') (allLt_mem l1.2.2) t1 f1 b1 n1
end Mine
end

section
open PySem PySem.W PySem.Spec PySem.Calls PyProof.Rows PyProof.V
set_option maxRecDepth 100000
set_option maxHeartbeats 0
namespace Mine
open LCg LCt
section
variable {prog : PySem.Program} {w : World} {A : Around} {E : Value → Shared → Prop} {s : Shared} {h₀ : Heap} {L : Addr} {m : PySem.Str → Option Value} {env : Env}
def SrcST (prog : PySem.Program) (w : World) (A : Around) (h₀ : Heap) (L : Addr) (m : PySem.Str → Option Value) (env : Env) (ct elt : Expr) (x : PySem.Str) (scope : Scope) (cl : List (PySem.Str × Addr)) (Fin : Shared → List Value → List (Addr × Obj) → Prop) (xv : Value) (s₁ : Shared) : Prop :=
  ∃ (y : PySem.Str) (t : Tok) (news : List (Addr × Obj)), xv = .str y t ∧ A.handled = none ∧ Fr h₀ L s₁.heap m ∧ News h₀ L s₁.heap news ∧ y.cps.size ≤ sizeLine ∧
    ∀ s₂ : Shared, (∃ h, s₂ = { s₁ with heap := h }) → CompRestT prog w A h₀ L m env ct elt x scope cl s₂ (fun _ => True) (SignAt y) (Fin s₂) y.cps.size 0 [] news
theorem SrcST.intro {ct elt : Expr} {x : PySem.Str} {scope : Scope} {cl : List (PySem.Str × Addr)} {Fin : Shared → List Value → List (Addr × Obj) → Prop} {y : PySem.Str} {t : Tok} {news : List (Addr × Obj)} {s₁ : Shared}
    (hh : A.handled = none) (F : Fr h₀ L s₁.heap m) (N : News h₀ L s₁.heap news) (hz : y.cps.size ≤ sizeLine)
    (h : ∀ g, CompRestT prog w A h₀ L m env ct elt x scope cl { s₁ with heap := g } (fun _ => True) (SignAt y) (Fin { s₁ with heap := g }) y.cps.size 0 [] news) :
    SrcST prog w A h₀ L m env ct elt x scope cl Fin (.str y t) s₁ := ⟨y, t, news, rfl, hh, F, N, hz, fun _ ⟨g, e⟩ => e ▸ h g⟩
theorem ListComp_ST {ct elt iter : Expr} {x : PySem.Str} {px : Pos} {scope : Scope} {cl : List (PySem.Str × Addr)} {pos : Pos} {Q : Value → Shared → Prop} (F₀ : Fr h₀ L s.heap m)
    (hclos : closureFor scope env = pure cl) (hcell : ∀ y ∈ scope.names, y.2 ≠ .cell) (hkind : scope.kind = .function)
    (hnames : ∀ y ∈ scope.names, y.2 = .local → scope.names.lookup y.1 = some .local) (hx : scope.names.lookup x = some .local)
    (h : wpAny (model prog w) A (eval iter env) (SrcST prog w A h₀ L m env ct elt x scope cl (fun s₂ => FinE h₀ L m s₂ Q)) E s)
    (hs : ∀ x, foldedSetIterable iter env x = pure x := by intro _; rfl) :
    wpAny (model prog w) A (eval (.ListComp elt [⟨.Name x px, iter, [ct], 0⟩] scope pos) env) Q E s := by
  rw [eval_ListComp]
  refine wpAny_comprehension_free (use := none) rfl hs hclos hkind hnames (wpAny_mono h (fun xv s₁ h₁ => ?_) fun _ _ e => e)
  obtain ⟨y, t, news, rfl, hh, F, N, hsz, R⟩ := h₁
  cases ha : y.cps.all (· < 128)
  · refine wpAny_pyIter_wide ha ?_
    refine block_T (Walks.strWide hh s₁.heap.objs.size y t) hsz (fun i h st => by obtain ⟨o, e, _⟩ := st; exact ⟨o, e⟩) str_st hcell hkind hx ⟨_, Heap.get?_push_size _ rfl, rfl, rfl⟩ (fun b hb => ?_)
      (F.keeps fun _ _ e => Heap.get?_push_of_some _ e) (N.grown fun _ _ e => Heap.get?_push_of_some _ e) (Nat.ne_of_lt F.ns.lt) (next_is_new F) (fun p hp => Nat.ne_of_lt (Heap.lt_size (N p hp).1)) trivial (R _ ⟨_, rfl⟩) ?_
    · rw [List.mem_singleton.mp hb]
      show s₁.heap.objs.size < (s₁.heap.push _).objs.size
      rw [Heap.size_push]; exact Nat.lt_succ_self _
    · intro D C h tk m' ys news' F' N' o1 hn hC₀ hD₀ hCL hDL hCD offC f
      refine ⟨m', hn, fun h'' hs'' => f D h'' tk (F'.change hs'' hCL hC₀) (fun p hp => ?_) o1⟩
      refine ⟨hs''.extBut _ _ ?_ (N' p hp).1, (N' p hp).2⟩
      rcases List.mem_cons.mp hp with rfl | hp
      · exact Ne.symm hCD
      · exact offC p hp
  · refine wpAny_pyIter_ascii ha ?_
    refine block_T (Walks.strAscii hh s₁.heap.objs.size y t) hsz (fun i h st => by obtain ⟨o, e, _⟩ := st; exact ⟨o, e⟩) str_st hcell hkind hx ⟨_, Heap.get?_push_size _ rfl, rfl, rfl⟩ (fun b hb => ?_)
      (F.keeps fun _ _ e => Heap.get?_push_of_some _ e) (N.grown fun _ _ e => Heap.get?_push_of_some _ e) (Nat.ne_of_lt F.ns.lt) (next_is_new F) (fun p hp => Nat.ne_of_lt (Heap.lt_size (N p hp).1)) trivial (R _ ⟨_, rfl⟩) ?_
    · rw [List.mem_singleton.mp hb]
      show s₁.heap.objs.size < (s₁.heap.push _).objs.size
      rw [Heap.size_push]; exact Nat.lt_succ_self _
    · intro D C h tk m' ys news' F' N' o1 hn hC₀ hD₀ hCL hDL hCD offC f
      refine ⟨m', hn, fun h'' hs'' => f D h'' tk (F'.change hs'' hCL hC₀) (fun p hp => ?_) o1⟩
      refine ⟨hs''.extBut _ _ ?_ (N' p hp).1, (N' p hp).2⟩
      rcases List.mem_cons.mp hp with rfl | hp
      · exact Ne.symm hCD
      · exact offC p hp
theorem rest_filter {ct elt : Expr} {x : PySem.Str} {scope : Scope} {cl : List (PySem.Str × Addr)} {S : List (Addr × Obj) → Prop} {P : Nat → Value → Prop} {Fin : List Value → List (Addr × Obj) → Prop} {news : List (Addr × Obj)} {n : Nat} (g : Nat → PySem.Str) (pz : Nat → Bool)
    (turn : ∀ i v I oI C oC D m₂ ys h tk (E' : Value → Shared → Prop), i < n → P i v → NsObj oC m₂ → m₂ x = some v → Fr h₀ L h m → News h₀ L h ((I, oI) :: (C, oC) :: (D, lst ys) :: news) → Off3 I C D news → ((@Ne Nat I C) ∧ (@Ne Nat I D) ∧ (@Ne Nat C D)) →
      wpAny (model prog w) A (isTrue ct (compEnvC scope cl C env) (eval ct (compEnvC scope cl C env))) (fun ok s' => if ok = true then
        wpAny (model prog w) A (eval elt (compEnvC scope cl C env)) (CompEnd h₀ L m { s with heap := h, toks := tk } I oI C oC D (lst ys) S (fun y news' => pz i = true ∧ ElStr news (g i) y news')) E' s'
        else CompEnd h₀ L m { s with heap := h, toks := tk } I oI C oC D (lst ys) S (fun _ news' => pz i = false ∧ news' = news) Value.none s') E' { s with heap := h, toks := tk })
    (fin : ∀ ys, StrsAre ys (((List.range n).filter pz).map g) → Fin ys news) : CompRestT prog w A h₀ L m env ct elt x scope cl s S P Fin n 0 [] news := by
  have key : ∀ (j i : Nat) (ys : List Value), i + j = n → StrsAre ys (((List.range i).filter pz).map g) → CompRestT prog w A h₀ L m env ct elt x scope cl s S P Fin j i ys news := by
    intro j
    induction j with
    | zero =>
      intro i ys hi hy
      have e : i = n := by omega
      subst e
      exact CompRestT.zero (fin ys hy)
    | succ j ih =>
      intro i ys hi hy
      refine CompRestT.succ ?_
      intro v I oI C oC D m₂ h tk E' hv hC hx F N off ne
      refine wpAny_mono (turn i v I oI C oC D m₂ ys h tk E' (by omega) hv hC hx F N off ne) (fun ok s₂ hq => ?_) fun _ _ e => e
      cases ok with
      | true =>
        simp only [if_true] at hq ⊢
        refine wpAny_mono hq (fun y s₃ hq => ?_) fun _ _ e => e
        obtain ⟨h', tk', nw, e, F', N', off', hS, hp, hn, t', hy'⟩ := hq
        rw [hn] at N' off' hS
        refine ⟨h', tk', news, e, F', N', off', hS, ?_⟩
        rw [hy']
        refine ih (i + 1) _ (by omega) ?_
        rw [List.range_succ, List.filter_append, List.map_append]
        refine strs_app hy ?_
        rw [List.filter_cons_of_pos (by exact hp)]
        exact .cons _ _ .nil
      | false =>
        simp only [Bool.false_eq_true, if_false] at hq ⊢
        obtain ⟨h', tk', nw, e, F', N', off', hS, hp, hn⟩ := hq
        rw [hn] at N' off' hS
        refine ⟨h', tk', news, e, F', N', off', hS, ?_⟩
        refine ih (i + 1) _ (by omega) ?_
        rw [List.range_succ, List.filter_append, List.map_append, List.filter_cons_of_neg (by simp [hp])]
        simpa using hy
  exact key n 0 [] (by omega) (by simpa using StrsAre.nil)
end
end Mine
end

section
namespace Mine
open List

/-! the plain law: rows are lists of codes -/

theorem app_lt : ∀ {a b s t : List Nat}, a.length = b.length → a < b → a ++ s < b ++ t
  | [], [], _, _, _, h => absurd h (List.lt_irrefl _)
  | x :: a, y :: b, s, t, hl, h => by
    rcases List.cons_lt_cons_iff.mp h with h1 | ⟨h1, h2⟩
    · exact List.cons_lt_cons_iff.mpr (.inl h1)
    · exact List.cons_lt_cons_iff.mpr (.inr ⟨h1, app_lt (by simpa using hl) h2⟩)
  | [], _ :: _, _, _, hl, _ => by simp at hl
  | _ :: _, [], _, _, hl, _ => by simp at hl

theorem app_lt_iff {a b s : List Nat} (hl : a.length = b.length) : a ++ s < b ++ s ↔ a < b := by
  constructor
  · intro h
    rcases Classical.em (a < b) with h1 | h1
    · exact h1
    rcases Classical.em (b < a) with h2 | h2
    · exact absurd (app_lt (s := s) (t := s) hl.symm h2) (List.lt_asymm h)
    · have : a = b := List.le_antisymm h2 h1
      subst this
      exact absurd h (List.lt_irrefl _)
  · exact app_lt hl

/-- right turn by one -/
def rot1 (r : List Nat) : List Nat := r.getLastD 0 :: r.dropLast

theorem split_last {r : List Nat} (h : r ≠ []) : r.dropLast ++ [r.getLastD 0] = r := by
  rw [List.getLastD_eq_getLast?, List.getLast?_eq_some_getLast h]
  simpa using List.dropLast_concat_getLast h

theorem rot1_inj {a b : List Nat} (ha : a ≠ []) (hb : b ≠ []) (h : rot1 a = rot1 b) : a = b := by
  unfold rot1 at h
  injection h with h1 h2
  rw [← split_last ha, ← split_last hb, h1, h2]

theorem rot1_len {r : List Nat} (h : r ≠ []) : (rot1 r).length = r.length := by
  have : 0 < r.length := List.length_pos_iff.mpr h
  simp [rot1]; omega

def srt (T : List (List Nat)) : Prop := T.Pairwise (fun a b => a ≤ b)

theorem srt_unique {S T : List (List Nat)} (hS : srt S) (hT : srt T) (h : S.Perm T) : S = T :=
  h.eq_of_pairwise (fun _ _ _ _ h1 h2 => List.le_antisymm h1 h2) hS hT

theorem srt_get {T : List (List Nat)} (h : srt T) {i j : Nat} (hi : i < T.length) (hj : j < T.length) (hij : i ≤ j) : T[i] ≤ T[j] := by
  rcases Nat.lt_or_ge i j with h1 | h1
  · exact List.pairwise_iff_getElem.mp h i j hi hj h1
  · have : i = j := by omega
    subst this; exact List.le_refl _

theorem countP_range_getElem {α} (p : α → Bool) (d : α) : ∀ (T : List α), T.countP p = (List.range T.length).countP (fun j => p (T.getD j d)) := by
  intro T
  induction T with
  | nil => rfl
  | cons x T ih =>
    rw [List.length_cons, List.range_succ_eq_map, List.countP_cons, List.countP_cons, List.countP_map, ih]
    rfl

theorem countP_take_range {α} (p : α → Bool) (d : α) (T : List α) (i : Nat) (hi : i ≤ T.length) :
    (T.take i).countP p = (List.range T.length).countP (fun j => decide (j < i) && p (T.getD j d)) := by
  induction T generalizing i with
  | nil => simp
  | cons x T ih =>
    cases i with
    | zero => simp
    | succ i =>
      rw [List.length_cons, List.range_succ_eq_map, List.countP_cons, List.take_succ_cons, List.countP_cons, List.countP_map, ih i (by simpa using hi)]
      simp [Function.comp_def]

theorem countP_or {α} (p q : α → Bool) (l : List α) (h : ∀ x ∈ l, p x = true → q x = true → False) :
    l.countP p + l.countP q = l.countP (fun x => p x || q x) := by
  induction l with
  | nil => rfl
  | cons x l ih =>
    have ih := ih fun y hy => h y (List.mem_cons_of_mem _ hy)
    have hx := h x (List.mem_cons_self ..)
    rw [List.countP_cons, List.countP_cons, List.countP_cons, ← ih]
    cases hp : p x <;> cases hq : q x <;> simp_all <;> omega

/-- what the law reckons of a place: the count of lesser last signs, and of like ones ahead -/
def nxt (la : List Nat) (i : Nat) : Nat := la.countP (fun c => decide (c < la.getD i 0)) + (la.take i).countP (fun c => decide (c = la.getD i 0))

def lastOf (T : List (List Nat)) : List Nat := T.map fun r => r.getLastD 0

/-- how often the row stands ahead of the place -/
def rnk (T : List (List Nat)) (i : Nat) : Nat := (T.take i).countP (fun t => decide (t = T.getD i []))

theorem nxt_eq {T : List (List Nat)} {n : Nat} (hn : ∀ t ∈ T, t.length = n) (h0 : 0 < n) (hs : srt T) {i : Nat} (hi : i < T.length) :
    nxt (lastOf T) i = T.countP (fun t => decide (rot1 t < rot1 (T.getD i []))) + rnk T i := by
  have hlen : (lastOf T).length = T.length := by simp [lastOf]
  have hla : ∀ j, j < T.length → (lastOf T).getD j 0 = (T.getD j []).getLastD 0 := by
    intro j hj
    simp [lastOf, List.getD_eq_getElem?_getD, hj]
  unfold nxt rnk
  rw [countP_range_getElem _ 0 (lastOf T), countP_take_range _ 0 (lastOf T) i (by omega), countP_range_getElem _ [] T, countP_take_range _ [] T i (by omega), hlen]
  rw [countP_or _ _ _ (by
    intro j _ h1 h2
    simp at h1 h2
    omega)]
  rw [countP_or _ _ _ (by
    intro j _ h1 h2
    simp only [Bool.and_eq_true, decide_eq_true_eq] at h1 h2
    rw [h2.2] at h1
    exact List.lt_irrefl _ h1)]
  refine List.countP_congr ?_
  intro j hj
  have hj := List.mem_range.mp hj
  simp only [Bool.or_eq_true, Bool.and_eq_true, decide_eq_true_eq]
  rw [hla j hj, hla i hi]
  have ei : T.getD i [] = T[i] := by simp [List.getD_eq_getElem?_getD, hi]
  have ej : T.getD j [] = T[j] := by simp [List.getD_eq_getElem?_getD, hj]
  rw [ei, ej]
  have ni : T[i].length = n := hn _ (List.getElem_mem ..)
  have nj : T[j].length = n := hn _ (List.getElem_mem ..)
  have xi : T[i] ≠ [] := fun e => by rw [e] at ni; simp at ni; omega
  have xj : T[j] ≠ [] := fun e => by rw [e] at nj; simp at nj; omega
  have dl : T[j].dropLast.length = T[i].dropLast.length := by simp; omega
  have key : rot1 T[j] < rot1 T[i] ↔ T[j].getLastD 0 < T[i].getLastD 0 ∨ T[j].getLastD 0 = T[i].getLastD 0 ∧ T[j].dropLast < T[i].dropLast := List.cons_lt_cons_iff
  rw [key]
  constructor
  · rintro (h | ⟨h1, h2⟩)
    · exact .inl (.inl h)
    · have hle : T[j] ≤ T[i] := srt_get hs hj hi (by omega)
      rcases Classical.em (T[j].dropLast < T[i].dropLast) with h3 | h3
      · exact .inl (.inr ⟨h2, h3⟩)
      · right
        refine ⟨h1, ?_⟩
        rcases Classical.em (T[i].dropLast < T[j].dropLast) with h4 | h4
        · have := app_lt (s := [T[i].getLastD 0]) (t := [T[j].getLastD 0]) dl.symm h4
          rw [split_last xi, split_last xj] at this
          exact absurd this hle
        · have : T[j].dropLast = T[i].dropLast := List.le_antisymm h4 h3
          rw [← split_last xi, ← split_last xj, this, h2]
  · rintro ((h | ⟨h1, h2⟩) | ⟨h1, h2⟩)
    · exact .inl h
    · right
      refine ⟨?_, h1⟩
      have := app_lt (s := [T[j].getLastD 0]) (t := [T[i].getLastD 0]) dl h2
      rw [split_last xi, split_last xj] at this
      rcases Nat.lt_or_ge j i with h3 | h3
      · exact h3
      · exact absurd this (srt_get hs hi hj h3)
    · exact .inr ⟨h1, by rw [h2]⟩

/-- where a row stands in a sorted list -/
theorem place_eq {T : List (List Nat)} (hs : srt T) {i : Nat} (hi : i < T.length) : T.countP (fun t => decide (t < T.getD i [])) + rnk T i = i := by
  unfold rnk
  rw [countP_range_getElem _ [] T, countP_take_range _ [] T i (by omega)]
  rw [countP_or _ _ _ (by
    intro j _ h1 h2
    simp only [Bool.and_eq_true, decide_eq_true_eq] at h1 h2
    rw [h2.2] at h1
    exact List.lt_irrefl _ h1)]
  have e : ∀ n, i ≤ n → (List.range n).countP (fun j => decide (j < i)) = i := by
    intro n
    induction n with
    | zero => intro h; have : i = 0 := by omega
              subst this; rfl
    | succ n ih =>
      intro h
      rw [List.range_succ, List.countP_append]
      rcases Nat.lt_or_ge n i with h1 | h1
      · have h2 : i = n + 1 := by omega
        subst h2
        have : (List.range n).countP (fun j => decide (j < n + 1)) = (List.range n).countP (fun j => true) := List.countP_congr (by intro j hj; have := List.mem_range.mp hj; simp; omega)
        rw [this]; simp
      · rw [ih (by omega)]; simp; omega
  rw [← e T.length (by omega)]
  conv => rhs; rw [e T.length (by omega)]
  conv => rhs; rw [← e T.length (by omega)]
  refine List.countP_congr ?_
  intro j hj
  have hj := List.mem_range.mp hj
  have ei : T.getD i [] = T[i] := by simp [List.getD_eq_getElem?_getD, hi]
  have ej : T.getD j [] = T[j] := by simp [List.getD_eq_getElem?_getD, hj]
  rw [e T.length (by omega)]
  simp only [Bool.or_eq_true, Bool.and_eq_true, decide_eq_true_eq]
  rw [ei, ej]
  constructor
  · rintro (h | h)
    · rcases Nat.lt_or_ge j i with h3 | h3
      · exact h3
      · exact absurd h (srt_get hs hi hj h3)
    · exact h.1
  · intro h
    have hle : T[j] ≤ T[i] := srt_get hs hj hi (by omega)
    rcases Classical.em (T[j] < T[i]) with h1 | h1
    · exact .inl h1
    · exact .inr ⟨h, List.le_antisymm hle h1⟩


theorem sorted_split {T : List (List Nat)} (hs : srt T) (x : List Nat) :
    T = T.filter (fun t => decide (t < x)) ++ (T.filter (fun t => decide (t = x)) ++ T.filter (fun t => decide (x < t))) := by
  induction T with
  | nil => rfl
  | cons a T ih =>
    have hs' : srt T := (List.pairwise_cons.mp hs).2
    have ha : ∀ t ∈ T, a ≤ t := (List.pairwise_cons.mp hs).1
    have ih := ih hs'
    rcases Classical.em (a < x) with h | h
    · have h2 : a ≠ x := fun e => by subst e; exact List.lt_irrefl _ h
      have h3 : ¬ x < a := List.lt_asymm h
      rw [List.filter_cons_of_pos (by simpa using h), List.filter_cons_of_neg (by simpa using h2), List.filter_cons_of_neg (by simpa using h3), List.cons_append, ← ih]
    · have e1 : T.filter (fun t => decide (t < x)) = [] := by
        rw [List.filter_eq_nil_iff]
        intro t ht
        have := ha t ht
        simp only [decide_eq_true_eq]
        intro hx
        exact h (List.lt_of_le_of_lt this hx)
      rcases Classical.em (a = x) with h2 | h2
      · have h3 : ¬ x < a := by rw [h2]; exact List.lt_irrefl _
        rw [List.filter_cons_of_neg (by simpa using h), List.filter_cons_of_pos (by simpa using h2), List.filter_cons_of_neg (by simpa using h3)]
        rw [e1] at ih ⊢
        rw [List.nil_append] at ih ⊢
        rw [List.cons_append, ← ih]
      · have h3 : x < a := by
          rcases Classical.em (x < a) with h4 | h4
          · exact h4
          · exact absurd (List.le_antisymm (as := a) (bs := x) h4 h) h2
        have e2 : T.filter (fun t => decide (t = x)) = [] := by
          rw [List.filter_eq_nil_iff]
          intro t ht
          have := ha t ht
          simp only [decide_eq_true_eq]
          intro hx
          subst hx
          exact this h3
        rw [List.filter_cons_of_neg (by simpa using h), List.filter_cons_of_neg (by simpa using h2), List.filter_cons_of_pos (by simpa using h3)]
        rw [e1, e2] at ih ⊢
        rw [List.nil_append, List.nil_append] at ih ⊢
        rw [← ih]

theorem at_of_counts {T : List (List Nat)} (hs : srt T) (x : List Nat) {p : Nat} (h1 : T.countP (fun t => decide (t < x)) ≤ p)
    (h2 : p < T.countP (fun t => decide (t < x)) + T.countP (fun t => decide (t = x))) : T.getD p [] = x ∧ p < T.length := by
  have e := sorted_split hs x
  rw [List.countP_eq_length_filter, List.countP_eq_length_filter] at h2
  rw [List.countP_eq_length_filter] at h1
  have hx : (T.filter (fun t => decide (t = x)))[p - (T.filter (fun t => decide (t < x))).length]'(by omega) = x := by
    have := List.getElem_mem (l := T.filter (fun t => decide (t = x))) (n := p - (T.filter (fun t => decide (t < x))).length) (by omega)
    simpa using (List.mem_filter.mp this).2
  have hlt : p < T.length := by
    rw [e]; simp only [List.length_append]; omega
  refine ⟨?_, hlt⟩
  rw [List.getD_eq_getElem?_getD]
  have : T[p]? = some x := by
    rw [e, List.getElem?_append_right (by omega), List.getElem?_append_left (by omega), List.getElem?_eq_getElem (by omega), hx]
  rw [this]; rfl

/-- a list of rows that is its own as a bag when each row is turned right by one -/
structure Tab (T : List (List Nat)) (n : Nat) : Prop where
  len : ∀ t ∈ T, t.length = n
  pos : 0 < n
  srt : srt T
  turn : (T.map rot1).Perm T

section
variable {T : List (List Nat)} {n : Nat}

theorem Tab.ne (H : Tab T n) {t : List Nat} (h : t ∈ T) : t ≠ [] := fun e => by have := H.len t h; have := H.pos; subst e; simp at *; omega
theorem getD_mem {i : Nat} (hi : i < T.length) : T.getD i [] ∈ T := by
  have : T.getD i [] = T[i] := by simp [List.getD_eq_getElem?_getD, hi]
  rw [this]; exact List.getElem_mem ..

theorem rnk_lt {i : Nat} (hi : i < T.length) : rnk T i < T.countP (fun t => decide (t = T.getD i [])) := by
  unfold rnk
  have h1 : T.countP (fun t => decide (t = T.getD i [])) = (T.take i).countP (fun t => decide (t = T.getD i [])) + (T.drop i).countP (fun t => decide (t = T.getD i [])) := by
    rw [← List.countP_append, List.take_append_drop]
  rw [h1]
  have h2 : T.drop i = T[i] :: T.drop (i + 1) := List.drop_eq_getElem_cons hi
  have h3 : T.getD i [] = T[i] := by simp [List.getD_eq_getElem?_getD, hi]
  rw [h2, List.countP_cons, h3]
  simp

theorem Tab.counts (H : Tab T n) {i : Nat} (hi : i < T.length) :
    T.countP (fun t => decide (rot1 t < rot1 (T.getD i []))) = T.countP (fun t => decide (t < rot1 (T.getD i []))) ∧
    T.countP (fun t => decide (t = T.getD i [])) = T.countP (fun t => decide (t = rot1 (T.getD i []))) := by
  constructor
  · rw [← H.turn.countP_eq (fun t => decide (t < rot1 (T.getD i []))), List.countP_map]; rfl
  · rw [← H.turn.countP_eq (fun t => decide (t = rot1 (T.getD i []))), List.countP_map]
    refine List.countP_congr fun t ht => ?_
    simp only [Function.comp_apply, decide_eq_true_eq]
    exact ⟨fun e => by rw [e], fun e => rot1_inj (H.ne ht) (H.ne (getD_mem hi)) e⟩

theorem Tab.next (H : Tab T n) {i : Nat} (hi : i < T.length) : T.getD (nxt (lastOf T) i) [] = rot1 (T.getD i []) ∧ nxt (lastOf T) i < T.length := by
  have e := nxt_eq H.len H.pos H.srt hi
  obtain ⟨c1, c2⟩ := H.counts hi
  have r := rnk_lt (T := T) hi
  exact at_of_counts H.srt _ (by omega) (by omega)

theorem Tab.rank (H : Tab T n) {i : Nat} (hi : i < T.length) : rnk T (nxt (lastOf T) i) = rnk T i := by
  have e := nxt_eq H.len H.pos H.srt hi
  obtain ⟨c1, c2⟩ := H.counts hi
  obtain ⟨h1, h2⟩ := H.next hi
  have p := place_eq H.srt h2
  rw [h1] at p
  omega

theorem place_inj (hs : srt T) {i j : Nat} (hi : i < T.length) (hj : j < T.length) (h : T.getD i [] = T.getD j []) (hr : rnk T i = rnk T j) : i = j := by
  rw [← place_eq hs hi, ← place_eq hs hj, h, hr]

theorem Tab.next_inj (H : Tab T n) {i j : Nat} (hi : i < T.length) (hj : j < T.length) (h : nxt (lastOf T) i = nxt (lastOf T) j) : i = j := by
  refine place_inj H.srt hi hj ?_ ?_
  · refine rot1_inj (H.ne (getD_mem hi)) (H.ne (getD_mem hj)) ?_
    rw [← (H.next hi).1, ← (H.next hj).1, h]
  · rw [← H.rank hi, ← H.rank hj, h]

theorem nodup_len : ∀ (m : Nat) (l : List Nat), l.Nodup → (∀ x ∈ l, x < m) → l.length ≤ m
  | 0, l, _, h => by
    cases l with
    | nil => simp
    | cons x l => exact absurd (h x (List.mem_cons_self ..)) (by omega)
  | m + 1, l, hn, h => by
    have h1 := nodup_len m (l.erase m) (hn.erase _) (by
      intro x hx
      have h2 := h x (List.mem_of_mem_erase hx)
      have h3 : x ≠ m := fun e => by subst e; exact (hn.not_mem_erase) hx
      omega)
    have h2 := List.length_erase (a := m) (l := l)
    split at h2 <;> omega

theorem perm_range_of_nodup {m : Nat} {l : List Nat} (hn : l.Nodup) (h : ∀ x ∈ l, x < m) (hl : l.length = m) : l.Perm (List.range m) := by
  rw [List.perm_iff_count]
  intro a
  rw [List.count_range]
  split
  · rename_i ha
    have : a ∈ l := by
      rcases Classical.em (a ∈ l) with h1 | h1
      · exact h1
      · have := nodup_len m (a :: l) (List.nodup_cons.mpr ⟨h1, hn⟩) (by
          intro x hx
          rcases List.mem_cons.mp hx with rfl | hx
          · exact ha
          · exact h x hx)
        simp at this; omega
    have h1 := List.nodup_iff_count.mp hn a
    have h2 := List.count_pos_iff.mpr this
    omega
  · rename_i ha
    exact List.count_eq_zero.mpr fun hx => ha (h a hx)

def stepsOf (T : List (List Nat)) : List Nat := (List.range T.length).map (nxt (lastOf T))

theorem Tab.steps_perm (H : Tab T n) : (stepsOf T).Perm (List.range T.length) := by
  refine perm_range_of_nodup ?_ ?_ (by simp [stepsOf])
  · unfold stepsOf
    rw [List.nodup_iff_pairwise_ne, List.pairwise_map]
    refine List.Pairwise.imp_of_mem ?_ (List.nodup_iff_pairwise_ne.mp List.nodup_range)
    intro a b ha hb hab e
    exact hab (H.next_inj (List.mem_range.mp ha) (List.mem_range.mp hb) e)
  · intro x hx
    obtain ⟨i, hi, rfl⟩ := List.mem_map.mp hx
    exact (H.next (List.mem_range.mp hi)).2

theorem Tab.steps_rows (H : Tab T n) : (stepsOf T).map (fun i => T.getD i []) = T.map rot1 := by
  refine List.ext_getElem (by simp [stepsOf]) ?_
  intro i h1 h2
  have hi : i < T.length := by simpa using h2
  simp only [stepsOf, List.getElem_map, List.getElem_range]
  rw [(H.next hi).1]
  simp [List.getD_eq_getElem?_getD, hi]

/-! leading round -/
def rep {α} (f : α → α) : Nat → α → α
  | 0, x => x
  | k + 1, x => f (rep f k x)
theorem rep_add {α} (f : α → α) (a b : Nat) (x : α) : rep f (a + b) x = rep f a (rep f b x) := by
  induction a with
  | zero => rw [Nat.zero_add]; rfl
  | succ a ih => rw [Nat.succ_add]; show f _ = f _; rw [ih]

theorem Tab.rep (H : Tab T n) {i : Nat} (hi : i < T.length) (k : Nat) :
    Mine.rep (nxt (lastOf T)) k i < T.length ∧ T.getD (Mine.rep (nxt (lastOf T)) k i) [] = Mine.rep rot1 k (T.getD i []) ∧ rnk T (Mine.rep (nxt (lastOf T)) k i) = rnk T i := by
  induction k with
  | zero => exact ⟨hi, rfl, rfl⟩
  | succ k ih =>
    obtain ⟨a, b, c⟩ := ih
    refine ⟨(H.next a).2, ?_, ?_⟩
    · show T.getD (nxt _ _) [] = rot1 _
      rw [(H.next a).1, b]
    · show rnk T (nxt _ _) = _
      rw [H.rank a, c]

theorem Tab.back (H : Tab T n) {i : Nat} (hi : i < T.length) (k : Nat) : Mine.rep (nxt (lastOf T)) k i = i ↔ Mine.rep rot1 k (T.getD i []) = T.getD i [] := by
  obtain ⟨a, b, c⟩ := H.rep hi k
  constructor
  · intro e; rw [← b, e]
  · intro e
    exact place_inj H.srt a hi (by rw [b, e]) c

end
end Mine
end

section
namespace Mine
open List

/-! turns of a ring, its period, rows by rounds -/
def trn (k : Nat) (r : List Nat) : List Nat := r.drop k ++ r.take k
def turnsL (r : List Nat) : List (List Nat) := (List.range r.length).map fun k => trn k r
theorem trn_len (k : Nat) (r : List Nat) : (trn k r).length = r.length := by
  unfold trn; rw [List.length_append, List.length_drop, List.length_take]; omega
theorem trn_zero (r : List Nat) : trn 0 r = r := by simp [trn]
theorem trn_all (r : List Nat) : trn r.length r = r := by simp [trn]
theorem rot1_append (a : List Nat) (x : Nat) : rot1 (a ++ [x]) = x :: a := by
  unfold rot1
  rw [List.getLastD_eq_getLast?]
  simp
theorem rot1_trn {k : Nat} {r : List Nat} (h : k < r.length) : rot1 (trn (k + 1) r) = trn k r := by
  unfold trn
  rw [List.take_add_one, List.getElem?_eq_getElem h, ← List.append_assoc, Option.toList_some, rot1_append, List.drop_eq_getElem_cons h]
  rfl
theorem rot1_trn0 {r : List Nat} {m : Nat} (h : r.length = m + 1) : rot1 (trn 0 r) = trn m r := by
  have e := rot1_trn (k := m) (r := r) (by omega)
  rw [← h, trn_all] at e
  rw [trn_zero, e]
theorem turns_rot {r : List Nat} (h : r ≠ []) : ((turnsL r).map rot1).Perm (turnsL r) := by
  have hp : 0 < r.length := List.length_pos_iff.mpr h
  obtain ⟨m, hm⟩ : ∃ m, r.length = m + 1 := ⟨r.length - 1, by omega⟩
  have R : turnsL r = (List.range m).map (fun k => trn k r) ++ [trn m r] := by
    unfold turnsL; rw [hm, List.range_succ, List.map_append]; rfl
  have Lh : (turnsL r).map rot1 = trn m r :: (List.range m).map (fun k => trn k r) := by
    unfold turnsL
    rw [hm, List.range_succ_eq_map, List.map_cons, List.map_cons, List.map_map, List.map_map, rot1_trn0 hm]
    congr 1
    refine List.map_congr_left fun k hk => ?_
    exact rot1_trn (by have := List.mem_range.mp hk; omega)
  rw [Lh, R]
  exact (List.perm_append_singleton ..).symm
theorem tab_of {r : List Nat} {T : List (List Nat)} (h : r ≠ []) (hT : T.Perm (turnsL r)) (hs : srt T) : Tab T r.length where
  len := fun t ht => by
    have := hT.mem_iff.mp ht
    obtain ⟨k, _, rfl⟩ := List.mem_map.mp this
    exact trn_len ..
  pos := List.length_pos_iff.mpr h
  srt := hs
  turn := (hT.map rot1).trans ((turns_rot h).trans hT.symm)

theorem rep_comm {α} (f : α → α) (a b : Nat) (x : α) : rep f a (rep f b x) = rep f b (rep f a x) := by
  rw [← rep_add, ← rep_add, Nat.add_comm]
theorem rep_trn {r : List Nat} : ∀ k, k ≤ r.length → rep rot1 k (trn k r) = r
  | 0, _ => trn_zero r
  | k + 1, h => by
    rw [rep_add rot1 k 1]
    show rep rot1 k (rot1 (trn (k + 1) r)) = r
    rw [rot1_trn (by omega)]
    exact rep_trn k (by omega)
theorem rep_full (r : List Nat) : rep rot1 r.length r = r := by
  have := rep_trn (r := r) r.length (Nat.le_refl _)
  rwa [trn_all] at this
theorem rep_ne : ∀ (k : Nat) {x : List Nat}, x ≠ [] → rep rot1 k x ≠ []
  | 0, _, h => h
  | k + 1, _, _ => by show rot1 _ ≠ []; simp [rot1]
theorem rep_inj : ∀ (k : Nat) {a b : List Nat}, a ≠ [] → b ≠ [] → rep rot1 k a = rep rot1 k b → a = b
  | 0, _, _, _, _, h => h
  | k + 1, _, _, ha, hb, h => rep_inj k ha hb (rot1_inj (rep_ne k ha) (rep_ne k hb) h)
theorem trn_ne {k : Nat} {r : List Nat} (h : r ≠ []) : trn k r ≠ [] := fun e => by
  have := trn_len k r
  rw [e] at this
  exact h (List.length_eq_zero_iff.mp this.symm)
theorem fix_trn {r : List Nat} (h : r ≠ []) {i j : Nat} (hi : i ≤ r.length) : rep rot1 j (trn i r) = trn i r ↔ rep rot1 j r = r := by
  have e := rep_trn (r := r) i hi
  constructor
  · intro q
    have := congrArg (rep rot1 i) q
    rwa [rep_comm, e] at this
  · intro q
    refine rep_inj i (rep_ne j (trn_ne h)) (trn_ne h) ?_
    rw [rep_comm, e, q]
theorem trn_fix {r : List Nat} (h : r ≠ []) {k : Nat} (hk : k ≤ r.length) : trn k r = r ↔ rep rot1 k r = r := by
  have e := rep_trn (r := r) k hk
  constructor
  · intro q; rw [q] at e; exact e
  · intro q
    refine rep_inj k (trn_ne h) h ?_
    rw [e, q]
theorem least {P : Nat → Prop} : ∀ (n : Nat), P n → ∃ m, P m ∧ ∀ j, j < m → ¬ P j := by
  intro n
  induction n using Nat.strongRecOn with
  | ind n ih =>
    intro h
    rcases Classical.em (∃ j, j < n ∧ P j) with ⟨j, hj, hp⟩ | q
    · exact ih j hj hp
    · exact ⟨n, h, fun j hj hp => q ⟨j, hj, hp⟩⟩
theorem rep_mul {α} (f : α → α) (p : Nat) (x : α) (h : rep f p x = x) : ∀ q, rep f (p * q) x = x
  | 0 => rfl
  | q + 1 => by rw [Nat.mul_succ, rep_add, h, rep_mul f p x h q]
theorem rep_dvd {α} (f : α → α) {p : Nat} {x : α} (hp : 0 < p) (h : rep f p x = x) (hm : ∀ j, 0 < j → j < p → rep f j x ≠ x) (k : Nat) : rep f k x = x ↔ k % p = 0 := by
  have e : rep f k x = rep f (k % p) x := by
    conv => lhs; rw [← Nat.mod_add_div k p]
    rw [rep_add, rep_mul f p x h]
  rw [e]
  constructor
  · intro q
    rcases Nat.eq_zero_or_pos (k % p) with z | z
    · exact z
    · exact absurd q (hm _ z (Nat.mod_lt _ hp))
  · intro q; rw [q]; rfl
theorem count_mul {p : Nat} (hp : 0 < p) : ∀ q, (List.range (p * q)).countP (fun k => decide (k % p = 0)) = q
  | 0 => rfl
  | q + 1 => by
    rw [Nat.mul_succ, List.range_add, List.countP_append, count_mul hp q, List.countP_map]
    obtain ⟨m, rfl⟩ : ∃ m, p = m + 1 := ⟨p - 1, by omega⟩
    rw [List.range_succ_eq_map, List.countP_cons, List.countP_map]
    have h0 : (List.range m).countP (((fun k => decide (k % (m + 1) = 0)) ∘ fun x => (m + 1) * q + x) ∘ Nat.succ) = 0 := by
      rw [List.countP_eq_zero]
      intro k hk
      have := List.mem_range.mp hk
      simp only [Function.comp_apply, decide_eq_true_eq]
      rw [Nat.mul_add_mod, Nat.mod_eq_of_lt (by omega)]
      omega
    rw [h0]
    simp
/-- the rows' one period, and the ring's count among its turns -/
theorem periods {r : List Nat} {T : List (List Nat)} (h : r ≠ []) (hT : T.Perm (turnsL r)) :
    ∃ p, 0 < p ∧ p * (turnsL r).count r = r.length ∧ ∀ t ∈ T, rep rot1 p t = t ∧ ∀ j, 0 < j → j < p → rep rot1 j t ≠ t := by
  have hn : 0 < r.length := List.length_pos_iff.mpr h
  obtain ⟨p, ⟨hp, hf⟩, hm⟩ := least (P := fun p => 0 < p ∧ rep rot1 p r = r) r.length ⟨hn, rep_full r⟩
  have hm' : ∀ j, 0 < j → j < p → rep rot1 j r ≠ r := fun j h0 hj q => hm j hj ⟨h0, q⟩
  have hd := rep_dvd rot1 hp hf hm'
  refine ⟨p, hp, ?_, fun t ht => ?_⟩
  · have hc : (turnsL r).count r = (List.range r.length).countP (fun k => decide (k % p = 0)) := by
      unfold turnsL
      rw [List.count_eq_countP, List.countP_map]
      refine List.countP_congr fun k hk => ?_
      have hk := List.mem_range.mp hk
      simp only [Function.comp_apply, beq_iff_eq, decide_eq_true_eq]
      rw [trn_fix h (by omega), hd]
    have hz : r.length % p = 0 := (hd _).mp (rep_full r)
    obtain ⟨q, hq⟩ := Nat.dvd_of_mod_eq_zero hz
    rw [hc, hq, count_mul hp]
  · obtain ⟨i, hi, rfl⟩ := List.mem_map.mp (hT.mem_iff.mp ht)
    have hi := List.mem_range.mp hi
    exact ⟨(fix_trn h (by omega)).mpr hf, fun j h0 hj q => hm' j h0 hj ((fix_trn h (by omega)).mp q)⟩

/-! rounds -/
theorem take_lt : ∀ (k : Nat) {a b : List Nat}, a.take k < b.take k → a < b
  | 0, _, _, h => by simp at h
  | k + 1, [], [], h => by simp at h
  | k + 1, [], b :: bs, _ => List.nil_lt_cons ..
  | k + 1, a :: as, [], h => by simp at h
  | k + 1, a :: as, b :: bs, h => by
    rw [List.take_succ_cons, List.take_succ_cons] at h
    rcases List.cons_lt_cons_iff.mp h with h | ⟨h1, h2⟩
    · exact List.cons_lt_cons_iff.mpr (.inl h)
    · exact List.cons_lt_cons_iff.mpr (.inr ⟨h1, take_lt k h2⟩)
theorem srt_take {T : List (List Nat)} (h : srt T) (k : Nat) : srt (T.map (·.take k)) := by
  unfold srt at *
  rw [List.pairwise_map]
  exact h.imp fun hab => fun q => hab (take_lt k q)
theorem row_step {t : List Nat} {k : Nat} (h : k < t.length) : t.getLastD 0 :: t.take k = (rot1 t).take (k + 1) := by
  unfold rot1
  rw [List.take_succ_cons, List.dropLast_eq_take, List.take_take]
  congr 2
  omega
theorem Tab.round {T : List (List Nat)} {n k : Nat} (H : Tab T n) (hk : k < n) {rows : List (List Nat)} (hp : rows.Perm (T.map fun t => t.getLastD 0 :: t.take k)) (hs : Mine.srt rows) : rows = T.map (·.take (k + 1)) := by
  refine srt_unique hs (srt_take H.srt _) (hp.trans ?_)
  have e : (T.map fun t => t.getLastD 0 :: t.take k) = (T.map rot1).map (·.take (k + 1)) := by
    rw [List.map_map]
    refine List.map_congr_left fun t ht => ?_
    exact row_step (by rw [H.len t ht]; exact hk)
  rw [e]
  exact H.turn.map _
theorem stretch {r : List Nat} {j k : Nat} (hj : j ≤ r.length) (hk : k ≤ r.length) : ((r ++ r).drop j).take k = (trn j r).take k := by
  unfold trn
  rw [List.drop_append_of_le_length hj, List.take_append, List.take_append, List.take_take, List.length_drop]
  congr 2
  omega
theorem pieces_perm {r : List Nat} {T : List (List Nat)} (hT : T.Perm (turnsL r)) {k : Nat} (hk : k ≤ r.length) : ((List.range r.length).map fun j => ((r ++ r).drop j).take k).Perm (T.map (·.take k)) := by
  have e : ((List.range r.length).map fun j => ((r ++ r).drop j).take k) = (turnsL r).map (·.take k) := by
    unfold turnsL
    rw [List.map_map]
    refine List.map_congr_left fun j hj => ?_
    exact stretch (by have := List.mem_range.mp hj; omega) hk
  rw [e]
  exact hT.symm.map _
theorem one_out {α} {R : List α} {k : Nat} (hk : k < R.length) : R.Perm (R[k] :: (R.take k ++ R.drop (k + 1))) := by
  have e : R = R.take k ++ R[k] :: R.drop (k + 1) := by
    rw [← List.drop_eq_getElem_cons hk, List.take_append_drop]
  conv => lhs; rw [e]
  exact List.perm_middle
theorem perm_map_inv {α β} {f : α → β} {l m : List β} (h : l.Perm m) : ∀ {T : List α}, m = T.map f → ∃ T' : List α, T'.Perm T ∧ l = T'.map f := by
  induction h with
  | nil =>
    intro T hm
    exact ⟨[], by have := List.map_eq_nil_iff.mp hm.symm; subst this; exact .refl _, rfl⟩
  | cons x h ih =>
    intro T hm
    obtain ⟨a, T2, rfl, rfl, e⟩ := List.map_eq_cons_iff.mp hm.symm
    obtain ⟨T', p, rfl⟩ := ih e.symm
    exact ⟨a :: T', p.cons a, rfl⟩
  | swap x y l =>
    intro T hm
    obtain ⟨a, T2, rfl, rfl, e⟩ := List.map_eq_cons_iff.mp hm.symm
    obtain ⟨b, T3, rfl, rfl, rfl⟩ := List.map_eq_cons_iff.mp e
    exact ⟨b :: a :: T3, .swap .., rfl⟩
  | trans h1 h2 ih1 ih2 =>
    intro T hm
    obtain ⟨T2, p2, e2⟩ := ih2 hm
    obtain ⟨T1, p1, e1⟩ := ih1 e2
    exact ⟨T1, p1.trans p2, e1⟩
end Mine
end

section
open PySem PySem.W PySem.Spec PySem.Calls PyProof.Rows PyProof.V
set_option maxRecDepth 100000
namespace Mine
/-- texts of octets -/
def Sh (ss : List PySem.Str) : Prop := ∀ x ∈ ss, ∀ c ∈ x.cps.toList, c < 256
theorem se_canLayAll0 : ∀ ss : List PySem.Str, Sh ss → PyData.canLayAll0 (ss.map PyData.str) = true
  | [], _ => rfl
  | x :: r, h => by
    have h1 : PyData.strOk x = true := by
      have := h x (List.mem_cons_self ..)
      unfold PyData.strOk
      rw [Array.all_eq_true']
      intro c hc
      exact decide_eq_true (Nat.lt_trans (this c (Array.mem_toList_iff.mpr hc)) (by decide))
    simp [PyData.canLayAll0, PyData.canLay0, h1, se_canLayAll0 r fun y hy => h y (List.mem_cons_of_mem _ hy)]
theorem se_depthAll : ∀ ss : List PySem.Str, PyData.depthAll (ss.map PyData.str) = 0
  | [] => rfl
  | _ :: r => by simp [PyData.depthAll, PyData.depth, se_depthAll r]
theorem se_shaped {ss : List PySem.Str} (h : Sh ss) : SeqAt.shaped (.list (ss.map PyData.str)) = true := by
  simp [SeqAt.shaped, PyData.canLay0, PyData.depth, se_canLayAll0 ss h, se_depthAll]
theorem se_shaped2 {ss tt : List PySem.Str} (h : Sh ss) (h' : Sh tt) : SeqAt.shaped (.tuple [.list (ss.map PyData.str), .list (tt.map PyData.str)]) = true := by
  simp [SeqAt.shaped, PyData.canLay0, PyData.canLayAll0, PyData.depth, PyData.depthAll, se_canLayAll0 ss h, se_canLayAll0 tt h', se_depthAll]
theorem se_eqvAll : ∀ ns ms : List PySem.Str, PyData.eqvAll (ns.map PyData.str) (ms.map PyData.str) = decide (ns = ms)
  | [], [] => by simp [PyData.eqvAll]
  | [], _ :: _ => by simp [PyData.eqvAll]
  | _ :: _, [] => by simp [PyData.eqvAll]
  | a :: r, b :: t => by
    simp only [List.map_cons, PyData.eqvAll, PyData.eqv, se_eqvAll r t]
    by_cases h : a = b <;> by_cases h' : r = t <;> simp [h, h']
theorem se_carried : ∀ {vs : List Value} {ss : List PySem.Str}, StrsAre vs ss → CarriedAll vs (ss.map PyData.str)
  | _, _, .nil => .nil
  | _, _, .cons _ t r => .cons (.str _ t) (se_carried r)
section
variable {prog : PySem.Program} {w : World} {A : Around} {E : Value → Shared → Prop} {s : Shared} {h₀ : Heap} {L a b m1 m2 u1 u2 : Addr} {ka kb : Nat} {m : PySem.Str → Option Value} {news : List (Addr × Obj)} {xs ys xs' ys' : List Value} {ns ms ns' ms' : List PySem.Str} {Q : Value → Shared → Prop}
theorem eq_strs (N : News h₀ L s.heap news) (ha : (a, W.listOf xs.toArray ka) ∈ news) (hb : (b, W.listOf ys.toArray kb) ∈ news) (hi : StrsAre xs ns) (hj : StrsAre ys ms) (si : Sh ns) (sj : Sh ms) (hu : A.units + 64 < cLine) (h : Q (.bool (decide (ns = ms))) s) :
    wpAny (model prog w) A (compareOp .Eq (.ref a) (.ref b)) Q E s :=
  eq_dataH (reads_newData (N.isList ha) (se_carried hi)) (reads_newData (N.isList hb) (se_carried hj)) (se_shaped si) (se_shaped sj) hu (by simp only [PyData.eqv]; rw [se_eqvAll]; exact h)
theorem ne_strs (N : News h₀ L s.heap news) (ha : (a, W.listOf xs.toArray ka) ∈ news) (hb : (b, W.listOf ys.toArray kb) ∈ news) (hi : StrsAre xs ns) (hj : StrsAre ys ms) (si : Sh ns) (sj : Sh ms) (hu : A.units + 64 < cLine) (h : Q (.bool (!decide (ns = ms))) s) :
    wpAny (model prog w) A (compareOp .NotEq (.ref a) (.ref b)) Q E s :=
  ne_dataH (reads_newData (N.isList ha) (se_carried hi)) (reads_newData (N.isList hb) (se_carried hj)) (se_shaped si) (se_shaped sj) hu (by simp only [PyData.eqv]; rw [se_eqvAll]; exact h)
def tup2 (a b : Addr) : Obj := { cls := .type "tuple", data := .seq #[.ref a, .ref b] }
theorem eq_pairs {k1 k2 k3 k4 : Nat} (N : News h₀ L s.heap news) (ha : (a, tup2 m1 u1) ∈ news) (hb : (b, tup2 m2 u2) ∈ news) (h1 : (m1, W.listOf xs.toArray k1) ∈ news) (h2 : (u1, W.listOf ys.toArray k2) ∈ news) (h3 : (m2, W.listOf xs'.toArray k3) ∈ news) (h4 : (u2, W.listOf ys'.toArray k4) ∈ news)
    (i1 : StrsAre xs ns) (i2 : StrsAre ys ms) (i3 : StrsAre xs' ns') (i4 : StrsAre ys' ms') (s1 : Sh ns) (s2 : Sh ms) (s3 : Sh ns') (s4 : Sh ms') (hu : A.units + 64 < cLine) (h : Q (.bool (decide (ns = ns' ∧ ms = ms'))) s) :
    wpAny (model prog w) A (compareOp .Eq (.ref a) (.ref b)) Q E s := by
  refine eq_dataH (da := .tuple [.list (ns.map PyData.str), .list (ms.map PyData.str)]) (db := .tuple [.list (ns'.map PyData.str), .list (ms'.map PyData.str)])
    (reads_tuple_at (N _ ha).1 rfl rfl (.cons (reads_newData (N.isList h1) (se_carried i1)) (.cons (reads_newData (N.isList h2) (se_carried i2)) .nil)))
    (reads_tuple_at (N _ hb).1 rfl rfl (.cons (reads_newData (N.isList h3) (se_carried i3)) (.cons (reads_newData (N.isList h4) (se_carried i4)) .nil))) (se_shaped2 s1 s2) (se_shaped2 s3 s4) hu ?_
  simp only [PyData.eqv, PyData.eqvAll, se_eqvAll, Bool.and_true]
  have e : decide (ns = ns' ∧ ms = ms') = (decide (ns = ns') && decide (ms = ms')) := by
    by_cases h1 : ns = ns' <;> by_cases h2 : ms = ms' <;> simp [h1, h2]
  rw [← e]
  exact h
end
end Mine
end

section
open PySem PySem.W PySem.Spec PySem.Calls PyProof.Rows PyProof.V
set_option maxRecDepth 100000
namespace Mine
section
variable {prog : PySem.Program} {w : World} {A : Around} {E : Value → Shared → Prop} {s : Shared} {h₀ : Heap} {L l : Addr} {k : Nat} {m : PySem.Str → Option Value} {news : List (Addr × Obj)} {us : List Value} {ss : List PySem.Str} {value slice : Expr} {u : Tok} {Q : Value → Shared → Prop}
theorem strs_at : ∀ {vs : List Value} {ss : List PySem.Str} {i : Nat} {x : PySem.Str}, StrsAre vs ss → ss[i]? = some x → ∃ t, vs[i]? = some (.str x t)
  | _, _, 0, v, .cons x t h, e => ⟨t, by simp at e; simp [e]⟩
  | _, _, i + 1, v, .cons x t h, e => by
    obtain ⟨u, a⟩ := strs_at h (by simpa using e)
    exact ⟨u, by simpa using a⟩
theorem item_strs (N : News h₀ L s.heap news) (hm : (l, W.listOf us.toArray k) ∈ news) (hs : StrsAre us ss) {z : Int} {i : Nat} (hz : z = (i : Int)) {x : PySem.Str} (hx : ss[i]? = some x) (hi : i < 64) (h : ∀ t, Q (.str x t) s)
    (ht : subscripted slice false (.ref l) (.int z u) = operate [.ref l, .int z u] (getItem (.ref l) (.int z u)) := by with_unfolding_all rfl) :
    wpAny (model prog w) A (subscriptTail value slice (.ref l) (.int z u)) Q E s := by
  subst hz
  have hl := N.isList hm
  obtain ⟨t, hv⟩ := strs_at hs hx
  exact tail_any hl.typeIs slot_list_getitem.lookup (wpAny_getItem_list hl (by omega) (by omega) (by simpa using hv) (h t)) ht
theorem item_vals (N : News h₀ L s.heap news) (hm : (l, W.listOf us.toArray k) ∈ news) {z : Int} {i : Nat} (hz : z = (i : Int)) {v : Value} (hv : us[i]? = some v) (hi : i < 64) (h : Q v s)
    (ht : subscripted slice false (.ref l) (.int z u) = operate [.ref l, .int z u] (getItem (.ref l) (.int z u)) := by with_unfolding_all rfl) :
    wpAny (model prog w) A (subscriptTail value slice (.ref l) (.int z u)) Q E s := by
  subst hz
  have hl := N.isList hm
  exact tail_any hl.typeIs slot_list_getitem.lookup (wpAny_getItem_list hl (by omega) (by omega) (by simpa using hv) h) ht
end
theorem cut_upto {us : List Value} {i : Nat} (h : i ≤ us.length) : kms_pick us none (some (i : Int)) = us.take i := by
  unfold kms_pick kms_lo kms_hi
  simp only [List.drop_zero, Nat.sub_zero]
  rw [if_neg (by omega), Int.toNat_natCast, Nat.min_eq_left h]
theorem cut_from {us : List Value} {i : Nat} (h : i ≤ us.length) : kms_pick us (some (i : Int)) none = us.drop i := by
  unfold kms_pick kms_lo kms_hi
  simp only
  rw [if_neg (by omega), Int.toNat_natCast, Nat.min_eq_left h, List.take_of_length_le (by rw [List.length_drop]; omega)]
theorem len_led {prog : PySem.Program} {w : World} {A : Around} {E : Value → Shared → Prop} {s : Shared} {h₀ : Heap} {L l : Addr} {k : Nat} {news : List (Addr × Obj)} {us : List Value} {Q : Value → Shared → Prop} (N : News h₀ L s.heap news) (hm : (l, W.listOf us.toArray k) ∈ news) {n : Nat} (hn : us.length = n) (hz : n ≤ 4096)
    (h : ∀ t tk, Q (.int (n : Int) t) { s with toks := tk }) : wpAny (model prog w) A (call (.builtin "len") [.ref l]) Q E s := by
  subst hn
  exact PySem.Calls.call_len_list (N.isList hm) (by simp only [List.size_toArray]; omega) (by simpa using h _ _)
section
variable {prog : PySem.Program} {w : World} {A : Around} {E : Value → Shared → Prop} {s : Shared} {h₀ : Heap} {L a b : Addr} {ka kb : Nat} {m : PySem.Str → Option Value} {news : List (Addr × Obj)} {xs ys : List Value} {Q : Value → Shared → Prop}
theorem add_led (F : Fr h₀ L s.heap m) (N : News h₀ L s.heap news) (ha : (a, W.listOf xs.toArray ka) ∈ news) (hb : (b, W.listOf ys.toArray kb) ∈ news) (hz : xs.length + ys.length ≤ 4096)
    (h : ∀ D h', Fr h₀ L h' m → News h₀ L h' ((D, W.listOf (xs ++ ys).toArray 0) :: news) → (∀ p ∈ news, p.1 < D) → Q (.ref D) { s with heap := h' }) : wpAny (model prog w) A (binaryOp .Add (.ref a) (.ref b)) Q E s := by
  refine PyProof.Rows.add_arrays F N (N.isList ha) (N.isList hb) (fun h' F' N' => h _ h' F' N' fun p hp => Heap.lt_size (N p hp).1) ?_
  rw [sizeLine_eq]; simp only [List.size_toArray]; omega
end
end Mine
end

section
open PySem PySem.W PySem.Spec PySem.Calls PyProof.Rows PyProof.V
set_option maxRecDepth 100000
namespace Mine
open LCg
section
variable {prog : PySem.Program} {w : World} {A : Around} {E : Value → Shared → Prop} {s : Shared} {env : Env}
/-- what a turn of the loop must reach -/
def TurnOk (KK : Heap → Prop) (L : Addr) (J : (PySem.Str → Option Value) → List (Addr × Obj) → Prop) (I : Addr) (io : Obj) (s : Shared) (Q QQ : Flow → Shared → Prop) : Prop :=
  (∀ (g' h' : Heap) (tk' : Nat) (m' : PySem.Str → Option Value) (news' n' : List (Addr × Obj)), KK g' → Fr g' L h' m' → News g' L h' news' → (∀ p ∈ n', p ∈ news') → (I, io) ∈ news' → (∀ p ∈ n', p.1 ≠ I) → J m' n' → QQ .next { s with heap := h', toks := tk' }) ∧
  ∀ v s', Q (.ret v) s' → QQ (.ret v) s'
def TurnGot (KK : Heap → Prop) (L : Addr) (J : (PySem.Str → Option Value) → List (Addr × Obj) → Prop) (I : Addr) (io : Obj) (s : Shared) (Q : Flow → Shared → Prop) (f : Flow) (s₃ : Shared) : Prop :=
  match f with
  | .next => ∃ (g' h' : Heap) (tk' : Nat) (m' : PySem.Str → Option Value) (news' n' : List (Addr × Obj)), s₃ = { s with heap := h', toks := tk' } ∧ KK g' ∧ Fr g' L h' m' ∧ News g' L h' news' ∧ (∀ p ∈ n', p ∈ news') ∧ (I, io) ∈ news' ∧ (∀ p ∈ n', p.1 ≠ I) ∧ J m' n'
  | .ret v => Q (.ret v) s₃
  | _ => False
theorem small_n {n : Nat} (h : n ≤ 64) : Builtin.Range.small 0 (n : Int) 1 = true := small_one (by omega) (by omega) (by omega) (by omega)
end
section
variable {prog : PySem.Program} {w : World} {A : Around} {E : Value → Shared → Prop} {s : Shared} {h₀ : Heap} {L : Addr} {m : PySem.Str → Option Value} {env : Env}
theorem ints_app : ∀ {vs us : List Value} {ss ts : List Int}, IntsAre vs ss → IntsAre us ts → IntsAre (vs ++ us) (ss ++ ts)
  | _, _, _, _, .nil, h => h
  | _, _, _, _, .cons x t h, h' => .cons x t (ints_app h h')
def ElInt (news : List (Addr × Obj)) (r : Int) (y : Value) (news' : List (Addr × Obj)) : Prop := news' = news ∧ ∃ t : Tok, y = .int r t
theorem rest_ints {elt : Expr} {x : PySem.Str} {scope : Scope} {cl : List (PySem.Str × Addr)} {S : List (Addr × Obj) → Prop} {P : Nat → Value → Prop} {Fin : List Value → List (Addr × Obj) → Prop} {news : List (Addr × Obj)} {n : Nat} (g : Nat → Int)
    (turn : ∀ i v I oI C oC D m₂ ys h tk (E' : Value → Shared → Prop), i < n → P i v → NsObj oC m₂ → m₂ x = some v → Fr h₀ L h m → News h₀ L h ((I, oI) :: (C, oC) :: (D, lst ys) :: news) → Off3 I C D news → ((@Ne Nat I C) ∧ (@Ne Nat I D) ∧ (@Ne Nat C D)) →
      wpAny (model prog w) A (eval elt (compEnvC scope cl C env)) (CompEnd h₀ L m { s with heap := h, toks := tk } I oI C oC D (lst ys) S (fun y news' => ElInt news (g i) y news')) E' { s with heap := h, toks := tk })
    (fin : ∀ ys, IntsAre ys ((List.range n).map g) → Fin ys news) : CompRest prog w A h₀ L m env elt x scope cl s S P Fin n 0 [] news := by
  have key : ∀ (j i : Nat) (ys : List Value), i + j = n → IntsAre ys ((List.range i).map g) → CompRest prog w A h₀ L m env elt x scope cl s S P Fin j i ys news := by
    intro j
    induction j with
    | zero =>
      intro i ys hi hy
      have e : i = n := by omega
      subst e
      exact CompRest.zero (fin ys hy)
    | succ j ih =>
      intro i ys hi hy
      refine CompRest.succ ?_
      intro v I oI C oC D m₂ h tk E' hv hC hx F N off ne
      refine wpAny_mono (turn i v I oI C oC D m₂ ys h tk E' (by omega) hv hC hx F N off ne) (fun y s₂ hq => ?_) fun _ _ e => e
      obtain ⟨h', tk', nw, e, F', N', off', hS, hn, t', hy'⟩ := hq
      rw [hn] at N' off' hS
      refine ⟨h', tk', news, e, F', N', off', hS, ?_⟩
      rw [hy']
      refine ih (i + 1) _ (by omega) ?_
      rw [List.range_succ, List.map_append]
      exact ints_app hy (.cons _ _ .nil)
  exact key n 0 [] (by omega) (by simpa using IntsAre.nil)
theorem ints_at : ∀ {vs : List Value} {ns : List Int} {i : Nat} {x : Int}, IntsAre vs ns → ns[i]? = some x → ∃ t, vs[i]? = some (.int x t)
  | _, _, 0, v, .cons x t h, e => ⟨t, by simp at e; simp [e]⟩
  | _, _, i + 1, v, .cons x t h, e => by
    obtain ⟨u, a⟩ := ints_at h (by simpa using e)
    exact ⟨u, by simpa using a⟩
end
end Mine
end

section
open PySem PySem.W PySem.Spec PySem.Calls PyProof.Rows PyProof.V
set_option maxRecDepth 100000
namespace Mine
theorem hideE {G : Prop} (h : ∀ P : Prop, (G → P) → P) : G := h G id
open LCg
section
variable {prog : PySem.Program} {w : World} {A : Around} {E : Value → Shared → Prop} {s : Shared} {env : Env}
/-- a for over range(n) whose turns may turn the ground; the turn begins with the store of the loop's name -/
def RngAtA (prog : PySem.Program) (w : World) (A : Around) (env : Env) (tg : Expr) (body : List Stmt) (Q : Flow → Shared → Prop) (E : Value → Shared → Prop) (xv : Value) (s : Shared) : Prop :=
  ∃ (KK : Heap → Prop) (J : Nat → (PySem.Str → Option Value) → List (Addr × Obj) → Prop) (r : Addr) (n : Nat) (t u v : Tok) (g : Heap) (m : PySem.Str → Option Value) (news : List (Addr × Obj)),
    xv = .ref r ∧ A.handled = none ∧ IsRange s.heap r 0 (n : Int) 1 t u v ∧ n ≤ 64 ∧ KK g ∧ Fr g env.locals s.heap m ∧ News g env.locals s.heap news ∧ J 0 m news ∧
    (∀ i g₁ m₁ n₁ h tk I io t QQ, i < n → KK g₁ → J i m₁ n₁ → (∀ p ∈ n₁, p.1 ≠ I) → Fr g₁ env.locals h m₁ → News g₁ env.locals h ((I, io) :: n₁) →
      TurnOk KK env.locals (J (i + 1)) I io s Q QQ → wpAny (model prog w) A (assign tg env (.int (i : Int) t)) (fun _ s₂ => wpAny (model prog w) A (execs body env) QQ E s₂) E { s with heap := h, toks := tk }) ∧
    ∀ g' m' n' h tk, KK g' → J n m' n' → Fr g' env.locals h m' → News g' env.locals h n' → Q .next { s with heap := h, toks := tk }
def RngInv (KK : Heap → Prop) (J : Nat → (PySem.Str → Option Value) → List (Addr × Obj) → Prop) (I : Addr) (L : Addr) (n : Nat) (s₁ : Shared) (k : Nat) (s' : Shared) : Prop :=
  ∃ h' tk m' news' g' i, s' = { s₁ with heap := h', toks := tk } ∧ IsRangeIter h' I (0 + (i : Nat) * 1) ((n : Int) - (i : Nat)) 1 ∧ KK g' ∧ Fr g' L h' m' ∧ News g' L h' news' ∧ (∀ p ∈ news', p.1 ≠ I) ∧ g'.get? I = none ∧ J i m' news' ∧ i ≤ n ∧ k = n + 1 - i
theorem For_rngA {x : PySem.Str} {px pos : Pos} {iter : Expr} {body : List Stmt} {Q : Flow → Shared → Prop}
    (h : wpAny (model prog w) A (eval iter env) (RngAtA prog w A env (.Name x px) body Q E) E s)
    (hs : ∀ x, foldedSetIterable iter env x = pure x := by intro _; rfl)
    (hE : PassesOwn (model prog w) A env E := by passes_own) :
    wpAny (model prog w) A (exec (.For (.Name x px) iter body [] pos) env) Q E s := by
  refine wpAny_For (wpAny_mono h (fun xv s₁ h₁ => ?_) fun _ _ e => e) hs
  refine hideE fun P0 hP0 => ?_
  obtain ⟨KK, J, r, n, t, u, v, g, m, news, rfl, hh, hr, hn, hK, F, N, hJ, turn, done⟩ := h₁
  refine hP0 ?_
  clear hP0
  have hsz : Builtin.Range.rangeSize 0 (n : Int) 1 = ((n : Nat) : Int) := by have := rangeSize_nat 0 n; simpa using this
  refine wpAny_pyIter_range hr (small_n hn) ?_
  have W := range_walks (prog := prog) (w := w) (I := s₁.heap.objs.size) hh 0 n
  generalize hI : s₁.heap.objs.size = I at W
  have hst : IsRangeIter (s₁.heap.push { cls := .type "range_iterator", data := .fields #[rawInt 0, rawInt (Builtin.Range.rangeSize 0 (n : Int) 1), rawInt 1] }) I (0 + ((0 : Nat) : Int) * 1) ((n : Int) - ((0 : Nat) : Int)) 1 := by
    show _ = _
    rw [hsz, ← hI]
    simpa using Heap.get?_push_size s₁.heap rfl
  generalize hob : ({ cls := .type "range_iterator", data := .fields #[rawInt 0, rawInt (Builtin.Range.rangeSize 0 (n : Int) 1), rawInt 1] } : Obj) = ob at hst ⊢
  clear hob hsz
  have up : ∀ b o, s₁.heap.get? b = some o → (s₁.heap.push ob).get? b = some o := fun b o e => Heap.get?_push_of_some _ e
  have F1 := F.keeps up
  have N1 := N.grown up
  generalize s₁.heap.push ob = hp1 at hst F1 N1 up ⊢
  have hIL : env.locals ≠ I := hI ▸ Nat.ne_of_lt F.ns.lt
  have hI0 : g.get? I = none := hI ▸ next_is_new F
  have hnI : ∀ p ∈ news, p.1 ≠ I := fun p hp => hI ▸ Nat.ne_of_lt (Heap.lt_size (N p hp).1)
  refine codeAny_forLoop (RngInv KK J I env.locals n s₁) ?_ (n + 1)
    ⟨_, _, m, news, g, 0, rfl, hst, hK, F1, N1, hnI, hI0, hJ, Nat.zero_le _, rfl⟩
  rintro k s' hZ
  refine hideE fun P0 hP0 => ?_
  obtain ⟨h', tk, m', news', g', i, rfl, hst', hK', F', N', hnI', hI', hJ', hi, rfl⟩ := hZ
  refine hP0 ?_
  clear hP0
  by_cases hlt : i < n
  · refine W.item i _ _ _ hlt hst' fun v h₁ tk₁ hP hst₁ hk₁ => ?_
    obtain ⟨t1, rfl⟩ := hP
    have F₁ := fr_but F' hk₁ hIL hI'
    have N₁ := news_but N' hk₁ hnI'
    have N₂ : News g' env.locals h₁ ((I, _) :: news') := fun p hp => by
      rcases List.mem_cons.mp hp with rfl | hp
      · exact ⟨hst₁, Ne.symm hIL, hI'⟩
      · exact N₁ p hp
    have e0 : (0 : Int) + ((i : Nat) : Int) = (i : Int) := Int.zero_add _
    rw [e0]
    refine wpAny_passesOwn hE (wpAny_mono (turn i g' m' news' h₁ _ I _ t1 (TurnGot KK env.locals (J (i + 1)) I _ s₁ Q) hlt hK' hJ' hnI' F₁ N₂ ⟨fun g' h' tk' m' news' n' a b c d e f j => ⟨g', h', tk', m', news', n', rfl, a, b, c, d, e, f, j⟩, fun v s' q => q⟩) (fun _ s₂ h₂ => ?_) fun _ _ e => e)
    refine wpAny_passesOwn hE (wpAny_mono h₂ (fun f s₃ h₃ => ?_) fun _ _ e => e)
    cases f with
    | ret v => exact h₃
    | brk => exact h₃.elim
    | cont => exact h₃.elim
    | next =>
      refine hideE fun P0 hP0 => ?_
      obtain ⟨g3, h3, tk3, m3, news3, n3, rfl, a, b, c, d, e, f, j⟩ := h₃
      refine hP0 ?_
      clear hP0
      exact ⟨n + 1 - (i + 1), by omega, h3, tk3, m3, n3, g3, i + 1, rfl, (c _ e).1, a, b, fun p hp => c p (d p hp), f, (c _ e).2.2, j, hlt, rfl⟩
  · have hin : i = n := by omega
    subst hin
    refine W.done _ _ _ hst' fun h₁ tk₁ hk₁ => wpAny_execs_nil ?_
    exact done g' m' news' h₁ tk₁ hK' hJ' (fr_but F' hk₁ hIL hI') (news_but N' hk₁ hnI')
end
end Mine
end

section
open PySem PySem.W PySem.Spec PySem.Calls PyProof.Rows PyProof.V
set_option maxRecDepth 100000
set_option maxHeartbeats 0
namespace Mine
/-! the plain law over texts -/
theorem hexC_mono {a b : Nat} (h : a < b) (hb : b < 16) : hexC a < hexC b := by unfold hexC; split <;> split <;> omega
theorem quo_mono {a b : Nat} (h : a < b) (hb : b < 256) : quoL a < quoL b := by
  unfold quoL
  refine List.cons_lt_cons_iff.mpr (.inr ⟨rfl, List.cons_lt_cons_iff.mpr ?_⟩)
  rcases Nat.lt_or_ge (a / 16) (b / 16) with q | q
  · exact .inl (hexC_mono q (by omega))
  · have e : a / 16 = b / 16 := by omega
    exact .inr ⟨by rw [e], List.cons_lt_cons_iff.mpr (.inl (hexC_mono (by omega) (by omega)))⟩
theorem quo_lt {a b : Nat} (ha : a < 256) (hb : b < 256) : quoL a < quoL b ↔ a < b := by
  refine ⟨fun h => ?_, fun h => quo_mono h hb⟩
  rcases Nat.lt_trichotomy a b with q | q | q
  · exact q
  · rw [q] at h; exact absurd h (List.lt_irrefl _)
  · exact absurd (quo_mono q ha) (List.lt_asymm h)
theorem quo_inj {a b : Nat} (ha : a < 256) (hb : b < 256) (h : quoL a = quoL b) : a = b := by
  rcases Nat.lt_trichotomy a b with q | q | q
  · have := quo_mono q hb; rw [h] at this; exact absurd this (List.lt_irrefl _)
  · exact q
  · have := quo_mono q ha; rw [h] at this; exact absurd this (List.lt_irrefl _)
theorem cmpI_neg {a b : PySem.Str} : cmpI a b = -1 ↔ a.cps.toList < b.cps.toList := by
  unfold cmpI
  by_cases h1 : a.cps.toList < b.cps.toList
  · have h2 : ¬ b.cps.toList < a.cps.toList := List.lt_asymm h1
    simp [h1, h2, b2i]
  · by_cases h2 : b.cps.toList < a.cps.toList <;> simp [h1, h2, b2i]
theorem cmpI_zero {a b : PySem.Str} : cmpI a b = 0 ↔ a.cps.toList = b.cps.toList := by
  unfold cmpI
  by_cases h1 : a.cps.toList < b.cps.toList
  · have h2 : ¬ b.cps.toList < a.cps.toList := List.lt_asymm h1
    have h3 : a.cps.toList ≠ b.cps.toList := fun e => by rw [e] at h1; exact List.lt_irrefl _ h1
    simp [h1, h2, h3, b2i]
  · by_cases h2 : b.cps.toList < a.cps.toList
    · have h3 : a.cps.toList ≠ b.cps.toList := fun e => by rw [e] at h2; exact List.lt_irrefl _ h2
      simp [h1, h2, h3, b2i]
    · have h3 : a.cps.toList = b.cps.toList := List.le_antisymm h2 h1
      rw [decide_eq_false h1, decide_eq_false h2]
      simp [h3]
theorem quo_below {a b : Nat} (ha : a < 256) (hb : b < 256) : cmpI ⟨(quoL a).toArray⟩ ⟨(quoL b).toArray⟩ = -1 ↔ a < b := cmpI_neg.trans (quo_lt ha hb)
theorem quo_alike {a b : Nat} (ha : a < 256) (hb : b < 256) : cmpI ⟨(quoL a).toArray⟩ ⟨(quoL b).toArray⟩ = 0 ↔ a = b :=
  cmpI_zero.trans ⟨fun h => quo_inj ha hb h, fun h => by rw [h]⟩
theorem word_lt : ∀ {a b : List Nat}, (∀ c ∈ b, c < 256) → a < b → wordL a < wordL b
  | _, [], _, h => by simp at h
  | [], b :: bs, _, _ => by show [] < 61 :: _; exact List.nil_lt_cons ..
  | a :: as, b :: bs, hb, h => by
    show quoL a ++ wordL as < quoL b ++ wordL bs
    rcases List.cons_lt_cons_iff.mp h with h | ⟨h1, h2⟩
    · exact app_lt rfl (quo_mono h (hb b (List.mem_cons_self ..)))
    · subst h1
      have ih := word_lt (fun c hc => hb c (List.mem_cons_of_mem _ hc)) h2
      exact List.cons_lt_cons_iff.mpr (.inr ⟨rfl, List.cons_lt_cons_iff.mpr (.inr ⟨rfl, List.cons_lt_cons_iff.mpr (.inr ⟨rfl, ih⟩)⟩)⟩)
theorem toS_inj {a b : List Nat} (h : toS a = toS b) : a = b := by
  have := congrArg (fun x : PySem.Str => x.cps.toList) h
  simpa [toS] using this
/-- the words in order are the words of the turns in order -/
theorem words_rows {r : List Nat} {W : List PySem.Str} (hr : ∀ c ∈ r, c < 256) (hp : W.Perm ((List.range r.length).map fun k => toS (wordL (rl k r)))) (hs : W.Pairwise sle) :
    ∃ T : List (List Nat), T.Perm (turnsL r) ∧ Mine.srt T ∧ W = T.map fun t => toS (wordL t) := by
  have e : ((List.range r.length).map fun k => toS (wordL (rl k r))) = (turnsL r).map fun t => toS (wordL t) := by
    unfold turnsL; rw [List.map_map]; rfl
  rw [e] at hp
  obtain ⟨T, hT, rfl⟩ := perm_map_inv hp rfl
  refine ⟨T, hT, ?_, rfl⟩
  unfold Mine.srt
  rw [List.pairwise_map] at hs
  refine hs.imp_of_mem fun {a b} ha hb hab hlt => ?_
  have ha9 : ∀ c ∈ a, c < 256 := by
    obtain ⟨k, _, rfl⟩ := List.mem_map.mp (hT.mem_iff.mp ha)
    exact fun c hc => hr c (rl_mem hc)
  exact hab (word_lt ha9 hlt)
/-! unorderable_list_difference -/
theorem uld_all : ∀ {l T M : List PySem.Str}, l.Perm T → uldR l T M = (M, [])
  | [], T, M, h => by rw [List.nil_perm.mp h]; rfl
  | x :: r, T, M, h => by
    have hx : x ∈ T := h.mem_iff.mp (List.mem_cons_self ..)
    unfold uldR
    rw [if_pos hx]
    have := h.erase x
    rw [List.erase_cons_head] at this
    exact uld_all this
theorem uld_more : ∀ {l T M : List PySem.Str} {x : PySem.Str}, l.Perm (x :: T) → uldR l T M = (M ++ [x], [])
  | [], T, M, x, h => by have := h.length_eq; simp at this
  | y :: r, T, M, x, h => by
    unfold uldR
    by_cases hy : y ∈ T
    · rw [if_pos hy]
      refine uld_more ?_
      have h2 : (x :: T).Perm (y :: x :: T.erase y) := ((List.perm_cons_erase hy).cons x).trans (.swap ..)
      exact (h.trans h2).cons_inv
    · rw [if_neg hy]
      have hxy : y = x := (List.mem_cons.mp (h.mem_iff.mp (List.mem_cons_self ..))).resolve_right hy
      subst hxy
      exact uld_all h.cons_inv
theorem uld_less : ∀ {l T M : List PySem.Str} {x : PySem.Str}, (x :: l).Perm T → uldR l T M = (M, [x])
  | [], T, M, x, h => by
    have : T = [x] := List.perm_singleton.mp h.symm
    rw [this]; rfl
  | y :: r, T, M, x, h => by
    have hy : y ∈ T := h.mem_iff.mp (List.mem_cons_of_mem _ (List.mem_cons_self ..))
    unfold uldR
    rw [if_pos hy]
    refine uld_less ?_
    have h1 : (y :: x :: r).Perm T := (List.Perm.swap x y r).trans h
    have := h1.erase y
    rwa [List.erase_cons_head] at this
end Mine
end

section
open PySem PySem.W PySem.Spec PySem.Calls PyProof.Rows PyProof.V
set_option maxRecDepth 100000
set_option maxHeartbeats 0
namespace Mine
theorem toS_ln (t : List Nat) : (toS t).length = t.length := by simp [toS, Str.length]
theorem toS_list (t : List Nat) : (toS t).cps.toList = t := by simp [toS]
theorem toS_add (a b : List Nat) : toS a ++ toS b = toS (a ++ b) := str_ext (by rw [app_toList, toS_list, toS_list])
theorem toS_upto {t : List Nat} {k : Nat} (h : k ≤ t.length) : Txt.slice (toS t) none (some (k : Int)) = toS (t.take k) := by
  refine str_ext ?_
  rw [slice_upto (by omega) (by rw [toS_ln]; omega), toS_list, Int.toNat_natCast]
theorem toS_cut {t : List Nat} {a b : Nat} (hab : a ≤ b) (hb : b ≤ t.length) : Txt.slice (toS t) (some (a : Int)) (some (b : Int)) = toS ((t.drop a).take (b - a)) := by
  refine str_ext ?_
  rw [slice_plain hab (by rw [toS_ln]; exact hb), toS_list]
section
variable {T : List (List Nat)} {n k : Nat} {r : List Nat}
/-- the rows after k rounds -/
def rowsS (T : List (List Nat)) (k : Nat) : List PySem.Str := T.map fun t => toS (t.take k)
theorem rowsS_len : (rowsS T k).length = T.length := List.length_map _
theorem rowsS_zero (hT : T.length = n) : ((List.range n).map fun _ => Str.ofString "") = rowsS T 0 := by
  subst hT
  have e : Str.ofString "" = toS [] := by decide +kernel
  unfold rowsS
  rw [List.map_const', List.length_range, e]
  exact (List.map_const' ..).symm
theorem round_strs (H : Tab T n) (hT : T.length = n) (hk : k < n) {ss : List PySem.Str} (hp : ss.Perm ((List.range n).map fun j => toS ((T.getD j []).getLastD 0 :: (T.getD j []).take k))) (hs : ss.Pairwise sle) : ss = rowsS T (k + 1) := by
  have e : ((List.range n).map fun j => toS ((T.getD j []).getLastD 0 :: (T.getD j []).take k)) = (T.map fun t => t.getLastD 0 :: t.take k).map toS := by
    rw [List.map_map, ← hT]
    refine List.ext_getElem (by simp) fun i h1 h2 => ?_
    have : i < T.length := by simpa using h2
    simp [this, List.getD_eq_getElem?_getD]
  rw [e] at hp
  obtain ⟨rows, hr, rfl⟩ := perm_map_inv hp rfl
  have hs' : Mine.srt rows := by
    unfold Mine.srt
    rw [List.pairwise_map] at hs
    refine hs.imp fun {a b} hab => ?_
    have : (toS a).cps.toList ≤ (toS b).cps.toList := hab
    rwa [toS_list, toS_list] at this
  rw [H.round hk hr hs', List.map_map]
  rfl
theorem pieces_strs (hT : T.Perm (turnsL r)) (hk : k ≤ r.length) : ((List.range r.length).map fun j => toS (((r ++ r).drop j).take k)).Perm (rowsS T k) := by
  have h := (pieces_perm hT hk).map toS
  rw [List.map_map, List.map_map] at h
  exact h
theorem rest_out {R : List PySem.Str} (hk : k < R.length) : R.Perm (R[k] :: (R.take k ++ R.drop (k + 1))) := one_out hk
theorem lacks_one {P R : List PySem.Str} (hP : P.Perm R) (hk : k < R.length) : uldR P.reverse (R.take k ++ R.drop (k + 1)) [] = ([R[k]], []) :=
  uld_more ((List.reverse_perm P).trans (hP.trans (rest_out hk)))
theorem lacks_two {P R : List PySem.Str} (hP : P.Perm R) (hk : k < R.length) : uldR (R.take k ++ R.drop (k + 1)).reverse P [] = ([], [R[k]]) :=
  uld_less (((List.reverse_perm _).cons _).trans ((rest_out hk).symm.trans hP.symm))
theorem rowsS_sh (h : ∀ t ∈ T, ∀ c ∈ t, c < 256) : Sh (rowsS T k) := by
  intro x hx c hc
  obtain ⟨t, ht, rfl⟩ := List.mem_map.mp hx
  rw [toS_list] at hc
  exact h t ht c (List.mem_of_mem_take hc)
theorem sh_one {R : List PySem.Str} (h : Sh R) (hk : k < R.length) : Sh [R[k]] := fun x hx => by
  rw [List.mem_singleton.mp hx]
  exact h _ (List.getElem_mem hk)
end
end Mine
end

section
open PySem PySem.W PySem.Spec PySem.Calls PyProof.Rows PyProof.V
set_option maxRecDepth 100000
set_option maxHeartbeats 0
namespace Mine
theorem hexC_safe {a : Nat} (h : a < 16) : safeC (hexC a) = true := by
  unfold hexC safeC
  split <;> simp <;> omega
theorem word_safe {t : List Nat} (h : ∀ c ∈ t, c < 256) : ∀ c ∈ wordL t, safeC c = true := by
  intro c hc
  obtain ⟨a, ha, hc⟩ := List.mem_flatMap.mp hc
  have h9 := h a ha
  rcases List.mem_cons.mp hc with rfl | hc
  · rfl
  rcases List.mem_cons.mp hc with rfl | hc
  · exact hexC_safe (by omega)
  rw [List.mem_singleton.mp hc]
  exact hexC_safe (by omega)
theorem rising_pair : ∀ (p : PySem.Str) (l : List PySem.Str), risingS p l = true → (p :: l).Pairwise sle
  | p, [], _ => List.pairwise_singleton ..
  | p, x :: r, h => by
    have h' : (!ltCps x.cps.toList p.cps.toList && risingS x r) = true := h
    rw [Bool.and_eq_true, ltCps_eq] at h'
    have ih := rising_pair x r h'.2
    have hpx : sle p x := by
      have h1 := h'.1
      cases hd : decide (x.cps.toList < p.cps.toList) with
      | true => rw [hd] at h1; cases h1
      | false => exact of_decide_eq_false hd
    refine List.pairwise_cons.mpr ⟨fun y hy => ?_, ih⟩
    rcases List.mem_cons.mp hy with rfl | hy
    · exact hpx
    · exact sle_trans hpx ((List.pairwise_cons.mp ih).1 y hy)
theorem sorted_pair : ∀ {l : List PySem.Str}, sortedS l = true → l.Pairwise sle
  | [], _ => List.Pairwise.nil
  | x :: r, h => rising_pair x r h
theorem sle_toS {a b : List Nat} : sle (toS a) (toS b) ↔ a ≤ b := by
  unfold sle
  rw [toS_list, toS_list]
/-- sorted(turns) is the table -/
theorem sorted_rows {T : List (List Nat)} {r : List Nat} (hP : T.Perm (turnsL r)) (hS : Mine.srt T) {ss : List PySem.Str} (hp : ss.Perm ((turnsL r).map toS)) (hs : sortedS ss = true) : ss = T.map toS := by
  obtain ⟨T', hT', rfl⟩ := perm_map_inv hp rfl
  have h := sorted_pair hs
  rw [List.pairwise_map] at h
  rw [srt_unique (h.imp fun hab => sle_toS.mp hab) hS (hT'.trans hP.symm)]
theorem count_rows (r : List Nat) : ∀ l : List (List Nat), (l.map toS).count (toS r) = l.count r
  | [] => rfl
  | x :: l => by
    rw [List.map_cons, List.count_cons, List.count_cons, count_rows r l]
    have e : (toS x == toS r) = (x == r) := by
      by_cases h : x = r
      · subst h; rw [beq_self_eq_true, beq_self_eq_true]
      · have : toS x ≠ toS r := fun q => h (toS_inj q)
        rw [beq_eq_false_iff_ne.mpr this, beq_eq_false_iff_ne.mpr h]
    rw [e]
theorem rows_sh {T : List (List Nat)} (h : ∀ t ∈ T, ∀ c ∈ t, c < 256) : Sh (T.map toS) := by
  intro x hx c hc
  obtain ⟨t, ht, rfl⟩ := List.mem_map.mp hx
  rw [toS_list] at hc
  exact h t ht c hc
theorem turn_mem {T : List (List Nat)} {r : List Nat} (hP : T.Perm (turnsL r)) (h : ∀ c ∈ r, c < 256) : ∀ t ∈ T, ∀ c ∈ t, c < 256 := by
  intro t ht c hc
  obtain ⟨k, _, rfl⟩ := List.mem_map.mp (hP.mem_iff.mp ht)
  exact h c (rl_mem hc)
end Mine
end

section
open PySem PySem.W PySem.Spec PySem.Calls PyProof.Rows PyProof.V
set_option maxRecDepth 100000
set_option maxHeartbeats 0
namespace Mine
open PySem.Builtin PySem.Builtin.Str
def drawC (n : Int) : Nat := if n.fmod 3 = 0 then ((n.fdiv 3).fmod 256).toNat else [97, 39, 32, 61].getD ((n.fdiv 3).fmod 4).toNat 0
theorem four (n : Int) : n.fmod 4 = 0 ∨ n.fmod 4 = 1 ∨ n.fmod 4 = 2 ∨ n.fmod 4 = 3 := by
  have h1 := Int.fmod_nonneg_of_pos n (b := 4) (by decide)
  have h2 := Int.fmod_lt_of_pos n (b := 4) (by decide)
  omega
theorem drawn_one (n : Int) : drawnS n = toS [drawC n] := by
  unfold drawnS drawC
  split
  · rfl
  · rcases four (n.fdiv 3) with e | e | e | e <;> rw [e] <;> decide +kernel
theorem draw_lt (n : Int) : drawC n < 256 := by
  unfold drawC
  split
  · have h1 := Int.fmod_nonneg_of_pos (n.fdiv 3) (b := 256) (by decide)
    have h2 := Int.fmod_lt_of_pos (n.fdiv 3) (b := 256) (by decide)
    omega
  · rcases four (n.fdiv 3) with e | e | e | e <;> rw [e] <;> decide
theorem drawn_join (l : List Int) : Txt.join (Str.ofString "") ((List.range l.length).map fun i => drawnS (l.getD i 0)) = toS (l.map drawC) := by
  have e : ((List.range l.length).map fun i => drawnS (l.getD i 0)) = l.map fun n => toS [drawC n] := by
    refine List.ext_getElem (by simp) fun i h1 h2 => ?_
    have hi : i < l.length := by simpa using h2
    simp [List.getD_eq_getElem?_getD, hi, drawn_one]
  refine str_ext ?_
  rw [e, join_empty, List.flatMap_map]
  induction l with
  | nil => rfl
  | cons a l ih =>
    rw [List.flatMap_cons, List.map_cons, ih (by
      refine List.ext_getElem (by simp) fun i h1 h2 => ?_
      have hi : i < l.length := by simpa using h2
      simp [List.getD_eq_getElem?_getD, hi, drawn_one])]
    rfl
/-- the law's ring -/
def ringL (ns : List Int) : List Nat := (ns.take 3).map drawC ++ [97, 39, 97, 97]
theorem ring_len (ns : List Int) : 4 ≤ (ringL ns).length ∧ (ringL ns).length ≤ 7 := by
  unfold ringL
  rw [List.length_append, List.length_map, List.length_take]
  constructor <;> simp <;> omega
theorem ring_lt (ns : List Int) : ∀ c ∈ ringL ns, c < 256 := by
  intro c hc
  rcases List.mem_append.mp hc with hc | hc
  · obtain ⟨n, _, rfl⟩ := List.mem_map.mp hc
    exact draw_lt n
  · simp only [List.mem_cons, List.not_mem_nil, or_false] at hc
    omega
def twinL (ns : List Int) : List Nat := (ringL ns).take 2 ++ (ringL ns).take 2
theorem twin_len (ns : List Int) : (twinL ns).length = 4 := by
  have := ring_len ns
  unfold twinL
  rw [List.length_append, List.length_take]; omega
theorem twin_lt (ns : List Int) : ∀ c ∈ twinL ns, c < 256 := by
  intro c hc
  rcases List.mem_append.mp hc with hc | hc <;> exact ring_lt ns c (List.mem_of_mem_take hc)
theorem glue_sp : ∀ (rest : List (List Nat)) (acc : Array Nat), ((rest.map toS).foldl (fun acc p => acc ++ (Str.ofString " ").cps ++ p.cps) acc).toList = acc.toList ++ rest.flatMap fun p => 32 :: p
  | [], acc => by simp
  | p :: rest, acc => by
    rw [List.map_cons, List.foldl_cons, glue_sp rest, List.flatMap_cons]
    have : (Str.ofString " ").cps = #[32] := by decide +kernel
    rw [this]
    simp [toS]
theorem jn_flat (w : List Nat) : ∀ r : List (List Nat), jn (w :: r) = w ++ r.flatMap fun p => 32 :: p := by
  intro r
  induction r generalizing w with
  | nil => simp [jn]
  | cons v r ih => rw [jn_cons, if_neg (by simp), ih v, List.flatMap_cons]; rfl
theorem join_sp (wl : List (List Nat)) : (Txt.join (Str.ofString " ") (wl.map toS)).cps.toList = jn wl := by
  show (glued _ (wl.map toS)).cps.toList = _
  cases wl with
  | nil => rfl
  | cons w rest =>
    show ((rest.map toS).foldl (fun acc p => acc ++ (Str.ofString " ").cps ++ p.cps) (toS w).cps).toList = _
    rw [glue_sp, jn_flat]
    simp [toS]
theorem jn_len (k : Nat) : ∀ wl : List (List Nat), (∀ w ∈ wl, w.length ≤ k) → (jn wl).length ≤ wl.length * (k + 1)
  | [], _ => by simp [jn]
  | w :: r, h => by
    have ih := jn_len k r fun v hv => h v (List.mem_cons_of_mem _ hv)
    have hw := h w (List.mem_cons_self ..)
    rw [jn_cons, List.length_append, List.length_cons, Nat.succ_mul]
    by_cases hr : r = []
    · subst hr; simp; omega
    · rw [if_neg hr, List.length_cons]; omega
theorem word_head {t : List Nat} (h : t ≠ []) : (wordL t).head? = some 61 := by
  cases t with
  | nil => exact absurd rfl h
  | cons a r => rfl
end Mine
end

section
open PySem PySem.W PySem.Spec PySem.Calls PyProof.Rows PyProof.V
set_option maxRecDepth 100000
set_option maxHeartbeats 0
namespace Mine
open LCg LCt
abbrev oneS (c : Nat) : PySem.Str := ⟨#[c]⟩
local macro_rules | `(tactic| walk_at "exec Assign cons ListComp") => `(tactic| (refine Stop.out ?_))
local macro_rules | `(tactic| walk_at "CompSrcT") => `(tactic| (refine Stop.out ?_))
local macro_rules | `(tactic| walk_at "subscriptTail Name Name ref int") => `(tactic| (refine Stop.out ?_))
local macro_rules | `(tactic| walk_at "subscriptTail Name Slice ref ref") => `(tactic| (refine Stop.out ?_))
local macro_rules | `(tactic| walk_at "call builtin:len") => `(tactic| (refine Stop.out ?_))
local macro_rules | `(tactic| walk_at "call ref") => `(tactic| (refine Stop.out ?_))
local macro_rules | `(tactic| k_all) => `(tactic| assumption)
theorem lt_ne1 {l : List (Addr × Obj)} {D : Addr} (h : ∀ p ∈ l, p.1 < D) : ∀ p ∈ l, p.1 ≠ D + 1 := fun p hp => Nat.ne_of_lt (Nat.lt_succ_of_lt (h p hp))
theorem gd_at {la : List Nat} {j : Nat} (h : j < la.length) : la.getD j 0 = la[j] := by simp [List.getD_eq_getElem?_getD, h]
theorem gd_below {la : List Nat} {j b : Nat} {z : Int} (h : j < la.length) (e : z = -1 ↔ la[j] < b) (q : z = -1) : la.getD j 0 < b := by rw [gd_at h]; exact e.mp q
theorem gd_not {la : List Nat} {j b : Nat} {z : Int} (h : j < la.length) (e : z = -1 ↔ la[j] < b) (q : z ≠ -1) : ¬ la.getD j 0 < b := by rw [gd_at h]; exact fun y => q (e.mpr y)
theorem gd_alike {la : List Nat} {j b : Nat} {z : Int} (h : j < la.length) (e : z = 0 ↔ la[j] = b) (q : z = 0) : la.getD j 0 = b := by rw [gd_at h]; exact e.mp q
theorem gd_nalike {la : List Nat} {j b : Nat} {z : Int} (h : j < la.length) (e : z = 0 ↔ la[j] = b) (q : z ≠ 0) : ¬ la.getD j 0 = b := by rw [gd_at h]; exact fun y => q (e.mpr y)
theorem cnt_len {ys : List Value} {n : Nat} {g : Nat → PySem.Str} {pz : Nat → Bool} (h : StrsAre ys (((List.range n).filter pz).map g)) : ys.length = (List.range n).countP pz := by
  rw [h.length, List.length_map, List.countP_eq_length_filter]
theorem nxt_len {la : List Nat} {i : Nat} (hi : i < la.length) {us ys zs : List Value} (hus : us.length = la.length) (h1 : StrsAre ys (((List.range us.toArray.size).filter fun j => decide (la.getD j 0 < la[i])).map fun j => oneS (la.getD j 0)))
    (h2 : StrsAre zs (((List.range (us.take i).toArray.size).filter fun j => decide (la.getD j 0 = la[i])).map fun j => oneS (la.getD j 0))) : (ys.length : Int) + (zs.length : Int) = (nxt la i : Int) := by
  rw [cnt_len h1, cnt_len h2, nxt, gd_at hi, countP_range_getElem _ 0 la, countP_range_getElem _ 0 (la.take i)]
  simp only [List.size_toArray, List.length_take, hus]
  rw [Int.natCast_add]
  congr 2
  refine List.countP_congr fun j hj => ?_
  have hj := List.mem_range.mp hj
  rw [show (la.take i).getD j 0 = la.getD j 0 by rw [List.getD_eq_getElem?_getD, List.getD_eq_getElem?_getD, List.getElem?_take_of_lt (by omega)]]
theorem c_next (w : World) (mean : ExcName → Option Value) (mg mb : PySem.Str → Option Value) (news : CbLed) (l : Addr) (us : List Value) (la : List Nat) (k : Nat) (i : Nat) (ti : Tok)
    (hm : (l, W.listOf us.toArray k) ∈ news) (hs : StrsAre us (la.map oneS)) (hl : la.length < 64) (h256 : ∀ c ∈ la, c < 256) (hi : i < la.length) :
    ClV w mean mg mb 835 6 60 news [.ref l, .int i ti] (fun t => .int (nxt la i) t) := by
  dsimp only [ClV]; k_fill; intros; rename_i hret
  refine wpAny_call ?_
  k_dflt (refine' code_defC (binds := [(Str.ofString "last", Value.ref l), (Str.ofString "place", Value.int i ti)]) ?k1 ?k2 ?k3 ?k4 ?k5 ?kA ?kF ?kK ?k6 ?k7 ?k8 ?k9 ?kB ?kD ?_ ?c2 ?c3 ?c4; (case kA => exact rfl); (case kF => exact rfl); (case kK => assumption); (case k1 => k_asm); (case k2 => k_asm); (case k3 => k_asm); (case k4 => k_asm); (case k5 => k_asm); (case k6 => k_is); (case k7 => k_is); (case k8 => ktr_room); (case k9 => first | exact BindsTo.of_eq rfl | exact binds_K (by k_in) rfl (by k_is) rfl rfl rfl); (case kB => exact rfl); (case kD => decide +kernel); (case c2 => exact rfl); (case c3 => exact rfl); (case c4 => exact rfl); k_whole; intro g' L' h' tk' cells' FG' F' N' Y' B' X' T' l1; k_cells Y'; (try simp only [List.cons_append, List.nil_append] at N'); (try dsimp only); (try k_lift B'); (try k_fold))
  have l2 := lt_ne1 l1
  have hx : (la.map oneS)[i]? = some (oneS la[i]) := by simp [hi]
  have hi9 : la[i] < 256 := h256 _ (List.getElem_mem hi)
  k_steps
  refine Stop.into ?_
  k_dflt (refine item_strs (i := i) (by k_asm) (List.mem_cons_of_mem _ hm) hs rfl hx (by omega) ?_; intro t5)
  k_steps
  refine Stop.into ?_
  k_dflt (refine' c_quo _ _ _ _ _ _ _ _ _ _ _ _ _ _ _ _ _ _ _ _ _ _ _ _ ?k1x7 ?k2x7 ?k3x7 ?k4x7 ?k5x7 ?kKx7 ?kpx7 ?kdx7 ?kux7 ?kRx7; (case k1x7 => k_asm); (case k2x7 => k_asm); (case k3x7 => k_asm); (case k4x7 => k_asm); (case k5x7 => k_asm); (case kKx7 => first | exact rfl | assumption); (case kpx7 => assumption); (case kdx7 => ktr_room); (case kux7 => ktr_units))
  intro t9 h9 tk9 F9 N9
  (try dsimp only)
  (try k_fold)
  k_steps
  refine Stop.into ?_
  k_dflt (refine LCt.Assign_ListComp_T (F₀ := by k_asm) (by rfl) (by with_unfolding_all rfl) (by with_unfolding_all rfl) (by decide) (by rfl) (by decide) (by rfl) (by rfl) (by rfl) ?_)
  k_steps
  refine Stop.into ?_
  refine CompSrcT.ledger (k := k) rfl (by k_asm) (by k_asm) (List.mem_cons_of_mem _ hm) (by have := hs.length; rw [List.length_map] at this; rw [sizeLine_eq]; simp only [List.size_toArray]; omega) fun g8 => ?_
  refine rest_filter (fun j => oneS (la.getD j 0)) (fun j => decide (la.getD j 0 < la[i])) ?turn ?fin
  case turn =>
    rintro j v I oI C oC D m₂ ys h8 tk8 E8 hj hv hC hx F8 N8 off ne
    have hj' : j < la.length := by have := hs.length; rw [List.length_map] at this; simp only [List.size_toArray] at hj; omega
    obtain ⟨t6, rfl⟩ : ∃ t, v = .str (oneS la[j]) t := by
      obtain ⟨t, e⟩ := strs_at (i := j) hs (x := oneS la[j]) (by simp [hj'])
      refine ⟨t, ?_⟩
      have hv' : us[j]? = some v := by simpa using hv
      rw [e] at hv'
      exact (Option.some.inj hv').symm
    have hj9 : la[j] < 256 := h256 _ (List.getElem_mem hj')
    k_steps
    refine Stop.into ?_
    k_dflt (refine' c_quo _ _ _ _ _ _ _ _ _ _ _ _ _ _ _ _ _ _ _ _ _ _ _ _ ?k1x8 ?k2x8 ?k3x8 ?k4x8 ?k5x8 ?kKx8 ?kpx8 ?kdx8 ?kux8 ?kRx8; (case k1x8 => k_asm); (case k2x8 => k_asm); (case k3x8 => k_asm); (case k4x8 => k_asm); (case k5x8 => k_asm); (case kKx8 => first | exact rfl | assumption); (case kpx8 => assumption); (case kdx8 => ktr_room); (case kux8 => ktr_units))
    intro t7 h7 tk7 F7 N7
    (try dsimp only)
    (try k_fold)
    clear F8 N8
    k_steps
    refine Stop.into ?_
    k_dflt (refine' c_cmp _ _ _ _ _ _ _ _ _ _ _ _ _ _ _ _ _ _ _ _ _ _ _ _ _ _ ?k1x9 ?k2x9 ?k3x9 ?k4x9 ?k5x9 ?kKx9 ?kpx9 ?kdx9 ?kux9 ?kRx9; (case k1x9 => k_asm); (case k2x9 => k_asm); (case k3x9 => k_asm); (case k4x9 => k_asm); (case k5x9 => k_asm); (case kKx9 => first | exact rfl | assumption); (case kpx9 => trivial); (case kdx9 => ktr_room); (case kux9 => ktr_units))
    intro t8 h8 tk8 F8 N8
    (try dsimp only)
    (try k_fold)
    clear F7 N7
    k_steps
    all_goals rename News _ _ _ _ => N7
    all_goals rename Fr _ _ _ _ => F7
    · exact CompEnd.intro F7 N7 _ (fun _ h => h) off (.inr ⟨_, List.mem_cons_of_mem _ hm, rfl, _, rfl⟩) ⟨decide_eq_true (gd_below hj' (quo_below hj9 hi9) (by assumption)), rfl, _, by rw [gd_at hj']⟩
    · exact CompEnd.intro F7 N7 _ (fun _ h => h) off (.inr ⟨_, List.mem_cons_of_mem _ hm, rfl, _, rfl⟩) ⟨decide_eq_false (gd_not hj' (quo_below hj9 hi9) (by assumption)), rfl⟩
  case fin =>
    intro ys hys D h7 tk7 F7 N7 off7
    k_steps
    refine Stop.into ?_
    k_dflt (refine LCt.Assign_ListComp_T (F₀ := by k_asm) (by rfl) (by with_unfolding_all rfl) (by with_unfolding_all rfl) (by decide) (by rfl) (by decide) (by rfl) (by rfl) (by rfl) ?_)
    k_steps
    refine Stop.into ?_
    have hus : us.length = la.length := by have := hs.length; rwa [List.length_map] at this
    k_dflt (refine kms_slice_lit F7 N7 (N7.isList (List.mem_cons_of_mem _ (List.mem_cons_of_mem _ hm))) IsPart.none (IsPart.int _ _) (cut_upto (us := us) (i := i) (by omega)) ?_ (by with_unfolding_all rfl) (by kmk_pure) (by rw [sizeLine_eq]; simp only [List.size_toArray]; omega))
    intro D2 h8 F8 N8 l8
    k_steps
    refine Stop.into ?_
    refine CompSrcT.ledger (k := 0) rfl (by k_asm) N8 (List.mem_cons_self ..) (by rw [sizeLine_eq]; simp only [List.size_toArray, List.length_take]; omega) fun g8 => ?_
    refine rest_filter (fun j => oneS (la.getD j 0)) (fun j => decide (la.getD j 0 = la[i])) ?turnb ?finb
    case turnb =>
      rintro j v I oI C oC D9 m₂ ys8 h8 tk8 E8 hj hv hC hx F8 N8 off ne
      have hji : j < i := by simp only [List.size_toArray, List.length_take] at hj; omega
      have hj' : j < la.length := by omega
      obtain ⟨t6, rfl⟩ : ∃ t, v = .str (oneS la[j]) t := by
        obtain ⟨t, e⟩ := strs_at (i := j) hs (x := oneS la[j]) (by simp [hj'])
        refine ⟨t, ?_⟩
        have hv' : (us.take i)[j]? = some v := by simpa using hv
        rw [List.getElem?_take_of_lt hji, e] at hv'
        exact (Option.some.inj hv').symm
      have hj9 : la[j] < 256 := h256 _ (List.getElem_mem hj')
      k_steps
      refine Stop.into ?_
      k_dflt (refine' c_quo _ _ _ _ _ _ _ _ _ _ _ _ _ _ _ _ _ _ _ _ _ _ _ _ ?k1x10 ?k2x10 ?k3x10 ?k4x10 ?k5x10 ?kKx10 ?kpx10 ?kdx10 ?kux10 ?kRx10; (case k1x10 => k_asm); (case k2x10 => k_asm); (case k3x10 => k_asm); (case k4x10 => k_asm); (case k5x10 => k_asm); (case kKx10 => first | exact rfl | assumption); (case kpx10 => assumption); (case kdx10 => ktr_room); (case kux10 => ktr_units))
      intro t7 h7 tk7 F7 N7
      (try dsimp only)
      (try k_fold)
      clear F8 N8
      k_steps
      refine Stop.into ?_
      k_dflt (refine' c_cmp _ _ _ _ _ _ _ _ _ _ _ _ _ _ _ _ _ _ _ _ _ _ _ _ _ _ ?k1x11 ?k2x11 ?k3x11 ?k4x11 ?k5x11 ?kKx11 ?kpx11 ?kdx11 ?kux11 ?kRx11; (case k1x11 => k_asm); (case k2x11 => k_asm); (case k3x11 => k_asm); (case k4x11 => k_asm); (case k5x11 => k_asm); (case kKx11 => first | exact rfl | assumption); (case kpx11 => trivial); (case kdx11 => ktr_room); (case kux11 => ktr_units))
      intro t8 h8 tk8 F8 N8
      (try dsimp only)
      (try k_fold)
      clear F7 N7
      k_steps
      all_goals rename News _ _ _ _ => N7
      all_goals rename Fr _ _ _ _ => F7
      · exact CompEnd.intro F7 N7 _ (fun _ h => h) off (.inr ⟨_, List.mem_cons_self .., rfl, _, rfl⟩) ⟨decide_eq_true (gd_alike hj' (quo_alike hj9 hi9) (by assumption)), rfl, _, by rw [gd_at hj']⟩
      · exact CompEnd.intro F7 N7 _ (fun _ h => h) off (.inr ⟨_, List.mem_cons_self .., rfl, _, rfl⟩) ⟨decide_eq_false (gd_nalike hj' (quo_alike hj9 hi9) (by assumption)), rfl⟩
    case finb =>
      intro zs hzs D3 h9 tk9 F9 N9 off9
      have hlen := nxt_len hi hus hys hzs
      k_steps
      refine Stop.into ?_
      have hzl : zs.length ≤ 4096 := by rw [cnt_len hzs]; refine Nat.le_trans List.countP_le_length ?_; rw [List.length_range, List.size_toArray, List.length_take]; omega
      have hyl : ys.length ≤ 4096 := by rw [cnt_len hys]; refine Nat.le_trans List.countP_le_length ?_; rw [List.length_range, List.size_toArray]; omega
      refine len_led N9 (us := ys) (k := ys.length) (List.mem_cons_of_mem _ (List.mem_cons_of_mem _ (List.mem_cons_self ..))) rfl hyl fun t5 k5 => ?_
      (try dsimp only)
      k_steps
      refine Stop.into ?_
      refine len_led N9 (us := zs) (k := zs.length) (List.mem_cons_self ..) rfl hzl fun t6 k6 => ?_
      (try dsimp only)
      k_steps
      rw [hlen]
      refine hret _ _ _ (by k_asm) (cb_drop (by assumption) fun p hp => List.mem_cons_of_mem _ (List.mem_cons_of_mem _ (List.mem_cons_of_mem _ (List.mem_cons_of_mem _ hp))))
end Mine
end

section
open PySem PySem.W PySem.Spec PySem.Calls PyProof.Rows PyProof.V
set_option maxRecDepth 100000
set_option maxHeartbeats 0
namespace Mine
open LCg LCt
local macro_rules | `(tactic| walk_at "exec Assign cons ListComp") => `(tactic| (refine Stop.out ?_))
local macro_rules | `(tactic| walk_at "eval ListComp") => `(tactic| (refine Stop.out ?_))
local macro_rules | `(tactic| walk_at "CompSrc") => `(tactic| (refine Stop.out ?_))
local macro_rules | `(tactic| walk_at "subscriptTail Name Name ref int") => `(tactic| (refine Stop.out ?_))
local macro_rules | `(tactic| walk_at "call builtin:len") => `(tactic| (refine Stop.out ?_))
local macro_rules | `(tactic| walk_at "call ref") => `(tactic| (refine Stop.out ?_))
local macro_rules | `(tactic| walk_at "compareOp NotEq ref ref") => `(tactic| (refine Stop.out ?_))
local macro_rules | `(tactic| walk_at "call builtin:sorted") => `(tactic| (refine Stop.out ?_))
local macro_rules | `(tactic| walk_at "subscriptTail Name UnaryOp str int") => `(tactic| (refine Stop.out ?_))
local macro_rules | `(tactic| walk_at "exec For") => `(tactic| (refine Stop.out ?_))
local macro_rules | `(tactic| walk_at "exec For Name Call cons nil") => `(tactic| (refine Stop.out ?_))
local macro_rules | `(tactic| walk_at "exec While") => `(tactic| (refine Stop.out ?_))
local macro_rules | `(tactic| walk_at "exec While Compare cons nil") => `(tactic| (refine Stop.out ?_))
local macro_rules | `(tactic| k_all) => `(tactic| assumption)
theorem rot1_str {t : List Nat} (h : 0 < t.length) : Txt.item (toS t) (-1) ++ Txt.slice (toS t) none (some (-1)) = toS (rot1 t) := by
  refine str_ext (l := rot1 t) ?_
  rw [app_toList, item_last (by rw [toS_ln]; exact h), slice_init (by rw [toS_ln]; exact h), toS_list]
  rfl
theorem sorted_steps {T : List (List Nat)} {n : Nat} (H : Tab T n) (hT : T.length = n) {ns : List Int} (p : ns.Perm ((List.range n).map fun i : Nat => (nxt (lastOf T) i : Int))) (o : ns.Pairwise (· ≤ ·)) : ns = rangeKs 0 n := by
  have e : ((List.range n).map fun i : Nat => (nxt (lastOf T) i : Int)) = (stepsOf T).map fun i : Nat => 0 + (i : Int) := by
    unfold stepsOf
    rw [List.map_map, hT]
    exact List.map_congr_left fun i _ => (Int.zero_add _).symm
  have h := H.steps_perm.map fun i : Nat => 0 + (i : Int)
  rw [hT, ← e] at h
  refine (p.trans h).eq_of_pairwise (fun _ _ _ _ h1 h2 => Int.le_antisymm h1 h2) o ?_
  show ((List.range n).map fun i : Nat => 0 + (i : Int)).Pairwise (· ≤ ·)
  rw [List.pairwise_map]
  exact List.pairwise_lt_range.imp fun h => by omega
theorem pull2 {f : PySem.Str → Option Value} {a b : PySem.Str} {va vb : Option Value} (ha : f a = va) (hb : f b = vb) : f = fun y => if y = a then va else if y = b then vb else f y := by
  funext y
  by_cases e : y = a
  · subst e; simp [ha]
  · by_cases e2 : y = b
    · subst e2; simp [e, hb]
    · simp [e, e2]
theorem pull5 {f : PySem.Str → Option Value} {a b c d e : PySem.Str} {va vb vc vd ve : Option Value} (ha : f a = va) (hb : f b = vb) (hc : f c = vc) (hd : f d = vd) (he : f e = ve) :
    f = fun y => if y = a then va else if y = b then vb else if y = c then vc else if y = d then vd else if y = e then ve else f y := by
  funext y
  by_cases h1 : y = a
  · subst h1; simp [ha]
  · by_cases h2 : y = b
    · subst h2; simp [h1, hb]
    · by_cases h3 : y = c
      · subst h3; simp [h1, h2, hc]
      · by_cases h4 : y = d
        · subst h4; simp [h1, h2, h3, hd]
        · by_cases h5 : y = e
          · subst h5; simp [h1, h2, h3, h4, he]
          · simp [h1, h2, h3, h4, h5]
/-- the frame's map between two turns of the for -/
def ledF (D : Addr) (c : Nat) (tc : Tok) (m : PySem.Str → Option Value) : Prop :=
  ∃ u : PySem.Str → Option Value, m = fun y => if y = Str.ofString "steps" then some (Value.ref D) else if y = Str.ofString "turns" then some (Value.int (c : Int) tc) else u y
/-- and between two turns of the while -/
def ledW (T : List (List Nat)) (D : Addr) (c p i : Nat) (tc ti : Tok) (n : Nat) (m : PySem.Str → Option Value) : Prop :=
  ∃ (k : Nat) (t1 t2 : Tok) (u : PySem.Str → Option Value), 1 ≤ k ∧ k ≤ p ∧ n = p - k ∧ m = fun y => if y = Str.ofString "place" then some (Value.int (rep (nxt (lastOf T)) k i : Nat) t1) else if y = Str.ofString "count" then some (Value.int (k : Int) t2) else if y = Str.ofString "start" then some (Value.int (i : Int) ti) else
    if y = Str.ofString "steps" then some (Value.ref D) else if y = Str.ofString "turns" then some (Value.int (c : Int) tc) else u y
theorem news_ex {g h : Heap} {L : Addr} {nl : List (Addr × Obj)} (_N : News g L h nl) : ∃ l, l = nl := ⟨_, rfl⟩
theorem c_led (w : World) (mean : ExcName → Option Value) (mg mb : PySem.Str → Option Value) (news : CbLed) (tb lb : Addr) (us vs : List Value) (T : List (List Nat)) (ku kv n c p : Nat) (tc : Tok)
    (hm1 : (tb, W.listOf us.toArray ku) ∈ news) (hm2 : (lb, W.listOf vs.toArray kv) ∈ news) (hs1 : StrsAre us (T.map toS)) (hs2 : StrsAre vs ((lastOf T).map oneS)) (H : Tab T n) (hT : T.length = n) (hn : n < 32)
    (h256 : ∀ t ∈ T, ∀ c ∈ t, c < 256) (hp : 0 < p) (hpc : p * c = n) (hper : ∀ t ∈ T, rep rot1 p t = t ∧ ∀ j, 0 < j → j < p → rep rot1 j t ≠ t) :
    ClV w mean mg mb 840 12 120 news [.ref tb, .ref lb, .int (c : Int) tc] (fun _ => .bool true) := by
  dsimp only [ClV]; k_fill; intros; rename_i hret
  refine wpAny_call ?_
  k_dflt (refine' code_defC (binds := [(Str.ofString "table", Value.ref tb), (Str.ofString "last", Value.ref lb), (Str.ofString "turns", Value.int c tc)]) ?k1 ?k2 ?k3 ?k4 ?k5 ?kA ?kF ?kK ?k6 ?k7 ?k8 ?k9 ?kB ?kD ?_ ?c2 ?c3 ?c4; (case kA => exact rfl); (case kF => exact rfl); (case kK => assumption); (case k1 => k_asm); (case k2 => k_asm); (case k3 => k_asm); (case k4 => k_asm); (case k5 => k_asm); (case k6 => k_is); (case k7 => k_is); (case k8 => ktr_room); (case k9 => first | exact BindsTo.of_eq rfl | exact binds_K (by k_in) rfl (by k_is) rfl rfl rfl); (case kB => exact rfl); (case kD => decide +kernel); (case c2 => exact rfl); (case c3 => exact rfl); (case c4 => exact rfl); k_whole; intro g' L' h' tk' cells' FG' F' N' Y' B' X' T' l1; k_cells Y'; (try simp only [List.cons_append, List.nil_append] at N'); (try dsimp only); (try k_lift B'); (try k_fold))
  have hpn : p ≤ n := Nat.le_of_dvd H.pos ⟨c, hpc.symm⟩
  have hus : us.length = n := by have := hs1.length; rwa [List.length_map, hT] at this
  have hvs : vs.length = n := by have := hs2.length; rwa [List.length_map, lastOf, List.length_map, hT] at this
  have hla : (lastOf T).length = n := by rw [lastOf, List.length_map, hT]
  have hla9 : ∀ c ∈ lastOf T, c < 256 := by
    intro c hc
    obtain ⟨t, ht, rfl⟩ := List.mem_map.mp hc
    refine h256 t ht _ ?_
    have := H.ne ht
    rw [List.getLastD_eq_getLast?, List.getLast?_eq_some_getLast this]
    exact List.getLast_mem this
  have hpn2 : p < 32 := Nat.lt_of_le_of_lt hpn hn
  have bT : T.length < 32 := by rw [hT]; exact hn
  have bus : us.length < 32 := by rw [hus]; exact hn
  have bvs : vs.length < 32 := by rw [hvs]; exact hn
  have bla : (lastOf T).length < 32 := by rw [hla]; exact hn
  have zT := Stop.into hT
  have zus := Stop.into hus
  have zvs := Stop.into hvs
  have zla := Stop.into hla
  have zpc := Stop.into hpc
  clear hT hus hvs hla hpc
  k_steps
  refine Stop.into ?_
  k_dflt (refine LCg.Assign_ListComp_U (F₀ := by k_asm) (by rfl) (by with_unfolding_all rfl) (by with_unfolding_all rfl) (by decide) (by rfl) (by decide) (by rfl) (by rfl) (by rfl) ?_)
  k_steps
  refine Stop.into ?_
  rename News _ _ _ _ => N1
  refine len_led N1 (k := kv) (by repeat (first | exact hm2 | exact List.mem_cons_self .. | apply List.mem_cons_of_mem)) zvs.out (by omega) fun t1 k1 => ?_
  (try dsimp only); (try k_fold)
  k_steps
  refine Stop.into ?_
  k_dflt (refine LCg.CompSrc.range (n := n) rfl (by k_asm) (by k_asm) (by assumption) (small_n (by omega)) (by have := rangeSize_nat 0 n; simpa using this) (by rw [sizeLine_eq]; omega) fun g8 => ?_)
  (try dsimp only); (try k_fold)
  refine rest_ints (fun i => (nxt (lastOf T) i : Int)) ?turn ?fin
  case turn =>
    rintro i v I oI C oC D m₂ ys h8 tk8 E8 hi ⟨t8, rfl⟩ hC hx F8 N8 off ne
    simp only [Int.zero_add] at hx
    k_steps
    refine Stop.into ?_
    k_dflt (refine' c_next w mean mg mb _ lb vs (lastOf T) kv i t8 ?hma hs2 (by have := zla.out; omega) hla9 (by have := zla.out; omega) _ _ _ _ _ _ _ _ _ _ _ _ _ _ _ _ _ ?k1x1 ?k2x1 ?k3x1 ?k4x1 ?k5x1 ?kKx1 ?kdx1 ?kux1 ?kRx1; (case k1x1 => k_asm); (case k2x1 => k_asm); (case k3x1 => k_asm); (case k4x1 => k_asm); (case k5x1 => k_asm); (case kKx1 => first | exact rfl | assumption); (case kdx1 => ktr_room); (case kux1 => ktr_units); (case hma => repeat (first | exact hm2 | exact List.mem_cons_self .. | apply List.mem_cons_of_mem)))
    intro t9 h9 tk9 F9 N9
    (try dsimp only); (try k_fold)
    exact CompEnd.intro F9 N9 _ (fun _ h => h) off trivial ⟨rfl, _, rfl⟩
  case fin =>
    intro ys hys D h8 tk8 F8 N8 off
    have hyl : ys.length = n := by have := hys.length; rwa [List.length_map, List.length_range] at this
    have byl : ys.length < 32 := by rw [hyl]; exact hn
    have zyl := Stop.into hyl
    clear hyl
    k_steps
    refine Stop.into ?_
    k_dflt (refine LCg.ListComp_U (F₀ := by k_asm) (by with_unfolding_all rfl) (by decide) (by rfl) (by decide) (by rfl) ?_)
    k_steps
    refine Stop.into ?_
    refine CompSrc.ledger (k := ys.length) rfl (by k_asm) N8 (List.mem_cons_self ..) (by rw [sizeLine_eq]; simp only [List.size_toArray]; omega) fun g9 => ?_
    (try dsimp only); (try k_fold)
    refine rest_strs (fun i => toS (rot1 (T.getD i []))) ?turn2 ?fin2
    case turn2 =>
      rintro i v I oI C oC D2 m₂ ys2 h9 tk9 E9 hi hv hC hx F9 N9 off2 ne2
      have hi' : i < n := by simpa [zyl.out] using hi
      obtain ⟨t6, rfl⟩ : ∃ t, v = .int (nxt (lastOf T) i : Int) t := by
        obtain ⟨t, e⟩ := ints_at (i := i) hys (x := (nxt (lastOf T) i : Int)) (by simp [hi'])
        refine ⟨t, ?_⟩
        have hv' : ys[i]? = some v := by simpa using hv
        rw [e] at hv'
        exact (Option.some.inj hv').symm
      have hiT : i < T.length := zT.out.symm ▸ hi'
      obtain ⟨q1, q2⟩ := H.next (i := i) (by first | exact hi' | exact hiT)
      k_steps
      refine Stop.into ?_
      refine item_strs N9 (us := us) (k := ku) (i := nxt (lastOf T) i) (by repeat (first | exact hm1 | exact List.mem_cons_self .. | apply List.mem_cons_of_mem)) hs1 rfl (x := toS (rot1 (T.getD i []))) (by rw [← q1]; simp [q2]) (by omega) ?_
      intro t7
      (try dsimp only); (try k_fold)
      exact CompEnd.intro F9 N9 _ (fun _ h => h) off2 (.inr ⟨_, List.mem_cons_self .., rfl, _, rfl⟩) ⟨rfl, _, rfl⟩
    case fin2 =>
      intro ys2 hys2 D2 h9 tk9 F9 N9 off2
      k_steps
      refine Stop.into ?_
      k_dflt (refine LCg.ListComp_U (F₀ := by k_asm) (by with_unfolding_all rfl) (by decide) (by rfl) (by decide) (by rfl) ?_)
      k_steps
      refine Stop.into ?_
      rename Fr _ _ _ _ => F1
      rename News _ _ _ _ => N1
      refine CompSrc.ledger (its := us.toArray) (k := ku) rfl F1 N1 (by repeat (first | exact hm1 | exact List.mem_cons_self .. | apply List.mem_cons_of_mem)) (by rw [sizeLine_eq]; simp only [List.size_toArray]; omega) fun g9 => ?_
      (try dsimp only); (try k_fold)
      refine rest_strs (fun i => toS (rot1 (T.getD i []))) ?turn3 ?fin3
      case turn3 =>
        rintro i v I oI C oC D3 m₂ ys3 h9 tk9 E9 hi hv hC hx F9 N9 off3 ne3
        have hi' : i < T.length := by have : i < us.toArray.size := hi; rw [List.size_toArray, zus.out, ← zT.out] at this; exact this
        obtain ⟨t6, rfl⟩ : ∃ t, v = .str (toS (T.getD i [])) t := by
          obtain ⟨t, e⟩ := strs_at (i := i) hs1 (x := toS (T.getD i [])) (by simp [hi'])
          refine ⟨t, ?_⟩
          have hv' : us[i]? = some v := by simpa using hv
          rw [e] at hv'
          exact (Option.some.inj hv').symm
        have hln : (toS (T.getD i [])).length < 32 := by rw [toS_ln, H.len _ (getD_mem hi')]; exact hn
        have hln0 : 0 < (toS (T.getD i [])).length := by rw [toS_ln, H.len _ (getD_mem hi')]; exact H.pos
        have hn0 := H.pos
        k_steps
        refine Stop.into ?_
        refine item_str (fitsSsize_of (N := 9223372036854775808) (by omega) (by omega) (Int.le_refl _)) (by omega) (by omega) ?_
        intro t8
        (try dsimp only); (try k_fold)
        k_steps
        rename Fr _ _ _ _ => F1
        rename News _ _ _ _ => N1
        refine CompEnd.intro F1 N1 _ (fun _ h => h) off3 (.inr ⟨_, (by repeat (first | exact hm1 | exact List.mem_cons_self .. | apply List.mem_cons_of_mem)), rfl, _, rfl⟩) ⟨rfl, _, congrArg (fun z => Value.str z _) (rot1_str ?_)⟩
        rw [H.len _ (getD_mem hi')]; exact hn0
      case fin3 =>
        intro ys3 hys3 D3 h9 tk9 F9 N9 off3
        k_steps
        refine Stop.into ?_
        have hsh : Sh ((List.range n).map fun i => toS (rot1 (T.getD i []))) := by
          intro x hx c hc
          obtain ⟨i, hi, rfl⟩ := List.mem_map.mp hx
          have hi := List.mem_range.mp hi
          rw [toS_list] at hc
          have hiT : i < T.length := zT.out.symm ▸ hi
          refine h256 (T.getD i []) (getD_mem hiT) c ?_
          have hne := H.ne (getD_mem (T := T) (i := i) hiT)
          rw [← split_last hne]
          rcases List.mem_cons.mp hc with rfl | hc
          · exact List.mem_append_right _ (List.mem_cons_self ..)
          · exact List.mem_append_left _ hc
        have e2 : ys.toArray.size = n := by simp only [List.size_toArray]; exact zyl.out
        have e3 : us.toArray.size = n := by simp only [List.size_toArray]; exact zus.out
        rw [e2] at hys2
        rw [e3] at hys3
        clear e2 e3
        refine ne_strs N9 (xs := ys2) (ys := ys3) (ka := ys2.length) (kb := ys3.length) (by repeat (first | exact hm1 | exact List.mem_cons_self .. | apply List.mem_cons_of_mem)) (by repeat (first | exact hm1 | exact List.mem_cons_self .. | apply List.mem_cons_of_mem)) hys2 hys3 hsh hsh (by ktr_units) ?_
        rw [decide_eq_true rfl]
        k_steps
        refine Stop.into ?_
        k_dflt (refine kso_sorted (by k_asm) N9 (N9.isList (a := D) (n := ys.length) (by repeat (first | exact hm1 | exact List.mem_cons_self .. | apply List.mem_cons_of_mem))) hys (by rw [List.length_map, List.length_range]; omega) ?_)
        intro D4 vs4 ns4 c4 h10 F10 N10 l4 hi4 e4 p4 o4 b4
        clear b4
        obtain rfl := sorted_steps H zT.out p4 o4
        clear p4 o4 e4
        (try dsimp only); (try k_fold)
        k_steps
        refine Stop.into ?_
        refine len_led N10 (us := ys) (k := ys.length) (by repeat (first | exact hm1 | exact List.mem_cons_self .. | apply List.mem_cons_of_mem)) zyl.out (by omega) fun t11 k11 => ?_
        (try dsimp only); (try k_fold)
        k_steps
        refine Stop.into ?_
        rename News _ _ _ _ => N11
        rename IntsAre _ (rangeKs 0 _) => hi5
        have e5 : ((n : Int) - 0).toNat = n := by omega
        rw [e5] at hi5
        clear e5
        k_dflt (refine ke_ne_ints (N11.isList (a := D4) (n := c4) (by repeat (first | exact hm1 | exact List.mem_cons_self .. | apply List.mem_cons_of_mem))) (N11.isList (List.mem_cons_self ..)) hi4 hi5 (by ktr_units) ?_)
        rw [decide_eq_true rfl]
        k_steps
        refine Stop.into ?_
        rename Fr _ _ _ _ => F11
        have N12 : News g' L' _ ((D, lst ys) :: (L' + 1 + 1, _) :: (L' + 1, _) :: news) := fun p hp => N11 p (List.mem_cons_of_mem _ (List.mem_cons_of_mem _ (List.mem_cons_of_mem _ (List.mem_cons_of_mem _ hp))))
        clear N11 hys2 hys3 hi4 hi5
        refine For_rngA ?_
        k_steps
        refine Stop.into ?_
        refine len_led N12 (us := ys) (k := ys.length) (by repeat (first | exact hm1 | exact List.mem_cons_self .. | apply List.mem_cons_of_mem)) zyl.out (by omega) fun t11 k11 => ?_
        (try dsimp only); (try k_fold)
        k_steps
        rename Fr _ _ _ _ => F13
        rename News _ _ _ _ => N13
        obtain ⟨nl, hnl⟩ := news_ex N13
        rw [← hnl] at N13
        refine ⟨fun g1 => g1 = g', fun i m₁ n₁ => n₁ = nl ∧ ledF D c tc m₁, _, n, _, _, _, g', _, _, rfl, rfl, by assumption, by omega, rfl, F13, N13, ⟨rfl, _, pull2 (by with_unfolding_all rfl) (by with_unfolding_all rfl)⟩, ?turnf, ?donef⟩
        case turnf =>
          rintro i g1 m₁ n₁ h14 tk14 I io t14 QQ hi rfl hZ hI F14 N14 hQQ
          refine hide fun P0 hP0 => ?_
          obtain ⟨e1, u, rfl⟩ := hZ
          refine hP0 ?_
          clear hP0
          clear F13 N13
          rw [e1, hnl] at hI N14
          have hiT : i < T.length := zT.out.symm ▸ hi
          have hiy : i < ys.length := zyl.out.symm ▸ hi
          obtain ⟨t15, hv15⟩ := ints_at (i := i) hys (x := (nxt (lastOf T) i : Int)) (by simp [hi])
          k_steps
          refine Stop.into ?_
          rename News _ _ _ _ => N14
          refine item_vals N14 (us := ys) (k := ys.length) (i := i) (by repeat (first | exact hm1 | exact List.mem_cons_self .. | apply List.mem_cons_of_mem)) rfl hv15 (by omega) ?_
          k_steps
          refine Stop.into ?_
          rename Fr _ _ _ _ => F15
          rename News _ _ _ _ => N15
          refine While_inv (fun n' m₂ n₂ => n₂ = (I, io) :: nl ∧ ledW T D c p i tc t14 n' m₂) (n₀ := p - 1) F15 N15 ⟨by rw [hnl], 1, _, _, _, Nat.le_refl _, hp, rfl, pull5 (by with_unfolding_all rfl) (by with_unfolding_all rfl) (by with_unfolding_all rfl) (by with_unfolding_all rfl) (by with_unfolding_all rfl)⟩ ?_
          rintro n' m₂ n₂ h16 tk16 F16 N16 hZ
          refine hide fun P0 hP0 => ?_
          obtain ⟨e2, k, t1, t2, u2, hk1, hkp, rfl, rfl⟩ := hZ
          refine hP0 ?_
          clear hP0
          clear F15 N15 F14 N14
          rw [e2, hnl] at N16
          obtain ⟨hr1, hr2, hr3⟩ := H.rep (i := i) (by omega) k
          obtain ⟨t17, hv17⟩ := ints_at (i := rep (nxt (lastOf T)) k i) hys (x := (nxt (lastOf T) (rep (nxt (lastOf T)) k i) : Int)) (by simp [← zT.out, hr1])
          have hback := H.back (i := i) (by omega) k
          obtain ⟨hq1, hq2⟩ := hper (T.getD i []) (getD_mem (by have := zT.out; omega))
          k_steps
          · refine Stop.into ?_
            refine item_vals N16 (us := ys) (k := ys.length) (i := rep (nxt (lastOf T)) k i) (by repeat (first | exact hm1 | exact List.mem_cons_self .. | apply List.mem_cons_of_mem)) rfl hv17 (by omega) ?_
            have hkp' : k < p := by
              rcases Nat.lt_or_ge k p with q | q
              · exact q
              · have : k = p := by omega
                subst this
                have e := hback.mpr hq1
                omega
            k_steps
            rename Fr _ _ _ _ => F17
            rename News _ _ _ _ => N17
            exact WhileStep.intro F17 N17 (n' := p - (k + 1)) (by omega) ⟨by rw [hnl], k + 1, _, _, _, by omega, by omega, rfl, pull5 (by with_unfolding_all rfl) (by with_unfolding_all rfl) (by with_unfolding_all rfl) (by with_unfolding_all rfl) (by with_unfolding_all rfl)⟩
          · have hkp' : k = p := by
              rcases Nat.lt_or_ge k p with q | q
              · exact absurd (hback.mp (by omega)) (hq2 k (by omega) q)
              · omega
            have hpc' : (k : Int) * (c : Int) = (n : Int) := by rw [hkp', ← zpc.out, Int.natCast_mul]
            refine Stop.into ?_
            rw [hpc']
            refine len_led N16 (us := ys) (k := ys.length) (by repeat (first | exact hm1 | exact List.mem_cons_self .. | apply List.mem_cons_of_mem)) zyl.out (by omega) fun t18 k18 => ?_
            (try dsimp only); (try k_fold)
            k_steps
            · exact absurd rfl (by assumption)
            · rename Fr _ _ _ _ => F19
              rename News _ _ _ _ => N19
              exact hQQ.1 g1 _ _ _ _ nl rfl F19 N19 (fun q hq => by rw [hnl] at hq; exact List.mem_cons_of_mem _ hq) (List.mem_cons_self ..) (by rw [hnl]; exact hI) ⟨rfl, _, pull2 (by with_unfolding_all rfl) (by with_unfolding_all rfl)⟩
        case donef =>
          rintro g1 m₁ n₁ h14 tk14 rfl ⟨e1, u, rfl⟩ F14 N14
          clear F13 N13
          rw [e1, hnl] at N14
          k_steps
          exact hret 0 _ _ (by k_asm) (cb_drop (by assumption) fun p hp => List.mem_cons_of_mem _ (List.mem_cons_of_mem _ (List.mem_cons_of_mem _ hp)))
end Mine
end

section
open PySem PySem.W PySem.Spec PySem.Calls PyProof.Rows PyProof.V
set_option maxRecDepth 100000
set_option maxHeartbeats 0
namespace Mine
/-- a contract whose call may turn the caller's ground -/
abbrev ClT (w : World) (mean : ExcName → Option Value) (mg mb : PySem.Str → Option Value) (f : Addr) (dep un₀ : Nat) (news : CbLed) (vs : List Value) (R : Tok → Value) : Prop :=
  ∀ {pp : PySem.Program} {ll : List PySem.Str} (dp un : Nat) (gd : Option (List Code)) (cn : PySem.Str) (cs : Scope) (a : Addr) (ccd : Value) (cl : List (PySem.Str × Addr)) (outer : List Env) (A₀ : Around) (base h₀ : Heap) (L : Addr) (m : PySem.Str → Option Value) (s : Shared) (Q E : Value → Shared → Prop),
    Below A₀ base outer h₀ → Fr h₀ L s.heap m → (hk.heap_1 w.params).In h₀ → (hk.heap_1 w.params).In base → News h₀ L s.heap news → Top pp ll mean mg mb h₀ → Top pp ll mean mg mb base → KtsDicts (Fs outer) h₀ → cs.kind = .function →
    dp + dep < recursionLimit → un + un₀ < cLine →
    (∀ (t : Tok) (h₀' h' : Heap) (tk' : Nat), KtsTurn (Fs outer) h₀ h₀' → Fr h₀' L h' m → Below A₀ base outer h₀' → News h₀' L h' news → Q (R t) { s with heap := h', toks := tk' }) →
      wpAny (model PySem.Challenge.rw_il0189_01.row.prog w) (ktrTop dp un gd cn cs L a ccd cl outer) (call (.ref f) vs) Q E s
local macro_rules | `(tactic| walk_at "call ref") => `(tactic| (refine Stop.out ?_))
local macro_rules | `(tactic| walk_at "call type:list") => `(tactic| (refine Stop.out ?_))
local macro_rules | `(tactic| walk_at "compareOp Eq ref ref") => `(tactic| (refine Stop.out ?_))
local macro_rules | `(tactic| walk_at "LeaveT") => `(tactic| (refine Stop.out ?_))
theorem news_swap {h₀ h : Heap} {L : Addr} {p q : Addr × Obj} {l : List (Addr × Obj)} (N : News h₀ L h (p :: q :: l)) : News h₀ L h (q :: p :: l) := fun r hr => N r (by
  rcases List.mem_cons.mp hr with e | hr
  · rw [e]; exact List.mem_cons_of_mem _ (List.mem_cons_self ..)
  · rcases List.mem_cons.mp hr with e | hr
    · rw [e]; exact List.mem_cons_self ..
    · exact List.mem_cons_of_mem _ (List.mem_cons_of_mem _ hr))
theorem sh_nil : Sh [] := fun _ h => nomatch h
theorem c_lacks (w : World) (mean : ExcName → Option Value) (mg mb : PySem.Str → Option Value) (news : CbLed) (a1 a2 a3 a4 : Addr) (us1 us2 us3 us4 : List Value) (k1 k2 k3 k4 : Nat) (S T M U : List PySem.Str)
    (m1 : (a1, W.listOf us1.toArray k1) ∈ news) (m2 : (a2, W.listOf us2.toArray k2) ∈ news) (m3 : (a3, W.listOf us3.toArray k3) ∈ news) (m4 : (a4, W.listOf us4.toArray k4) ∈ news)
    (s1 : StrsAre us1 S) (s2 : StrsAre us2 T) (s3 : StrsAre us3 M) (s4 : StrsAre us4 U) (hS : S.length ≤ 32) (hT : T.length ≤ 32) (sM : Sh M) (sU : Sh U) (hu : uldR S.reverse T [] = (M, U)) :
    ClT w mean mg mb 847 20 120 news [.ref a1, .ref a2, .ref a3, .ref a4] (fun _ => .bool true) := by
  dsimp only [ClT]; k_fill; intros; rename_i hret
  refine wpAny_call ?_
  k_dflt (refine' code_defT (binds := [(Str.ofString "first", Value.ref a1), (Str.ofString "second", Value.ref a2), (Str.ofString "missing", Value.ref a3), (Str.ofString "unexpected", Value.ref a4)]) ?k1 ?k2 ?k3 ?k4 ?k5 ?kD ?kA ?kF ?kK ?k6 ?k7 ?k8 ?k9 ?kB ?_ ?c2 ?c3 ?c4 ?c5; (case kA => exact rfl); (case kF => exact rfl); (case kK => assumption); (case k1 => k_asm); (case k2 => k_asm); (case k3 => k_asm); (case k4 => k_asm); (case k5 => k_asm); (case kD => assumption); (case k6 => k_is); (case k7 => k_is); (case k8 => ktr_room); (case k9 => first | exact BindsTo.of_eq rfl | exact binds_K (by k_in) rfl (by k_is) rfl rfl rfl); (case c5 => decide); (case kB => exact locs rfl); (case c2 => exact rfl); (case c3 => exact rfl); (case c4 => exact rfl); k_whole; intro g' L' h' FG' F' N' B' X' T' D'; (try dsimp only); (try k_lift B'); (try k_fold))
  have z1 : us1.toArray.size ≤ sizeLine := by have := s1.length; rw [sizeLine_eq]; simp only [List.size_toArray]; omega
  have z2 : us2.toArray.size ≤ sizeLine := by have := s2.length; rw [sizeLine_eq]; simp only [List.size_toArray]; omega
  k_steps
  refine Stop.into ?_
  rename Fr _ _ _ _ => F1
  rename News _ _ _ _ => N1
  refine list_copyK F1 N1 (N1.isList (a := a1) (n := k1) m1) ?_ z1
  intro D1 c1 h1 F2 N2 l1
  (try dsimp only); (try k_fold)
  k_steps
  refine Stop.into ?_
  rename Fr _ _ _ _ => F3
  rename News _ _ _ _ => N3
  refine list_copyK F3 N3 (N3.isList (a := a2) (n := k2) (List.mem_cons_of_mem _ m2)) ?_ z2
  intro D2 c2 h2 F4 N4 l2
  have l12 : @LT.lt Nat _ D1 D2 := l2 _ (List.mem_cons_self ..)
  have e1 : ∀ p ∈ news, p.1 ≠ D1 := fun p hp => Nat.ne_of_lt (l1 p hp)
  have e2 : ∀ p ∈ news, p.1 ≠ D2 := fun p hp => Nat.ne_of_lt (l2 p (List.mem_cons_of_mem _ hp))
  (try dsimp only); (try k_fold)
  k_steps
  refine Stop.into ?_
  k_dflt (refine' c_uld w mean mg mb news D1 D2 us1 us2 c1 c2 S T s1 s2 hS hT l12 e1 e2 _ _ _ _ _ _ _ _ _ _ _ _ _ _ _ _ _ ?k1x2 ?k2x2 ?k3x2 ?kXBx2 ?k4x2 ?k5x2 ?kTBx2 ?kDDx2 ?kKx2 ?kdx2 ?kux2 ?kRx2; (case k1x2 => assumption); (case k2x2 => k_asm); (case k3x2 => assumption); (case kXBx2 => assumption); (case k4x2 => first | (with_reducible assumption) | (refine news_swap ?_; with_reducible assumption)); (case k5x2 => assumption); (case kTBx2 => assumption); (case kDDx2 => assumption); (case kKx2 => first | exact rfl | assumption); (case kdx2 => ktr_room); (case kux2 => ktr_units))
  rw [hu]
  intro tt ml km ke' kb' ms vs' g2 h5 tk5 hM hV hlt Tn F5 B5 N5
  have X5 : (hk.heap_1 w.params).In g2 := Frag.In.keeps (by assumption) B5.stays
  have T5 : Top _ _ mean mg mb g2 := Top.keeps (by assumption) B5.stays
  k_steps
  refine Stop.into ?_
  rename News _ _ _ _ => N6
  refine eq_pairs N6 (m1 := ml) (u1 := D2) (m2 := a3) (u2 := a4) (xs := ms) (ys := vs') (xs' := us3) (ys' := us4) (k1 := km) (k2 := kb') (k3 := k3) (k4 := k4) (by repeat (first | exact m3 | exact List.mem_cons_self .. | apply List.mem_cons_of_mem)) (by repeat (first | exact m3 | exact List.mem_cons_self .. | apply List.mem_cons_of_mem)) (by repeat (first | exact m3 | exact List.mem_cons_self .. | apply List.mem_cons_of_mem)) (by repeat (first | exact m3 | exact List.mem_cons_self .. | apply List.mem_cons_of_mem)) (by repeat (first | exact m3 | exact List.mem_cons_self .. | apply List.mem_cons_of_mem)) (by repeat (first | exact m4 | exact List.mem_cons_self .. | apply List.mem_cons_of_mem)) hM hV s3 s4 sM sU sM sU (by ktr_units) ?_
  rw [decide_eq_true ⟨rfl, rfl⟩]
  k_steps
  refine Stop.into ?_
  rename News _ _ _ _ => N7
  refine eq_strs N7 (xs := []) (ys := []) (ka := ke') (kb := 0) (by repeat (first | exact m3 | exact List.mem_cons_self .. | apply List.mem_cons_of_mem)) (List.mem_cons_self ..) .nil .nil sh_nil sh_nil (by ktr_units) ?_
  rw [decide_eq_true rfl]
  k_steps
  refine Stop.into ?_
  rename Fr _ _ _ _ => F8
  rename News _ _ _ _ => N8
  exact leaveT_ F8 N8 Tn fun h₀' t1 f1 n1 b1 => hret 0 _ _ _ t1 f1 b1 (cb_drop n1 fun p hp => List.mem_cons_of_mem _ (List.mem_cons_of_mem _ (List.mem_cons_of_mem _ (List.mem_cons_of_mem _ (List.mem_cons_of_mem _ (List.mem_cons_of_mem _ hp))))))
end Mine
end

section
open PySem PySem.W PySem.Spec PySem.Calls PyProof.Rows PyProof.V
set_option maxRecDepth 100000
set_option maxHeartbeats 0
namespace Mine
open LCg LCt
local macro_rules | `(tactic| walk_at "eval ListComp") => `(tactic| (refine Stop.out ?_))
local macro_rules | `(tactic| walk_at "CompSrc") => `(tactic| (refine Stop.out ?_))
local macro_rules | `(tactic| walk_at "subscriptTail Name Name ref int") => `(tactic| (refine Stop.out ?_))
local macro_rules | `(tactic| walk_at "call builtin:len") => `(tactic| (with_reducible refine stopL ?_))
local macro_rules | `(tactic| walk_at "call ref") => `(tactic| (refine Stop.out ?_))
local macro_rules | `(tactic| walk_at "compareOp NotEq ref ref") => `(tactic| (refine Stop.out ?_))
local macro_rules | `(tactic| walk_at "exec For") => `(tactic| (refine Stop.out ?_))
local macro_rules | `(tactic| walk_at "exec For Name Call cons nil") => `(tactic| (refine Stop.out ?_))
local macro_rules | `(tactic| walk_at "LeaveT") => `(tactic| (refine Stop.out ?_))
local macro_rules | `(tactic| walk_at "subscriptTail Name Slice ref ref") => `(tactic| (refine Stop.out ?_))
local macro_rules | `(tactic| walk_at "binaryOp Add ref ref") => `(tactic| (refine Stop.out ?_))
local macro_rules | `(tactic| k_all) => `(tactic| assumption)
theorem lt_ne2 {l : List (Addr × Obj)} {D : Addr} (h : ∀ p ∈ l, p.1 < D) : ∀ p ∈ l, p.1 ≠ D + 1 + 1 := fun p hp => Nat.ne_of_lt (Nat.lt_succ_of_lt (Nat.lt_succ_of_lt (h p hp)))
theorem lt_ne3 {l : List (Addr × Obj)} {D : Addr} (h : ∀ p ∈ l, p.1 < D) : ∀ p ∈ l, p.1 ≠ D + 1 + 1 + 1 := fun p hp => Nat.ne_of_lt (Nat.lt_succ_of_lt (Nat.lt_succ_of_lt (Nat.lt_succ_of_lt (h p hp))))
theorem lt_ne4 {l : List (Addr × Obj)} {D : Addr} (h : ∀ p ∈ l, p.1 < D) : ∀ p ∈ l, p.1 ≠ D + 1 + 1 + 1 + 1 := fun p hp => Nat.ne_of_lt (Nat.lt_succ_of_lt (Nat.lt_succ_of_lt (Nat.lt_succ_of_lt (Nat.lt_succ_of_lt (h p hp)))))
/-- between two rounds -/
def rndJ (T : List (List Nat)) (r : List Nat) (news : CbLed) (tb lb L : Addr) (tr : Tok) (i : Nat) (m : PySem.Str → Option Value) (n₁ : List (Addr × Obj)) : Prop :=
  ∃ (u : PySem.Str → Option Value) (oK oR oL oG : Obj) (vK : Option Value) (R : Addr) (ws : List Value) (kR : Nat), m = (fun y => if y = Str.ofString "table" then some (.ref tb) else u y) ∧
    n₁ = (R, W.listOf ws.toArray kR) :: (L + 1 + 1 + 1 + 1, oK) :: (L + 1 + 1 + 1, oR) :: (L + 1 + 1, oL) :: (L + 1, oG) :: news ∧ oK.data = .cell vK ∧ oR.data = .cell (some (.ref R)) ∧ oL.data = .cell (some (.ref lb)) ∧
    oG.data = .cell (some (.str (toS r) tr)) ∧ StrsAre ws (rowsS T i) ∧ (@Ne Nat (L + 1 + 1 + 1 + 1) R) ∧ (@Ne Nat (L + 1 + 1 + 1) R)
theorem pull1 {f : PySem.Str → Option Value} {a : PySem.Str} {va : Option Value} (ha : f a = va) : f = fun y => if y = a then va else f y := by
  funext y
  by_cases e : y = a
  · subst e; simp [ha]
  · simp [e]
theorem news_sub {h₀ h : Heap} {L : Addr} {l l' : List (Addr × Obj)} (N : News h₀ L h l') (s : l.Sublist l') : News h₀ L h l := fun p hp => N p (s.subset hp)
theorem rows_range {T : List (List Nat)} {n k : Nat} (hT : T.length = n) : ((List.range n).map fun j => toS ((T.getD j []).take k)) = rowsS T k := by
  subst hT
  unfold rowsS
  refine List.ext_getElem (by simp) fun i h1 h2 => ?_
  have : i < T.length := by simpa using h2
  simp [this, List.getD_eq_getElem?_getD]
theorem cut_from1 {us : List Value} {i : Nat} (h : i + 1 ≤ us.length) : kms_pick us (some ((i : Int) + 1)) none = us.drop (i + 1) := by
  rw [show (i : Int) + 1 = ((i + 1 : Nat) : Int) by omega]
  exact cut_from h
theorem TurnOk.fin {KK : Heap → Prop} {L : Addr} {J : (PySem.Str → Option Value) → List (Addr × Obj) → Prop} {I : Addr} {io : Obj} {s : Shared} {Q QQ : Flow → Shared → Prop} (h : TurnOk KK L J I io s Q QQ) {g' h' : Heap} {tk' : Nat} {m' : PySem.Str → Option Value} {l' n' : List (Addr × Obj)}
    (K : KK g') (F : Fr g' L h' m') (N : News g' L h' l') (sb : n'.Sublist l') (hm : (I, io) ∈ l') (ho : ∀ p ∈ n', p.1 ≠ I) (j : J m' n') : QQ .next { s with heap := h', toks := tk' } :=
  h.1 g' h' tk' m' l' n' K F N (fun p hp => sb.subset hp) hm ho j
theorem c_rounds (w : World) (mean : ExcName → Option Value) (mg mb : PySem.Str → Option Value) (news : CbLed) (tb lb : Addr) (us vs : List Value) (T : List (List Nat)) (r : List Nat) (ku kv n : Nat) (tr : Tok)
    (hm1 : (tb, W.listOf us.toArray ku) ∈ news) (hm2 : (lb, W.listOf vs.toArray kv) ∈ news) (hs1 : StrsAre us (T.map toS)) (hs2 : StrsAre vs ((lastOf T).map oneS)) (H : Tab T n) (hT : T.length = n) (hn : n < 16) (hr : r.length = n)
    (h256 : ∀ t ∈ T, ∀ c ∈ t, c < 256) (hP : T.Perm (turnsL r)) :
    ClT w mean mg mb 852 30 300 news [.str (toS r) tr, .ref tb, .ref lb] (fun _ => .bool true) := by
  dsimp only [ClT]; k_fill; intros; rename_i hret
  refine wpAny_call ?_
  k_dflt (refine' code_defTC (binds := [(Str.ofString "ring", Value.str (toS r) tr), (Str.ofString "table", Value.ref tb), (Str.ofString "last", Value.ref lb)]) ?k1 ?k2 ?k3 ?k4 ?k5 ?kD ?kA ?kF ?kK ?k6 ?k7 ?k8 ?k9 ?kB ?kD2 ?_ ?c2 ?c3 ?c4; (case kA => exact rfl); (case kF => exact rfl); (case kK => assumption); (case k1 => k_asm); (case k2 => k_asm); (case k3 => k_asm); (case k4 => k_asm); (case k5 => k_asm); (case kD => assumption); (case k6 => k_is); (case k7 => k_is); (case k8 => ktr_room); (case k9 => first | exact BindsTo.of_eq rfl | exact binds_K (by k_in) rfl (by k_is) rfl rfl rfl); (case kB => exact rfl); (case kD2 => decide +kernel); (case c2 => exact rfl); (case c3 => exact rfl); (case c4 => exact rfl); k_whole; intro g' L' h' tk' cells' FG' F' N' Y' B' X' T' D' l1; k_cells Y'; (try simp only [List.cons_append, List.nil_append] at N'); (try dsimp only); (try k_lift B'); (try k_fold))
  have n1 := lt_ne1 l1
  have n2 := lt_ne2 l1
  have n3 := lt_ne3 l1
  have n4 := lt_ne4 l1
  have hus : us.length = n := by have := hs1.length; rwa [List.length_map, hT] at this
  have hvs : vs.length = n := by have := hs2.length; rwa [List.length_map, lastOf, List.length_map, hT] at this
  have hrl : (toS r).length = n := by rw [toS_ln]; exact hr
  have bT : T.length < 16 := by rw [hT]; exact hn
  have br : r.length < 16 := by rw [hr]; exact hn
  have bus : us.length < 16 := by rw [hus]; exact hn
  have bvs : vs.length < 16 := by rw [hvs]; exact hn
  have brl : (toS r).length < 16 := by rw [hrl]; exact hn
  have zT := Stop.into hT
  have zr := Stop.into hr
  have zus := Stop.into hus
  have zrl := Stop.into hrl
  clear hT hr hus hvs hrl
  k_steps
  refine Stop.into ?_
  k_dflt (refine LCg.ListComp_U (F₀ := by k_asm) (by with_unfolding_all rfl) (by decide) (by rfl) (by decide) (by rfl) ?_)
  k_steps
  refine Stop.into ?_
  rename Fr _ _ _ _ => F1
  rename News _ _ _ _ => N1
  refine CompSrc.ledger (its := us.toArray) (k := ku) rfl F1 N1 (by repeat (first | exact hm1 | exact List.mem_cons_self .. | apply List.mem_cons_of_mem)) (by rw [sizeLine_eq]; simp only [List.size_toArray]; omega) fun g9 => ?_
  (try dsimp only); (try k_fold)
  refine rest_strs (fun _ => Str.ofString "") ?turn1 ?fin1
  case turn1 =>
    rintro i v I oI C oC D m₂ ys h9 tk9 E9 hi hv hC hx F9 N9 off ne
    k_steps
    rename Fr _ _ _ _ => F2
    rename News _ _ _ _ => N2
    exact CompEnd.intro F2 N2 _ (fun _ h => h) off (.inr ⟨_, (by repeat (first | exact hm1 | exact List.mem_cons_self .. | apply List.mem_cons_of_mem)), rfl, _, rfl⟩) ⟨rfl, _, rfl⟩
  case fin1 =>
    intro ws hws R h9 tk9 F9 N9 off
    have e3 : us.toArray.size = n := by simp only [List.size_toArray]; exact zus.out
    rw [e3, rowsS_zero zT.out] at hws
    clear e3
    have hR := off.1
    have hR3 := off.2.1
    k_steps
    refine Stop.into ?_
    refine For_rngA ?_
    k_steps
    rename Fr _ _ _ _ => F3
    rename News _ _ _ _ => N3
    refine ⟨KKt _ _ _ g', rndJ T r news tb lb L' tr, _, (toS r).length, _, _, _, g', _, _, rfl, rfl, by assumption, by omega, ⟨KtsTurn.refl, B'⟩, F3, N3, ⟨_, _, _, _, _, _, R, ws, ws.length, pull1 (by with_unfolding_all rfl), rfl, by assumption, by assumption, by assumption, by assumption, hws, hR, hR3⟩, ?turn, ?done⟩
    case turn =>
      rintro kk g₁ m₁ n₁ h11 tk11 I io t11 QQ hkn ⟨Tn1, B1⟩ hZ hI F11 N11 hQQ
      refine hide fun P0 hP0 => ?_
      obtain ⟨u, oK, oR, oL, oG, vK, R1, ws1, kR1, rfl, rfl, dK, dR, dL, dG, hws1, x4, x3⟩ := hZ
      refine hP0 ?_
      clear hP0
      have X1 : (hk.heap_1 w.params).In g₁ := Frag.In.keeps (by assumption) B1.stays
      have T1 : Top _ _ mean mg mb g₁ := Top.keeps (by assumption) B1.stays
      have D1 := KtsDicts.turn (by assumption) Tn1
      clear F3 N3
      have y4 : @Ne Nat I (L' + 1 + 1 + 1 + 1) := fun e => hI (L' + 1 + 1 + 1 + 1, oK) (by simp) e.symm
      have y3 : @Ne Nat I (L' + 1 + 1 + 1) := fun e => hI (L' + 1 + 1 + 1, oR) (by simp) e.symm
      have hws1l := Stop.into (show ws1.length = n by rw [hws1.length, rowsS_len, zT.out])
      have hkn' : kk < n := zrl.out ▸ hkn
      have hkT : kk < T.length := zT.out.symm ▸ hkn'
      have hkr : kk < r.length := zr.out.symm ▸ hkn'
      k_steps
      refine Stop.into ?_
      k_dflt (refine LCg.ListComp_U (F₀ := by k_asm) (by with_unfolding_all rfl) (by decide) (by rfl) (by decide) (by rfl) ?_)
      k_steps
      refine Stop.into ?_
      rename News _ _ _ _ => N12
      refine len_led N12 (us := ws1) (k := kR1) (by repeat (first | exact hm1 | exact List.mem_cons_self .. | apply List.mem_cons_of_mem)) hws1l.out (by omega) fun t12 k12 => ?_
      (try dsimp only); (try k_fold)
      k_steps
      refine Stop.into ?_
      k_dflt (refine LCg.CompSrc.range (n := n) rfl (by k_asm) (by k_asm) (by assumption) (small_n (by omega)) (by have := rangeSize_nat 0 n; simpa using this) (by rw [sizeLine_eq]; omega) fun g8 => ?_)
      (try dsimp only); (try k_fold)
      refine rest_strs (fun j => toS ((T.getD j []).getLastD 0 :: (T.getD j []).take kk)) ?turn2 ?fin2
      case turn2 =>
        rintro j v I2 oI C oC D m₂ ys h8 tk8 E8 hj ⟨t8, rfl⟩ hC hx F8 N8 off2 ne2
        simp only [Int.zero_add] at hx
        have hjT : j < T.length := by have := zT.out; omega
        have q1 : (oneS ((T.getD j []).getLastD 0)).length = 1 := rfl
        have q2 : (toS ((T.getD j []).take kk)).length < 64 := by rw [toS_ln, List.length_take, H.len _ (getD_mem hjT)]; omega
        k_steps
        refine Stop.into ?_
        refine item_strs N8 (us := vs) (k := kv) (i := j) (by repeat (first | exact hm2 | exact List.mem_cons_self .. | apply List.mem_cons_of_mem)) hs2 rfl (x := oneS ((T.getD j []).getLastD 0)) (by simp [lastOf, hjT]) (by omega) ?_
        intro t13
        (try dsimp only); (try k_fold)
        k_steps
        refine Stop.into ?_
        refine item_strs N8 (us := ws1) (k := kR1) (i := j) (by repeat (first | exact hm1 | exact List.mem_cons_self .. | apply List.mem_cons_of_mem)) hws1 rfl (x := toS ((T.getD j []).take kk)) (by simp [rowsS, hjT]) (by omega) ?_
        intro t14
        (try dsimp only); (try k_fold)
        k_steps
        rename Fr _ _ _ _ => F9
        rename News _ _ _ _ => N9
        exact CompEnd.intro F9 N9 _ (fun _ h => h) off2 trivial ⟨rfl, _, congrArg (fun z => Value.str z _) (toS_add [(T.getD j []).getLastD 0] ((T.getD j []).take kk))⟩
      case fin2 =>
        intro ys hys D h8 tk8 F8 N8 off2
        k_steps
        refine Stop.into ?_
        k_dflt (refine' c_sorted w mean mg mb _ D ys _ ys.length ?hmb hys ?hlb _ _ _ _ _ _ _ _ _ _ _ _ _ _ _ _ _ ?k1x1 ?k2x1 ?k3x1 ?k4x1 ?k5x1 ?kKx1 ?kdx1 ?kux1 ?kRx1; (case k1x1 => k_asm); (case k2x1 => k_asm); (case k3x1 => k_asm); (case k4x1 => k_asm); (case k5x1 => k_asm); (case kKx1 => first | exact rfl | assumption); (case kdx1 => ktr_room); (case kux1 => ktr_units); (case hmb => exact List.mem_cons_self ..); (case hlb => simpa using (show n < 64 by omega)))
        intro D2 k2 us2 ss2 h13 tk13 hss2 hPs hlt2 F13 N13
        obtain rfl := round_strs H zT.out hkn' hPs.1 hPs.2
        clear hPs hys
        have z4 : @LT.lt Nat _ (L' + 1 + 1 + 1 + 1) D2 := hlt2 (_, _) (List.mem_cons_of_mem _ (List.mem_cons_of_mem _ (List.mem_cons_of_mem _ (List.mem_cons_self ..))))
        have N14 := news_sub N13 (.cons_cons _ (.cons _ (.cons_cons _ (.cons _ (.refl _)))))
        have hI2 : @LT.lt Nat _ I D2 := hlt2 (I, io) (by simp)
        clear N13 N8 F8
        (try dsimp only); (try k_fold)
        k_steps
        refine Stop.into ?_
        k_dflt (refine LCg.ListComp_U (F₀ := by k_asm) (by with_unfolding_all rfl) (by decide) (by rfl) (by decide) (by rfl) ?_)
        k_steps
        refine Stop.into ?_
        rename Fr _ _ _ _ => F14
        rename News _ _ _ _ => N15
        refine CompSrc.ledger (its := us.toArray) (k := ku) rfl F14 N15 (by repeat (first | exact hm1 | exact List.mem_cons_self .. | apply List.mem_cons_of_mem)) (by rw [sizeLine_eq]; simp only [List.size_toArray]; omega) fun g9 => ?_
        (try dsimp only); (try k_fold)
        refine rest_strs (fun j => toS ((T.getD j []).take (kk + 1))) ?turn3 ?fin3
        case turn3 =>
          rintro j v I3 oI C oC D3 m₂ ys3 h9 tk9 E9 hj hv hC hx F9 N9 off3 ne3
          have hj' : j < T.length := by have : j < us.toArray.size := hj; rw [List.size_toArray, zus.out, ← zT.out] at this; exact this
          obtain ⟨t6, rfl⟩ : ∃ t, v = .str (toS (T.getD j [])) t := by
            obtain ⟨t, e⟩ := strs_at (i := j) hs1 (x := toS (T.getD j [])) (by simp [hj'])
            refine ⟨t, ?_⟩
            have hv' : us[j]? = some v := by simpa using hv
            rw [e] at hv'
            exact (Option.some.inj hv').symm
          have hlj : (toS (T.getD j [])).length < 16 := by rw [toS_ln, H.len _ (getD_mem hj')]; exact hn
          (try dsimp only)
          k_steps
          rename Fr _ _ _ _ => F9
          rename News _ _ _ _ => N9
          exact CompEnd.intro F9 N9 _ (fun _ h => h) off3 (.inr ⟨_, (by repeat (first | exact hm1 | exact List.mem_cons_self .. | apply List.mem_cons_of_mem)), rfl, _, rfl⟩) ⟨rfl, _, congrArg (fun z => Value.str z _) (by rw [show (kk : Int) + 1 = ((kk + 1 : Nat) : Int) by omega]; exact toS_upto (by rw [H.len _ (getD_mem hj')]; omega))⟩
        case fin3 =>
          intro ys3 hys3 D3 h9 tk9 F9 N9 off3
          have e3 : us.toArray.size = n := by simp only [List.size_toArray]; exact zus.out
          rw [e3] at hys3
          clear e3
          have hys3' : StrsAre ys3 (rowsS T (kk + 1)) := by rw [← rows_range zT.out]; exact hys3
          k_steps
          refine Stop.into ?_
          have hsh : Sh (rowsS T (kk + 1)) := rowsS_sh h256
          refine ne_strs N9 (xs := us2) (ys := ys3) (ka := k2) (kb := ys3.length) (by repeat (first | exact hm1 | exact List.mem_cons_self .. | apply List.mem_cons_of_mem)) (by repeat (first | exact hm1 | exact List.mem_cons_self .. | apply List.mem_cons_of_mem)) hss2 hys3' hsh hsh (by ktr_units) ?_
          rw [decide_eq_true rfl]
          k_steps
          refine Stop.into ?_
          k_dflt (refine LCg.CompSrc.range (n := (toS r).length) rfl (by k_asm) (by k_asm) (by assumption) (small_n (by omega)) (by have := rangeSize_nat 0 (toS r).length; simpa using this) (by rw [sizeLine_eq]; omega) fun g10 => ?_)
          (try dsimp only); (try k_fold)
          refine rest_strs (fun j => toS (((r ++ r).drop j).take (kk + 1))) ?turn4 ?fin4
          case turn4 =>
            rintro j v I4 oI C oC D4 m₂ ys4 h9 tk9 E9 hj ⟨t8, rfl⟩ hC hx F9 N9 off4 ne4
            simp only [Int.zero_add] at hx
            have hjr : j < r.length := by rw [zr.out, ← zrl.out]; exact hj
            (try dsimp only)
            k_steps
            rename Fr _ _ _ _ => F9
            rename News _ _ _ _ => N9
            exact CompEnd.intro F9 N9 _ (fun _ h => h) off4 trivial ⟨rfl, _, congrArg (fun z => Value.str z _) (by
              rw [toS_add, show (j : Int) + (kk : Int) + 1 = ((j + (kk + 1) : Nat) : Int) by omega, toS_cut (by omega) (by rw [List.length_append]; omega), show j + (kk + 1) - j = kk + 1 by omega])⟩
          case fin4 =>
            intro ys4 hys4 D4 h10 tk10 F10 N10 off4
            rw [toS_ln] at hys4
            have hpc := pieces_strs hP (k := kk + 1) (by omega)
            have hl2 : kk < us2.length := by rw [hss2.length, rowsS_len]; exact hkT
            have b2 : us2.length < 16 := by rw [hss2.length, rowsS_len]; exact bT
            have hRk : kk < (rowsS T (kk + 1)).length := by rw [rowsS_len]; exact hkT
            have N16 := news_sub N10 (.cons_cons _ (.cons _ (.refl _)))
            clear hys3 hys3' N10
            k_steps
            refine Stop.into ?_
            rename Fr _ _ _ _ => F17
            rename News _ _ _ _ => N17
            k_dflt (refine kms_slice_lit F17 N17 (N17.isList (a := D2) (n := k2) (by repeat (first | exact hm1 | exact List.mem_cons_self .. | apply List.mem_cons_of_mem))) IsPart.none (IsPart.int _ _) (cut_upto (us := us2) (i := kk) (by omega)) ?_ (by with_unfolding_all rfl) (by kmk_pure) (by rw [sizeLine_eq]; simp only [List.size_toArray]; omega))
            intro Da ha Fa Na la
            (try dsimp only); (try k_fold)
            k_steps
            refine Stop.into ?_
            rename Fr _ _ _ _ => F18
            rename News _ _ _ _ => N18
            k_dflt (refine kms_slice_lit F18 N18 (N18.isList (a := D2) (n := k2) (by repeat (first | exact hm1 | exact List.mem_cons_self .. | apply List.mem_cons_of_mem))) (IsPart.int _ _) IsPart.none (cut_from1 (us := us2) (i := kk) (by omega)) ?_ (by with_unfolding_all rfl) (by kmk_pure) (by rw [sizeLine_eq]; simp only [List.size_toArray]; omega))
            intro Db hb Fb Nb lb2
            (try dsimp only); (try k_fold)
            k_steps
            refine Stop.into ?_
            refine add_led Fb Nb (a := Da) (ka := 0) (xs := us2.take kk) (b := Db) (kb := 0) (ys := us2.drop (kk + 1)) (by repeat (first | exact hm1 | exact List.mem_cons_self .. | apply List.mem_cons_of_mem)) (by repeat (first | exact hm1 | exact List.mem_cons_self .. | apply List.mem_cons_of_mem)) (by rw [List.length_take, List.length_drop]; omega) ?_
            intro Dr hr2 Fr1 Nr1 lr
            have hrs : StrsAre (us2.take kk ++ us2.drop (kk + 1)) ((rowsS T (kk + 1)).take kk ++ (rowsS T (kk + 1)).drop (kk + 1)) := strs_app (strs_take _ hss2) (strs_drop _ hss2)
            have N20 := news_sub Nr1 (.cons_cons _ (.cons _ (.cons _ (.refl _))))
            clear Nr1 Nb
            (try dsimp only); (try k_fold)
            k_steps
            refine Stop.into ?_
            rename News _ _ _ _ => N21
            refine item_strs N21 (us := us2) (k := k2) (i := kk) (by repeat (first | exact hm1 | exact List.mem_cons_self .. | apply List.mem_cons_of_mem)) hss2 rfl (x := (rowsS T (kk + 1))[kk]) (List.getElem?_eq_getElem hRk) (by omega) ?_
            intro t21
            (try dsimp only); (try k_fold)
            k_steps
            refine Stop.into ?_
            have hsR : Sh (rowsS T (kk + 1)) := rowsS_sh h256
            have hlk := lacks_one hpc hRk
            have hlk2 := lacks_two hpc hRk
            have hpl : ((List.range r.length).map fun j => toS (((r ++ r).drop j).take (kk + 1))).length ≤ 32 := by rw [List.length_map, List.length_range]; omega
            have hrl2 : ((rowsS T (kk + 1)).take kk ++ (rowsS T (kk + 1)).drop (kk + 1)).length ≤ 32 := by rw [List.length_append, List.length_take, List.length_drop, rowsS_len]; omega
            k_dflt (refine' c_lacks w mean mg mb _ D4 Dr _ _ ys4 (us2.take kk ++ us2.drop (kk + 1)) [_] [] ys4.length 0 0 0 _ _ _ _ ?la1 ?la2 ?la3 ?la4 hys4 hrs (.cons _ _ .nil) .nil hpl hrl2 (sh_one hsR hRk) sh_nil hlk _ _ _ _ _ _ _ _ _ _ _ _ _ _ _ _ _ ?k1x2 ?k2x2 ?k3x2 ?kXBx2 ?k4x2 ?k5x2 ?kTBx2 ?kDDx2 ?kKx2 ?kdx2 ?kux2 ?kRx2; (case k1x2 => assumption); (case k2x2 => k_asm); (case k3x2 => assumption); (case kXBx2 => assumption); (case k4x2 => first | (with_reducible assumption) | (refine news_swap ?_; with_reducible assumption)); (case k5x2 => assumption); (case kTBx2 => assumption); (case kDDx2 => first | assumption | exact ktsDicts_nil); (case kKx2 => first | exact rfl | assumption); (case kdx2 => ktr_room); (case kux2 => ktr_units); (case la1 => repeat (first | exact hm1 | exact List.mem_cons_self .. | apply List.mem_cons_of_mem)); (case la2 => repeat (first | exact hm1 | exact List.mem_cons_self .. | apply List.mem_cons_of_mem)); (case la3 => repeat (first | exact hm1 | exact List.mem_cons_self .. | apply List.mem_cons_of_mem)); (case la4 => repeat (first | exact hm1 | exact List.mem_cons_self .. | apply List.mem_cons_of_mem)))
            intro t22 g2 h22 tk22 Tn2 F22 B22 N22
            have N23 := news_sub N22 (.cons _ (.cons _ (.refl _)))
            clear N22
            have X2 : (hk.heap_1 w.params).In g2 := Frag.In.keeps (by assumption) B22.stays
            have T2 : Top _ _ mean mg mb g2 := Top.keeps (by assumption) B22.stays
            have D2' := KtsDicts.turn D1 Tn2
            (try dsimp only); (try k_fold)
            k_steps
            refine Stop.into ?_
            rename News _ _ _ _ => N24
            refine item_strs N24 (us := us2) (k := k2) (i := kk) (by repeat (first | exact hm1 | exact List.mem_cons_self .. | apply List.mem_cons_of_mem)) hss2 rfl (x := (rowsS T (kk + 1))[kk]) (List.getElem?_eq_getElem hRk) (by omega) ?_
            intro t25
            (try dsimp only); (try k_fold)
            k_steps
            refine Stop.into ?_
            k_dflt (refine' c_lacks w mean mg mb _ Dr D4 _ _ (us2.take kk ++ us2.drop (kk + 1)) ys4 [] [_] 0 ys4.length 0 0 _ _ _ _ ?lb1 ?lb2 ?lb3 ?lb4 hrs hys4 .nil (.cons _ _ .nil) hrl2 hpl sh_nil (sh_one hsR hRk) hlk2 _ _ _ _ _ _ _ _ _ _ _ _ _ _ _ _ _ ?k1x3 ?k2x3 ?k3x3 ?kXBx3 ?k4x3 ?k5x3 ?kTBx3 ?kDDx3 ?kKx3 ?kdx3 ?kux3 ?kRx3; (case k1x3 => assumption); (case k2x3 => k_asm); (case k3x3 => assumption); (case kXBx3 => assumption); (case k4x3 => first | (with_reducible assumption) | (refine news_swap ?_; with_reducible assumption)); (case k5x3 => assumption); (case kTBx3 => assumption); (case kDDx3 => first | assumption | exact ktsDicts_nil); (case kKx3 => first | exact rfl | assumption); (case kdx3 => ktr_room); (case kux3 => ktr_units); (case lb1 => repeat (first | exact hm1 | exact List.mem_cons_self .. | apply List.mem_cons_of_mem)); (case lb2 => repeat (first | exact hm1 | exact List.mem_cons_self .. | apply List.mem_cons_of_mem)); (case lb3 => repeat (first | exact hm1 | exact List.mem_cons_self .. | apply List.mem_cons_of_mem)); (case lb4 => repeat (first | exact hm1 | exact List.mem_cons_self .. | apply List.mem_cons_of_mem)))
            intro t26 g3 h26 tk26 Tn3 F26 B26 N26
            have X3 : (hk.heap_1 w.params).In g3 := Frag.In.keeps (by assumption) B26.stays
            have T3 : Top _ _ mean mg mb g3 := Top.keeps (by assumption) B26.stays
            (try dsimp only); (try k_fold)
            k_steps
            have N27 := news_sub N26 (.cons _ (.cons _ (.cons _ (.cons _ (.refl _)))))
            refine TurnOk.fin hQQ ⟨Tn1.trans (Tn2.trans Tn3), B26⟩ F26 N27 (.cons_cons _ (.cons _ (.refl _))) (List.mem_cons_of_mem _ (List.mem_cons_self ..)) ?_ ⟨_, _, _, _, _, _, D2, us2, k2, pull1 (by with_unfolding_all rfl), rfl, by assumption, by assumption, dL, dG, hss2, Nat.ne_of_lt z4, Nat.ne_of_lt (Nat.lt_trans (Nat.lt_succ_self _) z4)⟩
            intro q hq
            rcases List.mem_cons.mp hq with rfl | hq
            · exact Nat.ne_of_gt hI2
            rcases List.mem_cons.mp hq with rfl | hq
            · exact Ne.symm y4
            rcases List.mem_cons.mp hq with rfl | hq
            · exact Ne.symm y3
            · exact hI q (List.mem_cons_of_mem _ (List.mem_cons_of_mem _ (List.mem_cons_of_mem _ hq)))
    case done =>
      rintro g₁ m₁ n₁ h11 tk11 ⟨Tn1, B1⟩ hZ F11 N11
      refine hide fun P0 hP0 => ?_
      obtain ⟨u, oK, oR, oL, oG, vK, R1, ws1, kR1, rfl, rfl, dK, dR, dL, dG, hws1, x4, x3⟩ := hZ
      refine hP0 ?_
      clear hP0
      have X1 : (hk.heap_1 w.params).In g₁ := Frag.In.keeps (by assumption) B1.stays
      have T1 : Top _ _ mean mg mb g₁ := Top.keeps (by assumption) B1.stays
      clear F3 N3
      k_steps
      refine Stop.into ?_
      rename Fr _ _ _ _ => F28
      rename News _ _ _ _ => N28
      exact leaveT_ F28 N28 Tn1 fun h₀' t1 f1 n1 b1 => hret 0 _ _ _ t1 f1 b1 (news_sub n1 (.cons _ (.cons _ (.cons _ (.cons _ (.cons _ (.refl _)))))))
end Mine
end

section
open PySem PySem.W PySem.Spec PySem.Calls PyProof.Rows PyProof.V
set_option maxRecDepth 100000
set_option maxHeartbeats 0
namespace Mine
open LCg LCt
local macro_rules | `(tactic| walk_at "exec Assign cons ListComp") => `(tactic| (refine Stop.out ?_))
local macro_rules | `(tactic| walk_at "CompSrc") => `(tactic| (refine Stop.out ?_))
local macro_rules | `(tactic| walk_at "call builtin:len") => `(tactic| (with_reducible refine stopL ?_))
local macro_rules | `(tactic| walk_at "call ref") => `(tactic| (refine Stop.out ?_))
local macro_rules | `(tactic| walk_at "call builtin:sorted") => `(tactic| (refine Stop.out ?_))
local macro_rules | `(tactic| walk_at "call builtin:list.count") => `(tactic| (refine Stop.out ?_))
local macro_rules | `(tactic| walk_at "compareOp NotEq ref ref") => `(tactic| (refine Stop.out ?_))
local macro_rules | `(tactic| walk_at "subscriptTail Name UnaryOp str int") => `(tactic| (refine Stop.out ?_))
local macro_rules | `(tactic| walk_at "LeaveT") => `(tactic| (refine Stop.out ?_))
local macro_rules | `(tactic| k_all) => `(tactic| assumption)
theorem rows_all {T : List (List Nat)} {n : Nat} (hT : T.length = n) : ((List.range n).map fun j => toS (T.getD j [])) = T.map toS := by
  subst hT
  refine List.ext_getElem (by simp) fun i h1 h2 => ?_
  have : i < T.length := by simpa using h2
  simp [this, List.getD_eq_getElem?_getD]
theorem last_range {T : List (List Nat)} {n : Nat} (hT : T.length = n) : ((List.range n).map fun j => oneS ((T.getD j []).getLastD 0)) = (lastOf T).map oneS := by
  subst hT
  unfold lastOf
  rw [List.map_map]
  refine List.ext_getElem (by simp) fun i h1 h2 => ?_
  have : i < T.length := by simpa using h2
  simp [this, List.getD_eq_getElem?_getD]
theorem c_ring (w : World) (mean : ExcName → Option Value) (mg mb : PySem.Str → Option Value) (news : CbLed) (wb : Addr) (us : List Value) (T : List (List Nat)) (r : List Nat) (ku n : Nat) (tr : Tok)
    (hm : (wb, W.listOf us.toArray ku) ∈ news) (hs : StrsAre us (T.map fun t => toS (wordL t))) (hr : r.length = n) (h0 : 0 < n) (hn : n < 16) (h9 : ∀ c ∈ r, c < 256) (hP : T.Perm (turnsL r)) (hS : Mine.srt T) :
    ClT w mean mg mb 862 40 700 news [.str (toS r) tr, .ref wb] (fun _ => .bool true) := by
  dsimp only [ClT]; k_fill; intros; rename_i hret
  refine wpAny_call ?_
  k_dflt (refine' code_defTC (binds := [(Str.ofString "ring", Value.str (toS r) tr), (Str.ofString "words", Value.ref wb)]) ?k1 ?k2 ?k3 ?k4 ?k5 ?kD ?kA ?kF ?kK ?k6 ?k7 ?k8 ?k9 ?kB ?kD2 ?_ ?c2 ?c3 ?c4; (case kA => exact rfl); (case kF => exact rfl); (case kK => assumption); (case k1 => k_asm); (case k2 => k_asm); (case k3 => k_asm); (case k4 => k_asm); (case k5 => k_asm); (case kD => assumption); (case k6 => k_is); (case k7 => k_is); (case k8 => ktr_room); (case k9 => first | exact BindsTo.of_eq rfl | exact binds_K (by k_in) rfl (by k_is) rfl rfl rfl); (case kB => exact rfl); (case kD2 => decide +kernel); (case c2 => exact rfl); (case c3 => exact rfl); (case c4 => exact rfl); k_whole; intro g' L' h' tk' cells' FG' F' N' Y' B' X' T' D' l1; k_cells Y'; (try simp only [List.cons_append, List.nil_append] at N'); (try dsimp only); (try k_lift B'); (try k_fold))
  have n1 := lt_ne1 l1
  have hne : r ≠ [] := fun e => by rw [e] at hr; simp at hr; omega
  have H : Tab T n := hr ▸ tab_of hne hP hS
  have hT : T.length = n := by rw [hP.length_eq, turnsL, List.length_map, List.length_range, hr]
  have h256 := turn_mem hP h9
  have hus : us.length = n := by have := hs.length; rwa [List.length_map, hT] at this
  have hrl : (toS r).length = n := by rw [toS_ln]; exact hr
  k_steps
  refine Stop.into ?_
  k_dflt (refine LCg.Assign_ListComp_U (F₀ := by k_asm) (by rfl) (by with_unfolding_all rfl) (by with_unfolding_all rfl) (by decide) (by rfl) (by decide) (by rfl) (by rfl) (by rfl) ?_)
  k_steps
  refine Stop.into ?_
  k_dflt (refine LCg.CompSrc.range (n := (toS r).length) rfl (by k_asm) (by k_asm) (by assumption) (small_n (by omega)) (by have := rangeSize_nat 0 (toS r).length; simpa using this) (by rw [sizeLine_eq]; omega) fun g8 => ?_)
  (try dsimp only); (try k_fold)
  refine rest_strs (fun i => toS (rl i r)) ?turn1 ?fin1
  case turn1 =>
    rintro i v I oI C oC D m₂ ys h8 tk8 E8 hi ⟨t8, rfl⟩ hC hx F8 N8 off ne
    (try dsimp only)
    k_steps
    rename Fr _ _ _ _ => F9
    rename News _ _ _ _ => N9
    exact CompEnd.intro F9 N9 _ (fun _ h => h) off trivial ⟨rfl, _, congrArg (fun z => Value.str z _) (str_ext ((turn_codes hi).trans (by rw [toS_list])))⟩
  case fin1 =>
    intro ys hys D h8 tk8 F8 N8 off
    have hys' : StrsAre ys ((turnsL r).map toS) := by
      rw [toS_ln] at hys
      unfold turnsL
      rw [List.map_map]
      exact hys
    clear hys
    k_steps
    refine Stop.into ?_
    k_dflt (refine LCg.Assign_ListComp_U (F₀ := by k_asm) (by rfl) (by with_unfolding_all rfl) (by with_unfolding_all rfl) (by decide) (by rfl) (by decide) (by rfl) (by rfl) (by rfl) ?_)
    k_steps
    refine Stop.into ?_
    rename Fr _ _ _ _ => F9
    rename News _ _ _ _ => N9
    refine CompSrc.ledger (its := us.toArray) (k := ku) rfl F9 N9 (by repeat (first | exact hm | exact List.mem_cons_self .. | apply List.mem_cons_of_mem)) (by rw [sizeLine_eq]; simp only [List.size_toArray]; omega) fun g9 => ?_
    (try dsimp only); (try k_fold)
    refine rest_strs (fun j => toS (T.getD j [])) ?turn2 ?fin2
    case turn2 =>
      rintro j v I oI C oC D2 m₂ ys2 h9 tk9 E9 hj hv hC hx F9 N9 off2 ne2
      have hj' : j < T.length := by have : j < us.toArray.size := hj; simp only [List.size_toArray] at this; omega
      obtain ⟨t6, rfl⟩ : ∃ t, v = .str (toS (wordL (T.getD j []))) t := by
        obtain ⟨t, e⟩ := strs_at (i := j) hs (x := toS (wordL (T.getD j []))) (by simp [hj'])
        refine ⟨t, ?_⟩
        have hv' : us[j]? = some v := by simpa using hv
        rw [e] at hv'
        exact (Option.some.inj hv').symm
      have hlj : (T.getD j []).length = n := H.len _ (getD_mem hj')
      have hwl : (toS (wordL (T.getD j []))).length = 3 * n := by rw [toS_ln, word_len, hlj]
      have hj9 := h256 _ (getD_mem (T := T) (i := j) hj')
      (try dsimp only)
      k_steps
      refine Stop.into ?_
      k_dflt (refine' c_dec w mean mg mb _ (toS (wordL (T.getD j []))) (T.getD j []) t6 (by omega) (by omega) (by rw [toS_list]; exact word_safe hj9) (toS_list _) hj9 _ _ _ _ _ _ _ _ _ _ _ _ _ _ _ _ _ ?k1x4 ?k2x4 ?k3x4 ?k4x4 ?k5x4 ?kKx4 ?kdx4 ?kux4 ?kRx4; (case k1x4 => k_asm); (case k2x4 => k_asm); (case k3x4 => k_asm); (case k4x4 => k_asm); (case k5x4 => k_asm); (case kKx4 => first | exact rfl | assumption); (case kdx4 => ktr_room); (case kux4 => ktr_units))
      intro t10 h10 tk10 F10 N10
      (try dsimp only); (try k_fold)
      exact CompEnd.intro F10 N10 _ (fun _ h => h) off2 (.inr ⟨_, (by repeat (first | exact hm | exact List.mem_cons_self .. | apply List.mem_cons_of_mem)), rfl, _, rfl⟩) ⟨rfl, _, rfl⟩
    case fin2 =>
      intro ys2 hys2 D2 h9 tk9 F9 N9 off2
      have e3 : us.toArray.size = n := by simp only [List.size_toArray]; exact hus
      have hys2' : StrsAre ys2 (T.map toS) := by rw [e3] at hys2; rw [← rows_all hT]; exact hys2
      clear hys2
      k_steps
      refine Stop.into ?_
      have hyl : ys.length < 64 := by rw [hys'.length, List.length_map, turnsL, List.length_map, List.length_range]; omega
      refine sorted_N_str F9 N9 (N9.isList (a := D) (n := ys.length) (by repeat (first | exact hm | exact List.mem_cons_self .. | apply List.mem_cons_of_mem))) hys' hyl fun h10 vs3 ss3 e4 F10 N10 hs3 hp3 ho3 => ?_
      obtain rfl := sorted_rows hP hS hp3 ho3
      clear hp3 ho3
      have hsh : Sh (T.map toS) := rows_sh h256
      (try dsimp only)
      k_steps
      refine Stop.into ?_
      rename News _ _ _ _ => N11
      refine ne_strs N11 (xs := ys2) (ys := vs3) (ka := ys2.length) (kb := e4) (by repeat (first | exact hm | exact List.mem_cons_self .. | apply List.mem_cons_of_mem)) (by repeat (first | exact hm | exact List.mem_cons_self .. | apply List.mem_cons_of_mem)) hys2' hs3 hsh hsh (by ktr_units) ?_
      rw [decide_eq_true rfl]
      have N12 := news_sub N11 (.cons _ (.refl _))
      clear N11 hs3
      k_steps
      refine Stop.into ?_
      k_dflt (refine LCg.Assign_ListComp_U (F₀ := by k_asm) (by rfl) (by with_unfolding_all rfl) (by with_unfolding_all rfl) (by decide) (by rfl) (by decide) (by rfl) (by rfl) (by rfl) ?_)
      k_steps
      refine Stop.into ?_
      rename Fr _ _ _ _ => F13
      rename News _ _ _ _ => N13
      have hy2l : ys2.length = n := by have := hys2'.length; rwa [List.length_map, hT] at this
      refine CompSrc.ledger (its := ys2.toArray) (k := ys2.length) rfl F13 N13 (by repeat (first | exact hm | exact List.mem_cons_self .. | apply List.mem_cons_of_mem)) (by rw [sizeLine_eq]; simp only [List.size_toArray]; omega) fun g14 => ?_
      (try dsimp only); (try k_fold)
      refine rest_strs (fun j => oneS ((T.getD j []).getLastD 0)) ?turn3 ?fin3
      case turn3 =>
        rintro j v I oI C oC D3 m₂ ys3 h9 tk9 E9 hj hv hC hx F9 N9 off3 ne3
        have hj' : j < T.length := by have : j < ys2.toArray.size := hj; simp only [List.size_toArray] at this; omega
        obtain ⟨t6, rfl⟩ : ∃ t, v = .str (toS (T.getD j [])) t := by
          obtain ⟨t, e⟩ := strs_at (i := j) hys2' (x := toS (T.getD j [])) (by simp [hj'])
          refine ⟨t, ?_⟩
          have hv' : ys2[j]? = some v := by simpa using hv
          rw [e] at hv'
          exact (Option.some.inj hv').symm
        have hlj : (toS (T.getD j [])).length = n := by rw [toS_ln]; exact H.len _ (getD_mem hj')
        (try dsimp only)
        k_steps
        refine Stop.into ?_
        refine item_str (fitsSsize_of (N := 9223372036854775808) (by omega) (by omega) (Int.le_refl _)) (by omega) (by omega) ?_
        intro t8
        (try dsimp only); (try k_fold)
        k_steps
        rename Fr _ _ _ _ => F14
        rename News _ _ _ _ => N14
        exact CompEnd.intro F14 N14 _ (fun _ h => h) off3 (.inr ⟨_, (by repeat (first | exact hm | exact List.mem_cons_self .. | apply List.mem_cons_of_mem)), rfl, _, rfl⟩) ⟨rfl, _, congrArg (fun z => Value.str z _) (by rw [item_last (by omega), toS_list])⟩
      case fin3 =>
        intro ys4 hys4 D4 h15 tk15 F15 N15 off4
        have hys4' : StrsAre ys4 ((lastOf T).map oneS) := by
          have e5 : ys2.toArray.size = n := by simp only [List.size_toArray]; exact hy2l
          rw [e5] at hys4
          rw [← last_range hT]
          exact hys4
        clear hys4
        obtain ⟨p, hp0, hpc, hper⟩ := periods hne hP
        have hy4l : ys4.length = n := by have := hys4'.length; rwa [List.length_map, lastOf, List.length_map, hT] at this
        k_steps
        refine Stop.into ?_
        refine count_list_strs (N15.isList (a := D) (n := ys.length) (by repeat (first | exact hm | exact List.mem_cons_self .. | apply List.mem_cons_of_mem))) hys' ?_
        rw [cnt_strs, count_rows]
        (try dsimp only)
        k_steps
        refine Stop.into ?_
        k_dflt (refine' c_led w mean mg mb _ D2 D4 ys2 ys4 T ys2.length ys4.length n ((turnsL r).count r) p _ ?hma ?hmb hys2' hys4' H hT (by omega) h256 hp0 (hpc.trans hr) hper _ _ _ _ _ _ _ _ _ _ _ _ _ _ _ _ _ ?k1x5 ?k2x5 ?k3x5 ?k4x5 ?k5x5 ?kKx5 ?kdx5 ?kux5 ?kRx5; (case k1x5 => k_asm); (case k2x5 => k_asm); (case k3x5 => k_asm); (case k4x5 => k_asm); (case k5x5 => k_asm); (case kKx5 => first | exact rfl | assumption); (case kdx5 => ktr_room); (case kux5 => ktr_units); (case hma => repeat (first | exact hm | exact List.mem_cons_self .. | apply List.mem_cons_of_mem)); (case hmb => repeat (first | exact hm | exact List.mem_cons_self .. | apply List.mem_cons_of_mem)))
        intro t16 h16 tk16 F16 N16
        (try dsimp only); (try k_fold)
        k_steps
        refine Stop.into ?_
        k_dflt (refine' c_rounds w mean mg mb _ D2 D4 ys2 ys4 T r ys2.length ys4.length n tr ?hmc ?hmd hys2' hys4' H hT hn hr h256 hP _ _ _ _ _ _ _ _ _ _ _ _ _ _ _ _ _ ?k1x6 ?k2x6 ?k3x6 ?kXBx6 ?k4x6 ?k5x6 ?kTBx6 ?kDDx6 ?kKx6 ?kdx6 ?kux6 ?kRx6; (case k1x6 => assumption); (case k2x6 => k_asm); (case k3x6 => assumption); (case kXBx6 => assumption); (case k4x6 => first | (with_reducible assumption) | (refine news_swap ?_; with_reducible assumption)); (case k5x6 => assumption); (case kTBx6 => assumption); (case kDDx6 => first | assumption | exact ktsDicts_nil); (case kKx6 => first | exact rfl | assumption); (case kdx6 => ktr_room); (case kux6 => ktr_units); (case hmc => repeat (first | exact hm | exact List.mem_cons_self .. | apply List.mem_cons_of_mem)); (case hmd => repeat (first | exact hm | exact List.mem_cons_self .. | apply List.mem_cons_of_mem)))
        intro t17 g2 h17 tk17 Tn F17 B17 N17
        have X2 : (hk.heap_1 w.params).In g2 := Frag.In.keeps (by assumption) B17.stays
        have T2 : Top _ _ mean mg mb g2 := Top.keeps (by assumption) B17.stays
        (try dsimp only); (try k_fold)
        k_steps
        refine Stop.into ?_
        rename Fr _ _ _ _ => F18
        rename News _ _ _ _ => N18
        exact leaveT_ F18 N18 Tn fun h₀' t1 f1 n1 b1 => hret 0 _ _ _ t1 f1 b1 (news_sub n1 (.cons _ (.cons _ (.cons _ (.cons _ (.refl _))))))
end Mine
end

section
open PySem PySem.W PySem.Spec PySem.Calls PyProof.Rows PyProof.V
set_option maxRecDepth 100000
set_option maxHeartbeats 0
namespace Mine
open LCg LCt
/-- what the law comes back with -/
def LawPost (s₁ : Shared) (r : Result) (s' : Shared) : Prop :=
  r = .ok (.ret (.bool true)) ∧ (∀ b o, (ghostOf s₁.heap [(807, 803)]).get? b = some o → s'.heap.get? b = some o) ∧ (∃ ps, s'.heap.get? 803 = some (tabObj ps)) ∧ s'.os = s₁.os ∧ AllBare s'.gens
theorem law_post {M : Model} {A : Around} {cd : Code} {s s₁ : Shared} {cw : ClaimW} {cl : PySem.Str → Option Addr} {mean : ExcName → Option Value} {args : List WData} (hT : TabsAt [(807, 803)] s₁.heap) (hr : ∀ a x, cw.raises a x = false) (hp : cw.post args (.bool true) args = true)
    (h : codeAny M A cd (LawPost s₁) s) : codeAny M A cd (GoodWG cw cl mean args s₁) s :=
  codeAny_mono h fun r s' ⟨hc, hk, ⟨ps, hP⟩, hos, hg⟩ => by
    have hT2 := (hT (807, 803) (.head _)).2
    have keep : ∀ b o, b ≠ 803 → s₁.heap.get? b = some o → s'.heap.get? b = some o := fun b o hb e => hk b o (ghost_ne e (by simpa using hb))
    refine ⟨.inl ⟨.bool true, .bool true, [], hc, fun _ => hr _ _, .bool _, hp, fun _ => ⟨List.nodup_nil, fun _ h => nomatch h⟩⟩, ⟨fun b o e => ?_, fun b o e => ?_⟩, hos, hg⟩
    · by_cases hb : b = 803
      · subst hb
        have e2 := hT2
        rw [e] at e2
        obtain rfl := Option.some.inj e2
        exact .inr (.inl ⟨((hT (807, 803) (.head _)).1.tab hT2).isCodeTable, rfl, #[], ps, rfl, by rw [Array.empty_append]; exact hP⟩)
      · exact .inl (keep b o hb e)
    · by_cases hb : b = 803
      · exact ⟨_, hb ▸ hP⟩
      · exact ⟨o, keep b o hb e⟩
local macro_rules | `(tactic| walk_at "eval ListComp") => `(tactic| (refine Stop.out ?_))
local macro_rules | `(tactic| walk_at "CompSrc") => `(tactic| (refine Stop.out ?_))
local macro_rules | `(tactic| walk_at "call ref") => `(tactic| (refine Stop.out ?_))
theorem drawn_sum (l : List Int) (n : Nat) : (((List.range n).map fun i => drawnS (l.getD i 0)).map (·.length)).sum = n := by
  rw [List.map_map]
  have : (fun x : PySem.Str => x.length) ∘ (fun i => drawnS (l.getD i 0)) = fun _ => 1 := by
    funext i
    show (drawnS (l.getD i 0)).length = 1
    rw [drawn_one, toS_ln]; rfl
  rw [this]
  clear this
  induction n with
  | zero => rfl
  | succ n ih => rw [List.range_succ, List.map_append, List.sum_append, ih]; rfl
theorem ring_str (ns : List Int) : toS ((ns.take 3).map drawC) ++ Str.ofString "a'aa" = toS (ringL ns) := by
  have e : Str.ofString "a'aa" = toS [97, 39, 97, 97] := by decide +kernel
  rw [e, toS_add]; rfl
theorem twin_str (ns : List Int) : Txt.mul (Txt.slice (toS (ringL ns)) none (some 2)) 2 = toS (twinL ns) := by
  have hl := (ring_len ns).1
  have e : Txt.slice (toS (ringL ns)) none (some 2) = toS ((ringL ns).take 2) := toS_upto (k := 2) (by omega)
  have h2 : (toS ((ringL ns).take 2)).length = 2 := by rw [toS_ln, List.length_take]; omega
  rw [e]
  unfold Txt.mul
  rw [if_neg (by decide), h2, if_neg (by decide)]
  refine str_ext (l := twinL ns) ?_
  simp [twinL, toS, List.replicate]
theorem fr_join {g h h' : Heap} {L : Addr} {m : PySem.Str → Option Value} {ps : Array Value} (hg : g.get? 803 = none) (F : Fr g L h m) (hL : L ≠ 803) (hk9 : ∀ b o, (regrown h 803 ps).get? b = some o → h'.get? b = some o) : Fr g L h' m :=
  ⟨F.ns.at' fun o e => hk9 _ _ (regrown_other _ _ _ _ _ hL e), fun b o e => hk9 _ _ (regrown_other _ _ _ _ _ (fun q => by rw [q, hg] at e; cases e) (F.keep b o e)), F.above⟩
theorem news_join {g h h' : Heap} {L : Addr} {ps : Array Value} (N : News g L h [(803, tabObj #[])]) (hk9 : ∀ b o, (regrown h 803 ps).get? b = some o → h'.get? b = some o) : News g L h' [(803, tabObj ps)] := fun p hp => by
  rw [List.mem_singleton.mp hp]
  have z := N _ (List.mem_singleton.mpr rfl)
  exact ⟨hk9 _ _ (Heap.get?_update_self _ z.1 rfl), z.2⟩
theorem turn_fr {g g' h : Heap} {L : Addr} {m : PySem.Str → Option Value} (T : KtsTurn (Fs []) g g') (F : Fr g' L h m) : Fr g L h m :=
  ⟨F.ns, fun b o e => F.keep b o (T.other b o e (fun q => nomatch q)), by rw [← T.size]; exact F.above⟩
theorem turn_news {g g' h : Heap} {L : Addr} {nl : List (Addr × Obj)} (T : KtsTurn (Fs []) g g') (N : News g' L h nl) : News g L h nl := fun p hp => ⟨(N p hp).1, (N p hp).2.1, by
  cases e : g.get? p.1 with
  | none => rfl
  | some o =>
    have := (N p hp).2.2
    rw [T.other _ o e (fun q => nomatch q)] at this
    cases this⟩
theorem words_ok {T : List (List Nat)} {n : Nat} (hn : n < 16) (h0 : 0 < n) (hl : ∀ t ∈ T, t.length = n) (h9 : ∀ t ∈ T, ∀ c ∈ t, c < 256) : ∀ x ∈ T.map fun t => toS (wordL t), 0 < x.length ∧ x.length < 64 ∧ ∀ c ∈ x.cps.toList, safeC c = true := by
  intro x hx
  obtain ⟨t, ht, rfl⟩ := List.mem_map.mp hx
  have e := hl t ht
  rw [toS_ln, word_len, toS_list]
  exact ⟨by omega, by omega, word_safe (h9 t ht)⟩
theorem join_words (T : List (List Nat)) : (Txt.join (Str.ofString " ") (T.map fun t => toS (wordL t))).cps.toList = jn (T.map wordL) := by
  have := join_sp (T.map wordL)
  rwa [List.map_map] at this
theorem join_wlen {T : List (List Nat)} {n : Nat} (hn : n ≤ 7) (hT : T.length = n) (hl : ∀ t ∈ T, t.length = n) : (Txt.join (Str.ofString " ") (T.map fun t => toS (wordL t))).length < 200 := by
  have e : (Txt.join (Str.ofString " ") (T.map fun t => toS (wordL t))).length = (jn (T.map wordL)).length := by
    rw [← join_words]; simp [Str.length]
  have h := jn_len (3 * n) (T.map wordL) (fun v hv => by
    obtain ⟨t, ht, rfl⟩ := List.mem_map.mp hv
    rw [word_len, hl t ht]; omega)
  rw [List.length_map, hT] at h
  rw [e]
  have : n * (3 * n + 1) ≤ 7 * 22 := Nat.mul_le_mul hn (by omega)
  omega
theorem lawx : PySem.Challenge.rw_il0189_01.Holds := hk (by
  w_strict (
      k_fill
      intro w s₀ s₁ mg mb G Y fa o pm cd doc dV kV ho hd hcd hD hmg hg args vals as hpre hlay hrd hwl hlo
      have KX := kIn_of Y.1
      have hT803 := Y.2
      have X := (Ground.X G).1
      have V := (Ground.X G).2
      refine Ground.open G ?_
      intro T B D TE TW
      try (refine guard_noD D (by decide +kernel) ?_; clear D)
      have hT9 : TabsAt ([(807, 803)] : List (Addr × Addr)) _ := List.forall_mem_cons.mpr ⟨⟨codeHd_of_K (c := 807) (P := 803) KX (by kernel_rfl), hT803⟩, fun _ h => nomatch h⟩
      clear hmg
      wrow_args hpre hlay hrd hwl hlo
      all_goals (
        first | refine callC_kw (enter_call ?_) | refine enter_call ?_
        w_top on
        refine law_post hT9 (fun _ _ => rfl) (postW_of (X := true) rfl (by first | rfl | exact w_eq_bool (w_res rfl) w_lit | kernel_rfl) rfl) ?_
        w_call any ho hd hcd hD T F
        clear hd
        kn_ghosts F T
        k_drop
        skip)
      (all_goals try k_fold)
      rename List Int => ns
      k_steps
      refine Stop.into ?_
      k_dflt (refine LCg.ListComp_U (F₀ := by k_asm) (by with_unfolding_all rfl) (by decide) (by rfl) (by decide) (by rfl) ?_)
      k_steps
      refine Stop.into ?_
      rename IntsAre _ (List.take 3 ns) => hi3
      rename Fr _ _ _ _ => F1
      rename News _ _ _ _ => N1
      have hl3 := hi3.length
      have hm3 : (ns.take 3).length ≤ 3 := by rw [List.length_take]; omega
      refine CompSrc.ledger rfl F1 N1 (List.mem_cons_self ..) (by rw [sizeLine_eq]; simp only [List.size_toArray]; omega) fun g9 => ?_
      (try dsimp only); (try k_fold)
      refine rest_strs (fun i => drawnS ((ns.take 3).getD i 0)) ?turn1 ?fin1
      (case turn1 =>
        rintro i v I oI C oC D2 m₂ ys h9 tk9 E9 hi hv hC hx F9 N9 off ne
        have hi' : i < (ns.take 3).length := by simp only [List.size_toArray] at hi; omega
        obtain ⟨t6, rfl⟩ : ∃ t, v = .int ((ns.take 3).getD i 0) t := by
          obtain ⟨t, e⟩ := ints_at (i := i) hi3 (x := (ns.take 3).getD i 0) (by rw [List.getD_eq_getElem?_getD, List.getElem?_eq_getElem hi']; rfl)
          refine ⟨t, ?_⟩
          rw [List.getElem?_toArray, e] at hv
          exact (Option.some.inj hv).symm
        (try dsimp only)
        k_steps
        refine Stop.into ?_
        k_dflt (refine' c_drawn _ _ _ _ _ _ _ _ _ _ _ _ _ _ _ _ _ _ _ _ _ _ _ _ ?k1x1 ?k2x1 ?k3x1 ?k4x1 ?k5x1 ?kKx1 ?kpx1 ?kdx1 ?kux1 ?kRx1; (case k1x1 => k_asm); (case k2x1 => k_asm); (case k3x1 => k_asm); (case k4x1 => k_asm); (case k5x1 => k_asm); (case kKx1 => first | exact rfl | assumption); (case kpx1 => trivial); (case kdx1 => ktr_room); (case kux1 => ktr_units))
        intro t10 h10 tk10 F10 N10
        (try dsimp only); (try k_fold)
        exact CompEnd.intro F10 N10 _ (fun _ h => h) off (.inr ⟨_, List.mem_cons_self .., rfl, _, rfl⟩) ⟨rfl, _, rfl⟩)
      (case fin1 =>
        intro ys hys D2 h9 tk9 F9 N9 off
        rw [List.size_toArray, hl3] at hys
        have hrn := ring_len ns
        have hr9 := ring_lt ns
        have hjn := drawn_join (ns.take 3)
        have hjl : (toS ((ns.take 3).map drawC)).length ≤ 3 := by rw [toS_ln, List.length_map]; exact hm3
        have hal : (Str.ofString "a'aa").length = 4 := by decide +kernel
        k_steps
        refine join_list (items := ys.toArray) (News.isList N9 (List.mem_cons_self ..)) hys ?_ ?_
        · rw [drawn_sum]
          have : (Str.ofString "").length = 0 := by decide +kernel
          simp only [List.length_map, List.length_range, this]
          omega
        · intro t' k'
          rw [hjn]
          k_steps
          refine Stop.into ?_
          rename Fr _ _ _ _ => F20
          rename News _ _ _ _ => N20
          have N21 := news_sub N20 (.cons _ (.cons _ (.refl _)))
          clear N20
          simp only [ring_str, twin_str] at F20 ⊢
          have hrl : (toS (ringL ns)).length < 64 := by rw [toS_ln]; omega
          have hr99 : ∀ c ∈ (toS (ringL ns)).cps.toList, c < 256 := by rw [toS_list]; exact hr9
          k_dflt (refine' c_words w _ mg mb _ (toS (ringL ns)) _ hr99 hrl _ _ _ _ _ _ _ _ _ _ _ _ _ _ _ _ _ ?k1x2 ?k2x2 ?k3x2 ?k4x2 ?k5x2 ?kKx2 ?kdx2 ?kux2 ?kRx2; (case k1x2 => k_asm); (case k2x2 => k_asm); (case k3x2 => k_asm); (case k4x2 => k_asm); (case k5x2 => k_asm); (case kKx2 => first | exact rfl | assumption); (case kdx2 => ktr_room); (case kux2 => ktr_units))
          intro D5 k5 us5 ss5 h22 tk22 hss5 hP5 hlt5 F22 N22
          (try dsimp only); (try k_fold)
          have hP6 : ss5.Perm ((List.range (ringL ns).length).map fun k => toS (wordL (rl k (ringL ns)))) := by
            have := hP5.1
            rw [toS_ln, toS_list] at this
            exact this
          obtain ⟨T6, hT6, hS6, rfl⟩ := words_rows hr9 hP6 hP5.2
          clear hP5 hP6 N21 F20
          have hln : T6.length = (ringL ns).length := by rw [hT6.length_eq, turnsL, List.length_map, List.length_range]
          have hlt6 : ∀ t ∈ T6, t.length = (ringL ns).length := fun t ht => by
            obtain ⟨k, _, rfl⟩ := List.mem_map.mp (hT6.mem_iff.mp ht)
            exact trn_len ..
          have h96 := turn_mem hT6 hr9
          k_steps
          refine Stop.into ?_
          rename Fr _ _ _ _ => F23
          rename News _ _ _ _ => N23
          rename Frag.In _ (ghostOf _ _) => X23
          rename Top topProg _ _ _ _ (ghostOf _ _) => T23
          have h803 : ∀ (g : Heap) (m : PySem.Str → Option Value) (L : Addr), Fr (ghostOf s₁.heap [(807, 803)]) L g m → L ≠ 803 := fun g m L F e => by
            have := F.above
            rw [hideAll_size] at this
            have h9 := Heap.lt_size hT803
            rw [e] at this
            exact Nat.not_lt.mpr this h9
          refine c_join w _ mg mb D5 k5 us5 _ hss5 (by rw [hss5.length, List.length_map]; omega) (words_ok (n := (ringL ns).length) (by omega) (by omega) hlt6 h96) _ _ _ _ rfl ?_ ?_ (Frag.In.keeps X23 F23.keep) (Top.keeps T23 F23.keep) (N23 _ (List.mem_cons_of_mem _ (List.mem_cons_self ..))).1 (N23 _ (List.mem_cons_self ..)).1 (AllBare.of_eq hg) ?_
          · ktr_room
          · ktr_units
          intro t24 ps24 s24 hG24 hos24 hk24
          have F25 := fr_join (hideAll_none _ (by simp)) F23 (h803 _ _ _ F23) hk24
          have N25 := news_join (news_sub N23 (.cons _ (.refl _))) hk24
          clear F23 N23
          k_steps
          refine Stop.into ?_
          have hne6 : T6.map wordL ≠ [] := fun e => by have := congrArg List.length e; rw [List.length_map, List.length_nil] at this; omega
          have hw6 : ∀ v ∈ T6.map wordL, v.head? = some 61 ∧ ∀ c ∈ v, safeC c = true := fun v hv => by
            obtain ⟨t, ht, rfl⟩ := List.mem_map.mp hv
            exact ⟨word_head (fun e => by have := hlt6 t ht; rw [e, List.length_nil] at this; omega), word_safe (h96 t ht)⟩
          k_dflt (refine' c_split w _ mg mb _ _ _ (join_wlen (n := (ringL ns).length) (by omega) hln hlt6) (T6.map wordL) (by rw [List.length_map]; omega) hne6 (join_words T6) hw6 _ _ _ _ _ _ _ _ _ _ _ _ _ _ _ _ _ ?s1 ?s2 ?s3 ?s4 ?s5 ktsDicts_nil ?s6 ?s7 ?s8 ?s9; (case s1 => k_asm); (case s2 => k_asm); (case s3 => k_asm); (case s4 => k_asm); (case s5 => k_asm); (case s6 => first | exact rfl | assumption); (case s7 => ktr_room); (case s8 => ktr_units))
          intro S7 k7 us7 g7 h27 tk27 hss7 hlt7 Tn7 F27 B27 N27
          obtain ⟨ul7, rfl⟩ : ∃ ul : List Value, us7 = ul.toArray := ⟨us7.toList, (Array.toArray_toList).symm⟩
          have hss8 : StrsAre ul7 (T6.map fun t => toS (wordL t)) := by
            rw [List.map_map] at hss7
            exact hss7
          have F28 := turn_fr Tn7 F27
          have N28 := turn_news Tn7 N27
          clear F27 N27 B27 Tn7 F25 N25
          (try dsimp only); (try k_fold)
          k_steps
          refine Stop.into ?_
          k_dflt (refine' c_ring w _ mg mb _ S7 ul7 T6 (ringL ns) k7 (ringL ns).length _ ?hmq hss8 rfl (by omega) (by omega) hr9 hT6 hS6 _ _ _ _ _ _ _ _ _ _ _ _ _ _ _ _ _ ?k1x3 ?k2x3 ?k3x3 ?kXBx3 ?k4x3 ?k5x3 ?kTBx3 ?kDDx3 ?kKx3 ?kdx3 ?kux3 ?kRx3; (case k1x3 => assumption); (case k2x3 => k_asm); (case k3x3 => assumption); (case kXBx3 => assumption); (case k4x3 => first | (with_reducible assumption) | (refine news_swap ?_; with_reducible assumption)); (case k5x3 => assumption); (case kTBx3 => assumption); (case kDDx3 => first | assumption | exact ktsDicts_nil); (case kKx3 => first | exact rfl | assumption); (case kdx3 => ktr_room); (case kux3 => ktr_units); (case hmq => repeat (first | exact hss8 | exact List.mem_cons_self .. | apply List.mem_cons_of_mem)))
          intro t29 g29 h29 tk29 Tn29 F29 B29 N29
          have F30 := turn_fr Tn29 F29
          have N30 := news_sub (turn_news Tn29 N29) (.cons _ (.refl _))
          clear F29 N29 B29 Tn29 F28 N28
          (try dsimp only); (try k_fold)
          have htl : (twinL ns).length = 4 := twin_len ns
          have ht9 := twin_lt ns
          have htw : (toS (twinL ns)).length < 64 := by rw [toS_ln]; omega
          have htw9 : ∀ c ∈ (toS (twinL ns)).cps.toList, c < 256 := by rw [toS_list]; exact ht9
          k_steps
          refine Stop.into ?_
          k_dflt (refine' c_words w _ mg mb _ (toS (twinL ns)) _ htw9 htw _ _ _ _ _ _ _ _ _ _ _ _ _ _ _ _ _ ?k1x4 ?k2x4 ?k3x4 ?k4x4 ?k5x4 ?kKx4 ?kdx4 ?kux4 ?kRx4; (case k1x4 => k_asm); (case k2x4 => k_asm); (case k3x4 => k_asm); (case k4x4 => k_asm); (case k5x4 => k_asm); (case kKx4 => first | exact rfl | assumption); (case kdx4 => ktr_room); (case kux4 => ktr_units))
          intro D31 k31 us31 ss31 h31 tk31 hss31 hP31 hlt31 F31 N31
          have hP32 : ss31.Perm ((List.range (twinL ns).length).map fun k => toS (wordL (rl k (twinL ns)))) := by
            have := hP31.1
            rw [toS_ln, toS_list] at this
            exact this
          obtain ⟨T32, hT32, hS32, rfl⟩ := words_rows ht9 hP32 hP31.2
          clear hP31 hP32
          (try dsimp only); (try k_fold)
          k_steps
          refine Stop.into ?_
          k_dflt (refine' c_ring w _ mg mb _ D31 us31 T32 (twinL ns) k31 4 _ ?hmr hss31 htl (by omega) (by omega) ht9 hT32 hS32 _ _ _ _ _ _ _ _ _ _ _ _ _ _ _ _ _ ?k1x5 ?k2x5 ?k3x5 ?kXBx5 ?k4x5 ?k5x5 ?kTBx5 ?kDDx5 ?kKx5 ?kdx5 ?kux5 ?kRx5; (case k1x5 => assumption); (case k2x5 => k_asm); (case k3x5 => assumption); (case kXBx5 => assumption); (case k4x5 => first | (with_reducible assumption) | (refine news_swap ?_; with_reducible assumption)); (case k5x5 => assumption); (case kTBx5 => assumption); (case kDDx5 => first | assumption | exact ktsDicts_nil); (case kKx5 => first | exact rfl | assumption); (case kdx5 => ktr_room); (case kux5 => ktr_units); (case hmr => repeat (first | exact hss31 | exact List.mem_cons_self .. | apply List.mem_cons_of_mem)))
          intro t33 g33 h33 tk33 Tn33 F33 B33 N33
          have F34 := turn_fr Tn33 F33
          have N34 := turn_news Tn33 N33
          clear F33 N33 B33 Tn33
          (try dsimp only); (try k_fold)
          k_steps
          exact ⟨rfl, F34.keep, ⟨ps24, (N34 _ (List.mem_cons_of_mem _ (List.mem_cons_self ..))).1⟩, hos24, hG24⟩)))
end Mine
end

theorem PySem.Challenge.cw_il0189_01_holds : PySem.Challenge.rw_il0189_01.Holds := by
  exact Mine.lawx
