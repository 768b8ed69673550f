import PyProof.Rows.All
import Wide.All
import OpenK.AllK
import Wide.FinOn
import KE.KAnyBase
import KE.KUnpack
import KE.LcTurns
import Lean
import PySem.Challenge.RW_bv6019_01

-- HeadDefs
section
open PySem PySem.W PyProof.Rows
set_option Elab.async false
set_option maxRecDepth 100000
set_option maxHeartbeats 0
set_option linter.all false
set_option linter.unusedVariables false
namespace Mine
noncomputable def s0 : Str := ⟨⟨[95, 119, 97, 108, 108]⟩⟩
noncomputable def s1 : Str := ⟨⟨[107]⟩⟩
noncomputable def s2 : Str := ⟨⟨[95, 95, 110, 97, 109, 101, 95, 95]⟩⟩
noncomputable def s3 : Str := ⟨⟨[115, 110, 111, 119, 98, 97, 108, 108, 115, 116, 101, 109, 109, 101, 114, 46, 98, 97, 115, 101, 115, 116, 101, 109, 109, 101, 114]⟩⟩
noncomputable def s4 : Str := ⟨⟨[66, 97, 115, 101, 83, 116, 101, 109, 109, 101, 114]⟩⟩
noncomputable def s5 : Str := ⟨⟨[95, 95, 105, 110, 105, 116, 95, 95]⟩⟩
noncomputable def s6 : Str := ⟨⟨[115, 101, 108, 102]⟩⟩
noncomputable def s7 : Str := ⟨⟨[115, 101, 116, 95, 99, 117, 114, 114, 101, 110, 116]⟩⟩
noncomputable def s9 : Str := ⟨⟨[118, 97, 108, 117, 101]⟩⟩
noncomputable def s10 : Str := ⟨⟨[99, 117, 114, 114, 101, 110, 116]⟩⟩
noncomputable def s11 : Str := ⟨⟨[99, 117, 114, 115, 111, 114]⟩⟩
noncomputable def s12 : Str := ⟨⟨[108, 105, 109, 105, 116]⟩⟩
noncomputable def s13 : Str := ⟨⟨[108, 101, 110]⟩⟩
noncomputable def s14 : Str := ⟨⟨[108, 105, 109, 105, 116, 95, 98, 97, 99, 107, 119, 97, 114, 100]⟩⟩
noncomputable def s15 : Str := ⟨⟨[98, 114, 97]⟩⟩
noncomputable def s16 : Str := ⟨⟨[107, 101, 116]⟩⟩
noncomputable def s17 : Str := ⟨⟨[103, 101, 116, 95, 99, 117, 114, 114, 101, 110, 116]⟩⟩
noncomputable def s18 : Str := ⟨⟨[99, 111, 112, 121, 95, 102, 114, 111, 109]⟩⟩
noncomputable def s19 : Str := ⟨⟨[111, 116, 104, 101, 114]⟩⟩
noncomputable def s20 : Str := ⟨⟨[105, 110, 95, 103, 114, 111, 117, 112, 105, 110, 103]⟩⟩
noncomputable def s21 : Str := ⟨⟨[115]⟩⟩
noncomputable def s22 : Str := ⟨⟨[103, 111, 95, 105, 110, 95, 103, 114, 111, 117, 112, 105, 110, 103]⟩⟩
noncomputable def s23 : Str := ⟨⟨[105, 110, 95, 103, 114, 111, 117, 112, 105, 110, 103, 95, 98]⟩⟩
noncomputable def s24 : Str := ⟨⟨[103, 111, 95, 105, 110, 95, 103, 114, 111, 117, 112, 105, 110, 103, 95, 98]⟩⟩
noncomputable def s25 : Str := ⟨⟨[111, 117, 116, 95, 103, 114, 111, 117, 112, 105, 110, 103]⟩⟩
noncomputable def s26 : Str := ⟨⟨[103, 111, 95, 111, 117, 116, 95, 103, 114, 111, 117, 112, 105, 110, 103]⟩⟩
noncomputable def s27 : Str := ⟨⟨[111, 117, 116, 95, 103, 114, 111, 117, 112, 105, 110, 103, 95, 98]⟩⟩
noncomputable def s28 : Str := ⟨⟨[103, 111, 95, 111, 117, 116, 95, 103, 114, 111, 117, 112, 105, 110, 103, 95, 98]⟩⟩
noncomputable def s29 : Str := ⟨⟨[101, 113, 95, 115]⟩⟩
noncomputable def s31 : Str := ⟨⟨[101, 113, 95, 115, 95, 98]⟩⟩
noncomputable def s32 : Str := ⟨⟨[102, 105, 110, 100, 95, 97, 109, 111, 110, 103]⟩⟩
noncomputable def s33 : Str := ⟨⟨[118]⟩⟩
noncomputable def s34 : Str := ⟨⟨[105]⟩⟩
noncomputable def s35 : Str := ⟨⟨[106]⟩⟩
noncomputable def s36 : Str := ⟨⟨[99]⟩⟩
noncomputable def s37 : Str := ⟨⟨[108]⟩⟩
noncomputable def s38 : Str := ⟨⟨[99, 111, 109, 109, 111, 110, 95, 105]⟩⟩
noncomputable def s39 : Str := ⟨⟨[99, 111, 109, 109, 111, 110, 95, 106]⟩⟩
noncomputable def s40 : Str := ⟨⟨[102, 105, 114, 115, 116, 95, 107, 101, 121, 95, 105, 110, 115, 112, 101, 99, 116, 101, 100]⟩⟩
noncomputable def s41 : Str := ⟨⟨[100, 105, 102, 102]⟩⟩
noncomputable def s42 : Str := ⟨⟨[99, 111, 109, 109, 111, 110]⟩⟩
noncomputable def s43 : Str := ⟨⟨[109, 105, 110]⟩⟩
noncomputable def s44 : Str := ⟨⟨[119]⟩⟩
noncomputable def s45 : Str := ⟨⟨[105, 50]⟩⟩
noncomputable def s46 : Str := ⟨⟨[114, 97, 110, 103, 101]⟩⟩
noncomputable def s47 : Str := ⟨⟨[111, 114, 100]⟩⟩
noncomputable def s48 : Str := ⟨⟨[114, 101, 115, 117, 108, 116]⟩⟩
noncomputable def s49 : Str := ⟨⟨[115, 117, 98, 115, 116, 114, 105, 110, 103, 95, 105]⟩⟩
noncomputable def s50 : Str := ⟨⟨[102, 105, 110, 100, 95, 97, 109, 111, 110, 103, 95, 98]⟩⟩
noncomputable def s51 : Str := ⟨⟨[108, 98]⟩⟩
noncomputable def s52 : Str := ⟨⟨[114, 101, 112, 108, 97, 99, 101, 95, 115]⟩⟩
noncomputable def s53 : Str := ⟨⟨[99, 95, 98, 114, 97]⟩⟩
noncomputable def s54 : Str := ⟨⟨[99, 95, 107, 101, 116]⟩⟩
noncomputable def s55 : Str := ⟨⟨[97, 100, 106, 117, 115, 116, 109, 101, 110, 116]⟩⟩
noncomputable def s56 : Str := ⟨⟨[115, 108, 105, 99, 101, 95, 102, 114, 111, 109]⟩⟩
noncomputable def s57 : Str := ⟨⟨[115, 108, 105, 99, 101, 95, 100, 101, 108]⟩⟩
noncomputable def s58 : Str := ⟨⟨[105, 110, 115, 101, 114, 116]⟩⟩
noncomputable def s59 : Str := ⟨⟨[115, 108, 105, 99, 101, 95, 116, 111]⟩⟩
noncomputable def s60 : Str := ⟨⟨[97, 115, 115, 105, 103, 110, 95, 116, 111]⟩⟩
noncomputable def s61 : Str := ⟨⟨[115, 116, 101, 109, 87, 111, 114, 100]⟩⟩
noncomputable def s62 : Str := ⟨⟨[119, 111, 114, 100]⟩⟩
noncomputable def s63 : Str := ⟨⟨[115, 116, 101, 109, 87, 111, 114, 100, 115]⟩⟩
noncomputable def s64 : Str := ⟨⟨[119, 111, 114, 100, 115]⟩⟩
noncomputable def s65 : Str := ⟨⟨[115, 110, 111, 119, 98, 97, 108, 108, 115, 116, 101, 109, 109, 101, 114, 46, 97, 109, 111, 110, 103]⟩⟩
noncomputable def s66 : Str := ⟨⟨[65, 109, 111, 110, 103]⟩⟩
noncomputable def s67 : Str := ⟨⟨[115, 110, 111, 119, 98, 97, 108, 108, 115, 116, 101, 109, 109, 101, 114, 46, 105, 110, 100, 111, 110, 101, 115, 105, 97, 110, 95, 115, 116, 101, 109, 109, 101, 114]⟩⟩
noncomputable def s68 : Str := ⟨⟨[73, 110, 100, 111, 110, 101, 115, 105, 97, 110, 83, 116, 101, 109, 109, 101, 114]⟩⟩
noncomputable def s69 : Str := ⟨⟨[103, 95, 118, 111, 119, 101, 108]⟩⟩
noncomputable def s74 : Str := ⟨⟨[73, 95, 112, 114, 101, 102, 105, 120]⟩⟩
noncomputable def s75 : Str := ⟨⟨[73, 95, 109, 101, 97, 115, 117, 114, 101]⟩⟩
noncomputable def s76 : Str := ⟨⟨[114, 95, 114, 101, 109, 111, 118, 101, 95, 112, 97, 114, 116, 105, 99, 108, 101]⟩⟩
noncomputable def s77 : Str := ⟨⟨[97, 95, 48]⟩⟩
noncomputable def s78 : Str := ⟨⟨[114, 95, 114, 101, 109, 111, 118, 101, 95, 112, 111, 115, 115, 101, 115, 115, 105, 118, 101, 95, 112, 114, 111, 110, 111, 117, 110]⟩⟩
noncomputable def s79 : Str := ⟨⟨[97, 95, 49]⟩⟩
noncomputable def s80 : Str := ⟨⟨[114, 95, 114, 101, 109, 111, 118, 101, 95, 115, 117, 102, 102, 105, 120]⟩⟩
noncomputable def s81 : Str := ⟨⟨[97, 109, 111, 110, 103, 95, 118, 97, 114]⟩⟩
noncomputable def s82 : Str := ⟨⟨[97, 95, 50]⟩⟩
noncomputable def s83 : Str := ⟨⟨[118, 95, 49]⟩⟩
noncomputable def s84 : Str := ⟨⟨[108, 97, 98, 48]⟩⟩
noncomputable def s85 : Str := ⟨⟨[114, 95, 114, 101, 109, 111, 118, 101, 95, 102, 105, 114, 115, 116, 95, 111, 114, 100, 101, 114, 95, 112, 114, 101, 102, 105, 120]⟩⟩
noncomputable def s86 : Str := ⟨⟨[97, 95, 51]⟩⟩
noncomputable def s88 : Str := ⟨⟨[118, 95, 50]⟩⟩
noncomputable def s89 : Str := ⟨⟨[118, 95, 51]⟩⟩
noncomputable def s90 : Str := ⟨⟨[118, 95, 52]⟩⟩
noncomputable def s91 : Str := ⟨⟨[118, 95, 53]⟩⟩
noncomputable def s92 : Str := ⟨⟨[118, 95, 54]⟩⟩
noncomputable def s94 : Str := ⟨⟨[118, 95, 55]⟩⟩
noncomputable def s95 : Str := ⟨⟨[118, 95, 56]⟩⟩
noncomputable def s96 : Str := ⟨⟨[114, 95, 114, 101, 109, 111, 118, 101, 95, 115, 101, 99, 111, 110, 100, 95, 111, 114, 100, 101, 114, 95, 112, 114, 101, 102, 105, 120]⟩⟩
noncomputable def s97 : Str := ⟨⟨[97, 95, 52]⟩⟩
noncomputable def s99 : Str := ⟨⟨[97, 106, 97, 114]⟩⟩
noncomputable def s101 : Str := ⟨⟨[95, 115, 116, 101, 109]⟩⟩
noncomputable def s102 : Str := ⟨⟨[107, 97, 104]⟩⟩
noncomputable def s103 : Str := ⟨⟨[108, 97, 104]⟩⟩
noncomputable def s104 : Str := ⟨⟨[112, 117, 110]⟩⟩
noncomputable def s105 : Str := ⟨⟨[110, 121, 97]⟩⟩
noncomputable def s106 : Str := ⟨⟨[107, 117]⟩⟩
noncomputable def s107 : Str := ⟨⟨[109, 117]⟩⟩
noncomputable def s108 : Str := ⟨⟨[97, 110]⟩⟩
noncomputable def s109 : Str := ⟨⟨[100, 105]⟩⟩
noncomputable def s110 : Str := ⟨⟨[107, 101]⟩⟩
noncomputable def s111 : Str := ⟨⟨[109, 101]⟩⟩
noncomputable def s112 : Str := ⟨⟨[109, 101, 109]⟩⟩
noncomputable def s113 : Str := ⟨⟨[109, 101, 110]⟩⟩
noncomputable def s114 : Str := ⟨⟨[109, 101, 110, 103]⟩⟩
noncomputable def s115 : Str := ⟨⟨[112, 101, 109]⟩⟩
noncomputable def s116 : Str := ⟨⟨[112, 101, 110]⟩⟩
noncomputable def s117 : Str := ⟨⟨[112, 101, 110, 103]⟩⟩
noncomputable def s118 : Str := ⟨⟨[116, 101, 114]⟩⟩
noncomputable def s119 : Str := ⟨⟨[98, 101]⟩⟩
noncomputable def s120 : Str := ⟨⟨[112, 101]⟩⟩
noncomputable def s121 : Str := ⟨⟨[69, 120, 99, 101, 112, 116, 105, 111, 110]⟩⟩
noncomputable def s122 : Str := ⟨⟨[108, 97, 119, 95, 98, 118, 54, 48, 49, 57, 95, 48, 49]⟩⟩
noncomputable def s123 : Str := ⟨⟨[95, 108, 97, 119, 95, 102, 114, 111, 110, 116, 115]⟩⟩
noncomputable def s128 : Str := ⟨⟨[95, 108, 97, 119, 95, 97, 102, 116, 101, 114]⟩⟩
noncomputable def s133 : Str := ⟨⟨[95, 108, 97, 119, 95, 99, 108, 111, 115, 101, 115]⟩⟩
noncomputable def s135 : Str := ⟨⟨[95, 108, 97, 119, 95, 108, 101, 116, 116, 101, 114, 115]⟩⟩
noncomputable def s136 : Str := ⟨⟨[97, 98, 100, 101, 103, 105, 107, 108, 109, 110, 111, 114, 115, 116, 117]⟩⟩
noncomputable def s137 : Str := ⟨⟨[95, 108, 97, 119, 95, 116, 97, 112, 101]⟩⟩
noncomputable def s138 : Str := ⟨⟨[115, 99, 114, 105, 112, 116]⟩⟩
noncomputable def s142 : Str := ⟨⟨[115, 117, 109]⟩⟩
noncomputable def s144 : Str := ⟨⟨[95, 108, 97, 119, 95, 110, 101, 120, 116]⟩⟩
noncomputable def s145 : Str := ⟨⟨[116, 97, 112, 101]⟩⟩
noncomputable def s146 : Str := ⟨⟨[109, 97, 110, 121]⟩⟩
noncomputable def s147 : Str := ⟨⟨[95, 108, 97, 119, 95, 99, 97, 115, 101]⟩⟩
noncomputable def s148 : Str := ⟨⟨[115, 116, 101, 112]⟩⟩
noncomputable def s149 : Str := ⟨⟨[111, 117, 116, 115, 105, 100, 101]⟩⟩
noncomputable def s151 : Str := ⟨⟨[98, 101, 104, 105, 110, 100]⟩⟩
noncomputable def s152 : Str := ⟨⟨[116, 101, 120, 116]⟩⟩
noncomputable def s153 : Str := ⟨⟨[102, 114, 111, 110, 116]⟩⟩
noncomputable def s154 : Str := ⟨⟨[95, 108, 97, 119, 95, 105, 115]⟩⟩
noncomputable def s155 : Str := ⟨⟨[112, 108, 97, 99, 101]⟩⟩
noncomputable def s157 : Str := ⟨⟨[95, 108, 97, 119, 95, 102, 105, 114, 115, 116]⟩⟩
noncomputable def s158 : Str := ⟨⟨[112, 114, 101, 102, 105, 120]⟩⟩
noncomputable def s159 : Str := ⟨⟨[109, 101, 97, 115, 117, 114, 101]⟩⟩
noncomputable def s160 : Str := ⟨⟨[98, 101, 115, 116]⟩⟩
noncomputable def s161 : Str := ⟨⟨[114, 101, 115, 116]⟩⟩
noncomputable def s162 : Str := ⟨⟨[109, 97, 114, 107]⟩⟩
noncomputable def s163 : Str := ⟨⟨[95, 108, 97, 119, 95, 115, 101, 99, 111, 110, 100]⟩⟩
noncomputable def s164 : Str := ⟨⟨[119, 104, 111, 108, 101]⟩⟩
noncomputable def s166 : Str := ⟨⟨[95, 108, 97, 119, 95, 111, 102, 102]⟩⟩
noncomputable def s167 : Str := ⟨⟨[114, 111, 119, 115]⟩⟩
noncomputable def s168 : Str := ⟨⟨[101, 110, 100]⟩⟩
noncomputable def s170 : Str := ⟨⟨[95, 108, 97, 119, 95, 115, 117, 102, 102, 105, 120]⟩⟩
noncomputable def s171 : Str := ⟨⟨[112, 97, 114, 116]⟩⟩
noncomputable def s172 : Str := ⟨⟨[104, 101, 97, 100]⟩⟩
noncomputable def s174 : Str := ⟨⟨[95, 108, 97, 119, 95, 102, 117, 108, 108]⟩⟩
noncomputable def s175 : Str := ⟨⟨[99, 97, 115, 101]⟩⟩
noncomputable def s176 : Str := ⟨⟨[95, 108, 97, 119, 95, 116, 111, 108, 100]⟩⟩
noncomputable def s177 : Str := ⟨⟨[115, 116, 101, 109, 109, 101, 114]⟩⟩
noncomputable def s178 : Str := ⟨⟨[95, 108, 97, 119, 95, 115, 101, 116]⟩⟩
noncomputable def s179 : Str := ⟨⟨[95, 108, 97, 119, 95, 119, 114, 111, 110, 103]⟩⟩
noncomputable def s180 : Str := ⟨⟨[97, 110, 115, 119, 101, 114]⟩⟩
noncomputable def s181 : Str := ⟨⟨[112, 108, 97, 105, 110]⟩⟩
noncomputable def s182 : Str := ⟨⟨[108, 101, 102, 116]⟩⟩
noncomputable def s183 : Str := ⟨⟨[116, 111, 108, 100]⟩⟩
noncomputable def s184 : Str := ⟨⟨[100, 117, 101]⟩⟩
noncomputable def s185 : Str := ⟨⟨[108, 97, 119]⟩⟩
noncomputable def s186 : Str := ⟨⟨[111, 110, 101]⟩⟩
noncomputable def s187 : Str := ⟨⟨[116, 119, 111]⟩⟩
noncomputable def s188 : Str := ⟨⟨[119, 114, 111, 110, 103]⟩⟩
noncomputable def s189 : Str := ⟨⟨[102, 105, 114, 115, 116]⟩⟩
noncomputable def s190 : Str := ⟨⟨[115, 101, 99, 111, 110, 100]⟩⟩
noncomputable def s191 : Str := ⟨⟨[47, 99, 108, 97, 105, 109, 47, 99, 117, 116, 46, 112, 121]⟩⟩
noncomputable def s192 : Str := ⟨⟨[98, 117, 105, 108, 116, 105, 110, 115]⟩⟩
noncomputable def s193 : Str := ⟨⟨[95, 95, 100, 111, 99, 95, 95]⟩⟩
noncomputable def s194 : Str := ⟨⟨[95, 95, 112, 97, 99, 107, 97, 103, 101, 95, 95]⟩⟩
noncomputable def s195 : Str := ⟨⟨[95, 95, 108, 111, 97, 100, 101, 114, 95, 95]⟩⟩
noncomputable def s196 : Str := ⟨⟨[95, 95, 115, 112, 101, 99, 95, 95]⟩⟩
noncomputable def s197 : Str := ⟨⟨[95, 95, 98, 117, 105, 108, 100, 95, 99, 108, 97, 115, 115, 95, 95]⟩⟩
noncomputable def s198 : Str := ⟨⟨[95, 95, 105, 109, 112, 111, 114, 116, 95, 95]⟩⟩
noncomputable def s199 : Str := ⟨⟨[97, 98, 115]⟩⟩
noncomputable def s200 : Str := ⟨⟨[97, 108, 108]⟩⟩
noncomputable def s201 : Str := ⟨⟨[97, 110, 121]⟩⟩
noncomputable def s202 : Str := ⟨⟨[97, 115, 99, 105, 105]⟩⟩
noncomputable def s203 : Str := ⟨⟨[98, 105, 110]⟩⟩
noncomputable def s204 : Str := ⟨⟨[98, 114, 101, 97, 107, 112, 111, 105, 110, 116]⟩⟩
noncomputable def s205 : Str := ⟨⟨[99, 97, 108, 108, 97, 98, 108, 101]⟩⟩
noncomputable def s206 : Str := ⟨⟨[99, 104, 114]⟩⟩
noncomputable def s207 : Str := ⟨⟨[99, 111, 109, 112, 105, 108, 101]⟩⟩
noncomputable def s208 : Str := ⟨⟨[100, 101, 108, 97, 116, 116, 114]⟩⟩
noncomputable def s209 : Str := ⟨⟨[100, 105, 114]⟩⟩
noncomputable def s210 : Str := ⟨⟨[100, 105, 118, 109, 111, 100]⟩⟩
noncomputable def s211 : Str := ⟨⟨[101, 118, 97, 108]⟩⟩
noncomputable def s212 : Str := ⟨⟨[101, 120, 101, 99]⟩⟩
noncomputable def s213 : Str := ⟨⟨[102, 111, 114, 109, 97, 116]⟩⟩
noncomputable def s214 : Str := ⟨⟨[103, 101, 116, 97, 116, 116, 114]⟩⟩
noncomputable def s215 : Str := ⟨⟨[103, 108, 111, 98, 97, 108, 115]⟩⟩
noncomputable def s216 : Str := ⟨⟨[104, 97, 115, 97, 116, 116, 114]⟩⟩
noncomputable def s217 : Str := ⟨⟨[104, 97, 115, 104]⟩⟩
noncomputable def s218 : Str := ⟨⟨[104, 101, 120]⟩⟩
noncomputable def s219 : Str := ⟨⟨[105, 100]⟩⟩
noncomputable def s220 : Str := ⟨⟨[105, 110, 112, 117, 116]⟩⟩
noncomputable def s221 : Str := ⟨⟨[105, 115, 105, 110, 115, 116, 97, 110, 99, 101]⟩⟩
noncomputable def s222 : Str := ⟨⟨[105, 115, 115, 117, 98, 99, 108, 97, 115, 115]⟩⟩
noncomputable def s223 : Str := ⟨⟨[105, 116, 101, 114]⟩⟩
noncomputable def s224 : Str := ⟨⟨[97, 105, 116, 101, 114]⟩⟩
noncomputable def s225 : Str := ⟨⟨[108, 111, 99, 97, 108, 115]⟩⟩
noncomputable def s226 : Str := ⟨⟨[109, 97, 120]⟩⟩
noncomputable def s227 : Str := ⟨⟨[110, 101, 120, 116]⟩⟩
noncomputable def s228 : Str := ⟨⟨[97, 110, 101, 120, 116]⟩⟩
noncomputable def s229 : Str := ⟨⟨[111, 99, 116]⟩⟩
noncomputable def s230 : Str := ⟨⟨[112, 111, 119]⟩⟩
noncomputable def s231 : Str := ⟨⟨[112, 114, 105, 110, 116]⟩⟩
noncomputable def s232 : Str := ⟨⟨[114, 101, 112, 114]⟩⟩
noncomputable def s233 : Str := ⟨⟨[114, 111, 117, 110, 100]⟩⟩
noncomputable def s234 : Str := ⟨⟨[115, 101, 116, 97, 116, 116, 114]⟩⟩
noncomputable def s235 : Str := ⟨⟨[115, 111, 114, 116, 101, 100]⟩⟩
noncomputable def s236 : Str := ⟨⟨[118, 97, 114, 115]⟩⟩
noncomputable def s237 : Str := ⟨⟨[78, 111, 110, 101]⟩⟩
noncomputable def s238 : Str := ⟨⟨[69, 108, 108, 105, 112, 115, 105, 115]⟩⟩
noncomputable def s239 : Str := ⟨⟨[78, 111, 116, 73, 109, 112, 108, 101, 109, 101, 110, 116, 101, 100]⟩⟩
noncomputable def s240 : Str := ⟨⟨[70, 97, 108, 115, 101]⟩⟩
noncomputable def s241 : Str := ⟨⟨[84, 114, 117, 101]⟩⟩
noncomputable def s242 : Str := ⟨⟨[98, 111, 111, 108]⟩⟩
noncomputable def s243 : Str := ⟨⟨[109, 101, 109, 111, 114, 121, 118, 105, 101, 119]⟩⟩
noncomputable def s244 : Str := ⟨⟨[98, 121, 116, 101, 97, 114, 114, 97, 121]⟩⟩
noncomputable def s245 : Str := ⟨⟨[98, 121, 116, 101, 115]⟩⟩
noncomputable def s246 : Str := ⟨⟨[99, 108, 97, 115, 115, 109, 101, 116, 104, 111, 100]⟩⟩
noncomputable def s247 : Str := ⟨⟨[99, 111, 109, 112, 108, 101, 120]⟩⟩
noncomputable def s248 : Str := ⟨⟨[100, 105, 99, 116]⟩⟩
noncomputable def s249 : Str := ⟨⟨[101, 110, 117, 109, 101, 114, 97, 116, 101]⟩⟩
noncomputable def s250 : Str := ⟨⟨[102, 105, 108, 116, 101, 114]⟩⟩
noncomputable def s251 : Str := ⟨⟨[102, 108, 111, 97, 116]⟩⟩
noncomputable def s252 : Str := ⟨⟨[102, 114, 111, 122, 101, 110, 115, 101, 116]⟩⟩
noncomputable def s253 : Str := ⟨⟨[112, 114, 111, 112, 101, 114, 116, 121]⟩⟩
noncomputable def s254 : Str := ⟨⟨[105, 110, 116]⟩⟩
noncomputable def s255 : Str := ⟨⟨[108, 105, 115, 116]⟩⟩
noncomputable def s256 : Str := ⟨⟨[109, 97, 112]⟩⟩
noncomputable def s257 : Str := ⟨⟨[111, 98, 106, 101, 99, 116]⟩⟩
noncomputable def s258 : Str := ⟨⟨[114, 101, 118, 101, 114, 115, 101, 100]⟩⟩
noncomputable def s259 : Str := ⟨⟨[115, 101, 116]⟩⟩
noncomputable def s260 : Str := ⟨⟨[115, 108, 105, 99, 101]⟩⟩
noncomputable def s261 : Str := ⟨⟨[115, 116, 97, 116, 105, 99, 109, 101, 116, 104, 111, 100]⟩⟩
noncomputable def s262 : Str := ⟨⟨[115, 116, 114]⟩⟩
noncomputable def s263 : Str := ⟨⟨[115, 117, 112, 101, 114]⟩⟩
noncomputable def s264 : Str := ⟨⟨[116, 117, 112, 108, 101]⟩⟩
noncomputable def s265 : Str := ⟨⟨[116, 121, 112, 101]⟩⟩
noncomputable def s266 : Str := ⟨⟨[122, 105, 112]⟩⟩
noncomputable def s267 : Str := ⟨⟨[95, 95, 100, 101, 98, 117, 103, 95, 95]⟩⟩
noncomputable def s268 : Str := ⟨⟨[66, 97, 115, 101, 69, 120, 99, 101, 112, 116, 105, 111, 110]⟩⟩
noncomputable def s269 : Str := ⟨⟨[66, 97, 115, 101, 69, 120, 99, 101, 112, 116, 105, 111, 110, 71, 114, 111, 117, 112]⟩⟩
noncomputable def s270 : Str := ⟨⟨[71, 101, 110, 101, 114, 97, 116, 111, 114, 69, 120, 105, 116]⟩⟩
noncomputable def s271 : Str := ⟨⟨[75, 101, 121, 98, 111, 97, 114, 100, 73, 110, 116, 101, 114, 114, 117, 112, 116]⟩⟩
noncomputable def s272 : Str := ⟨⟨[83, 121, 115, 116, 101, 109, 69, 120, 105, 116]⟩⟩
noncomputable def s273 : Str := ⟨⟨[65, 114, 105, 116, 104, 109, 101, 116, 105, 99, 69, 114, 114, 111, 114]⟩⟩
noncomputable def s274 : Str := ⟨⟨[65, 115, 115, 101, 114, 116, 105, 111, 110, 69, 114, 114, 111, 114]⟩⟩
noncomputable def s275 : Str := ⟨⟨[65, 116, 116, 114, 105, 98, 117, 116, 101, 69, 114, 114, 111, 114]⟩⟩
noncomputable def s276 : Str := ⟨⟨[66, 117, 102, 102, 101, 114, 69, 114, 114, 111, 114]⟩⟩
noncomputable def s277 : Str := ⟨⟨[69, 79, 70, 69, 114, 114, 111, 114]⟩⟩
noncomputable def s278 : Str := ⟨⟨[73, 109, 112, 111, 114, 116, 69, 114, 114, 111, 114]⟩⟩
noncomputable def s279 : Str := ⟨⟨[76, 111, 111, 107, 117, 112, 69, 114, 114, 111, 114]⟩⟩
noncomputable def s280 : Str := ⟨⟨[77, 101, 109, 111, 114, 121, 69, 114, 114, 111, 114]⟩⟩
noncomputable def s281 : Str := ⟨⟨[78, 97, 109, 101, 69, 114, 114, 111, 114]⟩⟩
noncomputable def s282 : Str := ⟨⟨[79, 83, 69, 114, 114, 111, 114]⟩⟩
noncomputable def s283 : Str := ⟨⟨[82, 101, 102, 101, 114, 101, 110, 99, 101, 69, 114, 114, 111, 114]⟩⟩
noncomputable def s284 : Str := ⟨⟨[82, 117, 110, 116, 105, 109, 101, 69, 114, 114, 111, 114]⟩⟩
noncomputable def s285 : Str := ⟨⟨[83, 116, 111, 112, 65, 115, 121, 110, 99, 73, 116, 101, 114, 97, 116, 105, 111, 110]⟩⟩
noncomputable def s286 : Str := ⟨⟨[83, 116, 111, 112, 73, 116, 101, 114, 97, 116, 105, 111, 110]⟩⟩
noncomputable def s287 : Str := ⟨⟨[83, 121, 110, 116, 97, 120, 69, 114, 114, 111, 114]⟩⟩
noncomputable def s288 : Str := ⟨⟨[83, 121, 115, 116, 101, 109, 69, 114, 114, 111, 114]⟩⟩
noncomputable def s289 : Str := ⟨⟨[84, 121, 112, 101, 69, 114, 114, 111, 114]⟩⟩
noncomputable def s290 : Str := ⟨⟨[86, 97, 108, 117, 101, 69, 114, 114, 111, 114]⟩⟩
noncomputable def s291 : Str := ⟨⟨[87, 97, 114, 110, 105, 110, 103]⟩⟩
noncomputable def s292 : Str := ⟨⟨[70, 108, 111, 97, 116, 105, 110, 103, 80, 111, 105, 110, 116, 69, 114, 114, 111, 114]⟩⟩
noncomputable def s293 : Str := ⟨⟨[79, 118, 101, 114, 102, 108, 111, 119, 69, 114, 114, 111, 114]⟩⟩
noncomputable def s294 : Str := ⟨⟨[90, 101, 114, 111, 68, 105, 118, 105, 115, 105, 111, 110, 69, 114, 114, 111, 114]⟩⟩
noncomputable def s295 : Str := ⟨⟨[66, 121, 116, 101, 115, 87, 97, 114, 110, 105, 110, 103]⟩⟩
noncomputable def s296 : Str := ⟨⟨[68, 101, 112, 114, 101, 99, 97, 116, 105, 111, 110, 87, 97, 114, 110, 105, 110, 103]⟩⟩
noncomputable def s297 : Str := ⟨⟨[69, 110, 99, 111, 100, 105, 110, 103, 87, 97, 114, 110, 105, 110, 103]⟩⟩
noncomputable def s298 : Str := ⟨⟨[70, 117, 116, 117, 114, 101, 87, 97, 114, 110, 105, 110, 103]⟩⟩
noncomputable def s299 : Str := ⟨⟨[73, 109, 112, 111, 114, 116, 87, 97, 114, 110, 105, 110, 103]⟩⟩
noncomputable def s300 : Str := ⟨⟨[80, 101, 110, 100, 105, 110, 103, 68, 101, 112, 114, 101, 99, 97, 116, 105, 111, 110, 87, 97, 114, 110, 105, 110, 103]⟩⟩
noncomputable def s301 : Str := ⟨⟨[82, 101, 115, 111, 117, 114, 99, 101, 87, 97, 114, 110, 105, 110, 103]⟩⟩
noncomputable def s302 : Str := ⟨⟨[82, 117, 110, 116, 105, 109, 101, 87, 97, 114, 110, 105, 110, 103]⟩⟩
noncomputable def s303 : Str := ⟨⟨[83, 121, 110, 116, 97, 120, 87, 97, 114, 110, 105, 110, 103]⟩⟩
noncomputable def s304 : Str := ⟨⟨[85, 110, 105, 99, 111, 100, 101, 87, 97, 114, 110, 105, 110, 103]⟩⟩
noncomputable def s305 : Str := ⟨⟨[85, 115, 101, 114, 87, 97, 114, 110, 105, 110, 103]⟩⟩
noncomputable def s306 : Str := ⟨⟨[66, 108, 111, 99, 107, 105, 110, 103, 73, 79, 69, 114, 114, 111, 114]⟩⟩
noncomputable def s307 : Str := ⟨⟨[67, 104, 105, 108, 100, 80, 114, 111, 99, 101, 115, 115, 69, 114, 114, 111, 114]⟩⟩
noncomputable def s308 : Str := ⟨⟨[67, 111, 110, 110, 101, 99, 116, 105, 111, 110, 69, 114, 114, 111, 114]⟩⟩
noncomputable def s309 : Str := ⟨⟨[70, 105, 108, 101, 69, 120, 105, 115, 116, 115, 69, 114, 114, 111, 114]⟩⟩
noncomputable def s310 : Str := ⟨⟨[70, 105, 108, 101, 78, 111, 116, 70, 111, 117, 110, 100, 69, 114, 114, 111, 114]⟩⟩
noncomputable def s311 : Str := ⟨⟨[73, 110, 116, 101, 114, 114, 117, 112, 116, 101, 100, 69, 114, 114, 111, 114]⟩⟩
noncomputable def s312 : Str := ⟨⟨[73, 115, 65, 68, 105, 114, 101, 99, 116, 111, 114, 121, 69, 114, 114, 111, 114]⟩⟩
noncomputable def s313 : Str := ⟨⟨[78, 111, 116, 65, 68, 105, 114, 101, 99, 116, 111, 114, 121, 69, 114, 114, 111, 114]⟩⟩
noncomputable def s314 : Str := ⟨⟨[80, 101, 114, 109, 105, 115, 115, 105, 111, 110, 69, 114, 114, 111, 114]⟩⟩
noncomputable def s315 : Str := ⟨⟨[80, 114, 111, 99, 101, 115, 115, 76, 111, 111, 107, 117, 112, 69, 114, 114, 111, 114]⟩⟩
noncomputable def s316 : Str := ⟨⟨[84, 105, 109, 101, 111, 117, 116, 69, 114, 114, 111, 114]⟩⟩
noncomputable def s317 : Str := ⟨⟨[73, 110, 100, 101, 110, 116, 97, 116, 105, 111, 110, 69, 114, 114, 111, 114]⟩⟩
noncomputable def s318 : Str := ⟨⟨[95, 73, 110, 99, 111, 109, 112, 108, 101, 116, 101, 73, 110, 112, 117, 116, 69, 114, 114, 111, 114]⟩⟩
noncomputable def s319 : Str := ⟨⟨[73, 110, 100, 101, 120, 69, 114, 114, 111, 114]⟩⟩
noncomputable def s320 : Str := ⟨⟨[75, 101, 121, 69, 114, 114, 111, 114]⟩⟩
noncomputable def s321 : Str := ⟨⟨[77, 111, 100, 117, 108, 101, 78, 111, 116, 70, 111, 117, 110, 100, 69, 114, 114, 111, 114]⟩⟩
noncomputable def s322 : Str := ⟨⟨[78, 111, 116, 73, 109, 112, 108, 101, 109, 101, 110, 116, 101, 100, 69, 114, 114, 111, 114]⟩⟩
noncomputable def s323 : Str := ⟨⟨[80, 121, 116, 104, 111, 110, 70, 105, 110, 97, 108, 105, 122, 97, 116, 105, 111, 110, 69, 114, 114, 111, 114]⟩⟩
noncomputable def s324 : Str := ⟨⟨[82, 101, 99, 117, 114, 115, 105, 111, 110, 69, 114, 114, 111, 114]⟩⟩
noncomputable def s325 : Str := ⟨⟨[85, 110, 98, 111, 117, 110, 100, 76, 111, 99, 97, 108, 69, 114, 114, 111, 114]⟩⟩
noncomputable def s326 : Str := ⟨⟨[85, 110, 105, 99, 111, 100, 101, 69, 114, 114, 111, 114]⟩⟩
noncomputable def s327 : Str := ⟨⟨[66, 114, 111, 107, 101, 110, 80, 105, 112, 101, 69, 114, 114, 111, 114]⟩⟩
noncomputable def s328 : Str := ⟨⟨[67, 111, 110, 110, 101, 99, 116, 105, 111, 110, 65, 98, 111, 114, 116, 101, 100, 69, 114, 114, 111, 114]⟩⟩
noncomputable def s329 : Str := ⟨⟨[67, 111, 110, 110, 101, 99, 116, 105, 111, 110, 82, 101, 102, 117, 115, 101, 100, 69, 114, 114, 111, 114]⟩⟩
noncomputable def s330 : Str := ⟨⟨[67, 111, 110, 110, 101, 99, 116, 105, 111, 110, 82, 101, 115, 101, 116, 69, 114, 114, 111, 114]⟩⟩
noncomputable def s331 : Str := ⟨⟨[84, 97, 98, 69, 114, 114, 111, 114]⟩⟩
noncomputable def s332 : Str := ⟨⟨[85, 110, 105, 99, 111, 100, 101, 68, 101, 99, 111, 100, 101, 69, 114, 114, 111, 114]⟩⟩
noncomputable def s333 : Str := ⟨⟨[85, 110, 105, 99, 111, 100, 101, 69, 110, 99, 111, 100, 101, 69, 114, 114, 111, 114]⟩⟩
noncomputable def s334 : Str := ⟨⟨[85, 110, 105, 99, 111, 100, 101, 84, 114, 97, 110, 115, 108, 97, 116, 101, 69, 114, 114, 111, 114]⟩⟩
noncomputable def s335 : Str := ⟨⟨[69, 120, 99, 101, 112, 116, 105, 111, 110, 71, 114, 111, 117, 112]⟩⟩
noncomputable def s336 : Str := ⟨⟨[69, 110, 118, 105, 114, 111, 110, 109, 101, 110, 116, 69, 114, 114, 111, 114]⟩⟩
noncomputable def s337 : Str := ⟨⟨[73, 79, 69, 114, 114, 111, 114]⟩⟩
noncomputable def s338 : Str := ⟨⟨[111, 112, 101, 110]⟩⟩
noncomputable def s339 : Str := ⟨⟨[113, 117, 105, 116]⟩⟩
noncomputable def s340 : Str := ⟨⟨[101, 120, 105, 116]⟩⟩
noncomputable def s341 : Str := ⟨⟨[99, 111, 112, 121, 114, 105, 103, 104, 116]⟩⟩
noncomputable def s342 : Str := ⟨⟨[99, 114, 101, 100, 105, 116, 115]⟩⟩
noncomputable def s343 : Str := ⟨⟨[108, 105, 99, 101, 110, 115, 101]⟩⟩
noncomputable def s344 : Str := ⟨⟨[104, 101, 108, 112]⟩⟩
noncomputable def s345 : Str := ⟨⟨[95, 95, 109, 97, 105, 110, 95, 95]⟩⟩
noncomputable def s346 : Str := ⟨⟨[95, 95, 97, 110, 110, 111, 116, 97, 116, 105, 111, 110, 115, 95, 95]⟩⟩
noncomputable def s347 : Str := ⟨⟨[95, 95, 98, 117, 105, 108, 116, 105, 110, 115, 95, 95]⟩⟩
noncomputable def s348 : Str := ⟨⟨[95, 95, 102, 105, 108, 101, 95, 95]⟩⟩
noncomputable def s349 : Str := ⟨⟨[95, 95, 99, 97, 99, 104, 101, 100, 95, 95]⟩⟩
noncomputable def s350 : Str := ⟨⟨[60, 109, 111, 100, 117, 108, 101, 62]⟩⟩
noncomputable def s351 : Str := ⟨⟨[95, 95, 109, 111, 100, 117, 108, 101, 95, 95]⟩⟩
noncomputable def s352 : Str := ⟨⟨[95, 95, 113, 117, 97, 108, 110, 97, 109, 101, 95, 95]⟩⟩
noncomputable def s353 : Str := ⟨⟨[95, 95, 102, 105, 114, 115, 116, 108, 105, 110, 101, 110, 111, 95, 95]⟩⟩
noncomputable def s354 : Str := ⟨⟨[95, 95, 115, 116, 97, 116, 105, 99, 95, 97, 116, 116, 114, 105, 98, 117, 116, 101, 115, 95, 95]⟩⟩
noncomputable def s355 : Str := ⟨⟨[66, 97, 115, 101, 83, 116, 101, 109, 109, 101, 114, 46, 95, 95, 105, 110, 105, 116, 95, 95]⟩⟩
noncomputable def s356 : Str := ⟨⟨[66, 97, 115, 101, 83, 116, 101, 109, 109, 101, 114, 46, 115, 101, 116, 95, 99, 117, 114, 114, 101, 110, 116]⟩⟩
noncomputable def s357 : Str := ⟨⟨[66, 97, 115, 101, 83, 116, 101, 109, 109, 101, 114, 46, 103, 101, 116, 95, 99, 117, 114, 114, 101, 110, 116]⟩⟩
noncomputable def s358 : Str := ⟨⟨[66, 97, 115, 101, 83, 116, 101, 109, 109, 101, 114, 46, 99, 111, 112, 121, 95, 102, 114, 111, 109]⟩⟩
noncomputable def s359 : Str := ⟨⟨[66, 97, 115, 101, 83, 116, 101, 109, 109, 101, 114, 46, 105, 110, 95, 103, 114, 111, 117, 112, 105, 110, 103]⟩⟩
noncomputable def s360 : Str := ⟨⟨[66, 97, 115, 101, 83, 116, 101, 109, 109, 101, 114, 46, 103, 111, 95, 105, 110, 95, 103, 114, 111, 117, 112, 105, 110, 103]⟩⟩
noncomputable def s361 : Str := ⟨⟨[66, 97, 115, 101, 83, 116, 101, 109, 109, 101, 114, 46, 105, 110, 95, 103, 114, 111, 117, 112, 105, 110, 103, 95, 98]⟩⟩
noncomputable def s362 : Str := ⟨⟨[66, 97, 115, 101, 83, 116, 101, 109, 109, 101, 114, 46, 103, 111, 95, 105, 110, 95, 103, 114, 111, 117, 112, 105, 110, 103, 95, 98]⟩⟩
noncomputable def s363 : Str := ⟨⟨[66, 97, 115, 101, 83, 116, 101, 109, 109, 101, 114, 46, 111, 117, 116, 95, 103, 114, 111, 117, 112, 105, 110, 103]⟩⟩
noncomputable def s364 : Str := ⟨⟨[66, 97, 115, 101, 83, 116, 101, 109, 109, 101, 114, 46, 103, 111, 95, 111, 117, 116, 95, 103, 114, 111, 117, 112, 105, 110, 103]⟩⟩
noncomputable def s365 : Str := ⟨⟨[66, 97, 115, 101, 83, 116, 101, 109, 109, 101, 114, 46, 111, 117, 116, 95, 103, 114, 111, 117, 112, 105, 110, 103, 95, 98]⟩⟩
noncomputable def s366 : Str := ⟨⟨[66, 97, 115, 101, 83, 116, 101, 109, 109, 101, 114, 46, 103, 111, 95, 111, 117, 116, 95, 103, 114, 111, 117, 112, 105, 110, 103, 95, 98]⟩⟩
noncomputable def s367 : Str := ⟨⟨[66, 97, 115, 101, 83, 116, 101, 109, 109, 101, 114, 46, 101, 113, 95, 115]⟩⟩
noncomputable def s368 : Str := ⟨⟨[66, 97, 115, 101, 83, 116, 101, 109, 109, 101, 114, 46, 101, 113, 95, 115, 95, 98]⟩⟩
noncomputable def s369 : Str := ⟨⟨[66, 97, 115, 101, 83, 116, 101, 109, 109, 101, 114, 46, 102, 105, 110, 100, 95, 97, 109, 111, 110, 103]⟩⟩
noncomputable def s370 : Str := ⟨⟨[66, 97, 115, 101, 83, 116, 101, 109, 109, 101, 114, 46, 102, 105, 110, 100, 95, 97, 109, 111, 110, 103, 95, 98]⟩⟩
noncomputable def s371 : Str := ⟨⟨[66, 97, 115, 101, 83, 116, 101, 109, 109, 101, 114, 46, 114, 101, 112, 108, 97, 99, 101, 95, 115]⟩⟩
noncomputable def s372 : Str := ⟨⟨[66, 97, 115, 101, 83, 116, 101, 109, 109, 101, 114, 46, 115, 108, 105, 99, 101, 95, 102, 114, 111, 109]⟩⟩
noncomputable def s373 : Str := ⟨⟨[66, 97, 115, 101, 83, 116, 101, 109, 109, 101, 114, 46, 115, 108, 105, 99, 101, 95, 100, 101, 108]⟩⟩
noncomputable def s374 : Str := ⟨⟨[66, 97, 115, 101, 83, 116, 101, 109, 109, 101, 114, 46, 105, 110, 115, 101, 114, 116]⟩⟩
noncomputable def s375 : Str := ⟨⟨[66, 97, 115, 101, 83, 116, 101, 109, 109, 101, 114, 46, 115, 108, 105, 99, 101, 95, 116, 111]⟩⟩
noncomputable def s376 : Str := ⟨⟨[66, 97, 115, 101, 83, 116, 101, 109, 109, 101, 114, 46, 97, 115, 115, 105, 103, 110, 95, 116, 111]⟩⟩
noncomputable def s377 : Str := ⟨⟨[66, 97, 115, 101, 83, 116, 101, 109, 109, 101, 114, 46, 115, 116, 101, 109, 87, 111, 114, 100]⟩⟩
noncomputable def s378 : Str := ⟨⟨[66, 97, 115, 101, 83, 116, 101, 109, 109, 101, 114, 46, 115, 116, 101, 109, 87, 111, 114, 100, 115]⟩⟩
noncomputable def s379 : Str := ⟨⟨[95, 95, 100, 105, 99, 116, 95, 95]⟩⟩
noncomputable def s380 : Str := ⟨⟨[95, 95, 119, 101, 97, 107, 114, 101, 102, 95, 95]⟩⟩
noncomputable def s381 : Str := ⟨⟨[65, 109, 111, 110, 103, 46, 95, 95, 105, 110, 105, 116, 95, 95]⟩⟩
noncomputable def s382 : Str := ⟨⟨[73, 110, 100, 111, 110, 101, 115, 105, 97, 110, 83, 116, 101, 109, 109, 101, 114, 46, 114, 95, 114, 101, 109, 111, 118, 101, 95, 112, 97, 114, 116, 105, 99, 108, 101]⟩⟩
noncomputable def s383 : Str := ⟨⟨[73, 110, 100, 111, 110, 101, 115, 105, 97, 110, 83, 116, 101, 109, 109, 101, 114, 46, 114, 95, 114, 101, 109, 111, 118, 101, 95, 112, 111, 115, 115, 101, 115, 115, 105, 118, 101, 95, 112, 114, 111, 110, 111, 117, 110]⟩⟩
noncomputable def s384 : Str := ⟨⟨[73, 110, 100, 111, 110, 101, 115, 105, 97, 110, 83, 116, 101, 109, 109, 101, 114, 46, 114, 95, 114, 101, 109, 111, 118, 101, 95, 115, 117, 102, 102, 105, 120]⟩⟩
noncomputable def s385 : Str := ⟨⟨[73, 110, 100, 111, 110, 101, 115, 105, 97, 110, 83, 116, 101, 109, 109, 101, 114, 46, 114, 95, 114, 101, 109, 111, 118, 101, 95, 102, 105, 114, 115, 116, 95, 111, 114, 100, 101, 114, 95, 112, 114, 101, 102, 105, 120]⟩⟩
noncomputable def s386 : Str := ⟨⟨[73, 110, 100, 111, 110, 101, 115, 105, 97, 110, 83, 116, 101, 109, 109, 101, 114, 46, 114, 95, 114, 101, 109, 111, 118, 101, 95, 115, 101, 99, 111, 110, 100, 95, 111, 114, 100, 101, 114, 95, 112, 114, 101, 102, 105, 120]⟩⟩
noncomputable def s387 : Str := ⟨⟨[73, 110, 100, 111, 110, 101, 115, 105, 97, 110, 83, 116, 101, 109, 109, 101, 114, 46, 95, 115, 116, 101, 109]⟩⟩
noncomputable def s388 : Str := ⟨⟨[116, 121, 112, 101, 46, 95, 95, 115, 117, 98, 99, 108, 97, 115, 115, 101, 115, 95, 95, 46, 69, 120, 99, 101, 112, 116, 105, 111, 110, 46, 48]⟩⟩
noncomputable def s389 : Str := ⟨⟨[116, 121, 112, 101, 46, 95, 95, 115, 117, 98, 99, 108, 97, 115, 115, 101, 115, 95, 95, 46, 69, 120, 99, 101, 112, 116, 105, 111, 110, 46, 110]⟩⟩
noncomputable def pwN : Program := PySem.Challenge.pw_bv6019_01

noncomputable def dS (i : Nat) : Stmt := (pwN.main.body[i]?).getD (.Pass ⟨0,0,0,0⟩)
noncomputable def cBody : Stmt → List Stmt | .ClassDef _ _ _ b _ _ _ _ _ _ _ => b | _ => []
noncomputable def cScope : Stmt → Scope | .ClassDef _ _ _ _ _ _ sc _ _ _ _ => sc | _ => default
noncomputable def dM (i j : Nat) : Stmt := ((cBody (dS i))[j]?).getD (.Pass ⟨0,0,0,0⟩)
noncomputable def fPar : Stmt → Arguments | .FunctionDef _ a _ _ _ _ _ _ _ _ => a | _ => default
noncomputable def fBody : Stmt → List Stmt | .FunctionDef _ _ b _ _ _ _ _ _ _ => b | _ => []
noncomputable def fScope : Stmt → Scope | .FunctionDef _ _ _ _ _ _ sc _ _ _ => sc | _ => default
noncomputable def o0 (P : Params) : Obj := ⟨(.type PySem.W.SL.s14018661285674007319x4), .none, (.dict ⟨[⟨(PySem.PyData.keyHash P s2), (.str s2 1), (.str s192 160)⟩, ⟨(PySem.PyData.keyHash P s193), (.str s193 2), (.builtin "builtins.__doc__:str#opaque")⟩, ⟨(PySem.PyData.keyHash P s194), (.str s194 3), (.builtin "builtins.__package__:str#opaque")⟩, ⟨(PySem.PyData.keyHash P s195), (.str s195 4), (.builtin "builtins.__loader__:shared#opaque")⟩, ⟨(PySem.PyData.keyHash P s196), (.str s196 5), (.builtin PySem.W.SL.s11665532747177232413x24)⟩, ⟨(PySem.PyData.keyHash P s197), (.str s197 6), (.builtin PySem.W.SL.s15183661809925369436x15)⟩, ⟨(PySem.PyData.keyHash P s198), (.str s198 7), (.builtin PySem.W.SL.s13915890719876406383x10)⟩, ⟨(PySem.PyData.keyHash P s199), (.str s199 8), (.builtin PySem.W.SL.s13459172003223722735x3)⟩, ⟨(PySem.PyData.keyHash P s200), (.str s200 9), (.builtin PySem.W.SL.s10557405761357834076x3)⟩, ⟨(PySem.PyData.keyHash P s201), (.str s201 10), (.builtin PySem.W.SL.s4233737765568776869x3)⟩, ⟨(PySem.PyData.keyHash P s202), (.str s202 11), (.builtin PySem.W.SL.s2508922471967985374x5)⟩, ⟨(PySem.PyData.keyHash P s203), (.str s203 12), (.builtin PySem.W.SL.s15574269061696679450x3)⟩, ⟨(PySem.PyData.keyHash P s204), (.str s204 13), (.builtin PySem.W.SL.s6016482663378992977x10)⟩, ⟨(PySem.PyData.keyHash P s205), (.str s205 14), (.builtin PySem.W.SL.s5596568736180474577x8)⟩, ⟨(PySem.PyData.keyHash P s206), (.str s206 15), (.builtin PySem.W.SL.s2839554839881490554x3)⟩, ⟨(PySem.PyData.keyHash P s207), (.str s207 16), (.builtin PySem.W.SL.s725004073602090463x7)⟩, ⟨(PySem.PyData.keyHash P s208), (.str s208 17), (.builtin PySem.W.SL.s9436932552931045734x7)⟩, ⟨(PySem.PyData.keyHash P s209), (.str s209 18), (.builtin PySem.W.SL.s2754603736356183583x3)⟩, ⟨(PySem.PyData.keyHash P s210), (.str s210 19), (.builtin PySem.W.SL.s15185746759980889043x6)⟩, ⟨(PySem.PyData.keyHash P s211), (.str s211 20), (.builtin PySem.W.SL.s8192189862530294059x4)⟩, ⟨(PySem.PyData.keyHash P s212), (.str s212 21), (.builtin PySem.W.SL.s7038307821325472102x4)⟩, ⟨(PySem.PyData.keyHash P s213), (.str s213 22), (.builtin PySem.W.SL.s5662562618415449548x6)⟩, ⟨(PySem.PyData.keyHash P s214), (.str s214 23), (.builtin PySem.W.SL.s15281542589158584767x7)⟩, ⟨(PySem.PyData.keyHash P s215), (.str s215 24), (.builtin PySem.W.SL.s17651547275483570877x7)⟩, ⟨(PySem.PyData.keyHash P s216), (.str s216 25), (.builtin PySem.W.SL.s4036449017235975746x7)⟩, ⟨(PySem.PyData.keyHash P s217), (.str s217 26), (.builtin PySem.W.SL.s8879979712987360175x4)⟩, ⟨(PySem.PyData.keyHash P s218), (.str s218 27), (.builtin PySem.W.SL.s1801250619170735830x3)⟩, ⟨(PySem.PyData.keyHash P s219), (.str s219 28), (.builtin PySem.W.SL.s17659931425627118568x2)⟩, ⟨(PySem.PyData.keyHash P s220), (.str s220 29), (.builtin PySem.W.SL.s6063217899685152688x5)⟩, ⟨(PySem.PyData.keyHash P s221), (.str s221 30), (.builtin PySem.W.SL.s8008927332132565319x10)⟩, ⟨(PySem.PyData.keyHash P s222), (.str s222 31), (.builtin PySem.W.SL.s3544116645089599534x10)⟩, ⟨(PySem.PyData.keyHash P s223), (.str s223 32), (.builtin PySem.W.SL.s13761710972054866084x4)⟩, ⟨(PySem.PyData.keyHash P s224), (.str s224 33), (.builtin PySem.W.SL.s12896375587409280029x5)⟩, ⟨(PySem.PyData.keyHash P s13), (.str s13 34), (.builtin PySem.W.SL.s13014049009108672802x3)⟩, ⟨(PySem.PyData.keyHash P s225), (.str s225 35), (.builtin PySem.W.SL.s13935586738268321596x6)⟩, ⟨(PySem.PyData.keyHash P s226), (.str s226 36), (.builtin PySem.W.SL.s8200498257699607233x3)⟩, ⟨(PySem.PyData.keyHash P s43), (.str s43 37), (.builtin PySem.W.SL.s14114244577727609259x3)⟩, ⟨(PySem.PyData.keyHash P s227), (.str s227 38), (.builtin PySem.W.SL.s1499430450269397089x4)⟩, ⟨(PySem.PyData.keyHash P s228), (.str s228 39), (.builtin PySem.W.SL.s8755793994789770505x5)⟩, ⟨(PySem.PyData.keyHash P s229), (.str s229 40), (.builtin PySem.W.SL.s15725212667919936108x3)⟩, ⟨(PySem.PyData.keyHash P s47), (.str s47 41), (.builtin PySem.W.SL.s15791221867095933363x3)⟩, ⟨(PySem.PyData.keyHash P s230), (.str s230 42), (.builtin PySem.W.SL.s81309575031448614x3)⟩, ⟨(PySem.PyData.keyHash P s231), (.str s231 43), (.builtin PySem.W.SL.s8069831620301644142x5)⟩, ⟨(PySem.PyData.keyHash P s232), (.str s232 44), (.builtin PySem.W.SL.s10061844253413749634x4)⟩, ⟨(PySem.PyData.keyHash P s233), (.str s233 45), (.builtin PySem.W.SL.s9496514870978017513x5)⟩, ⟨(PySem.PyData.keyHash P s234), (.str s234 46), (.builtin PySem.W.SL.s8899691144933366716x7)⟩, ⟨(PySem.PyData.keyHash P s235), (.str s235 47), (.builtin PySem.W.SL.s15201008993051130160x6)⟩, ⟨(PySem.PyData.keyHash P s142), (.str s142 48), (.builtin PySem.W.SL.s741896355592496720x3)⟩, ⟨(PySem.PyData.keyHash P s236), (.str s236 49), (.builtin PySem.W.SL.s17925004256654032244x4)⟩, ⟨(PySem.PyData.keyHash P s237), (.str s237 50), .none⟩, ⟨(PySem.PyData.keyHash P s238), (.str s238 51), .ellipsis⟩, ⟨(PySem.PyData.keyHash P s239), (.str s239 52), .notImplemented⟩, ⟨(PySem.PyData.keyHash P s240), (.str s240 53), (.bool false)⟩, ⟨(PySem.PyData.keyHash P s241), (.str s241 54), (.bool true)⟩, ⟨(PySem.PyData.keyHash P s242), (.str s242 55), (.type PySem.W.SL.s11695548795398191787x4)⟩, ⟨(PySem.PyData.keyHash P s243), (.str s243 56), (.type PySem.W.SL.s4156966113859768872x10)⟩, ⟨(PySem.PyData.keyHash P s244), (.str s244 57), (.type PySem.W.SL.s9501651726347032510x9)⟩, ⟨(PySem.PyData.keyHash P s245), (.str s245 58), (.type PySem.W.SL.s15722918466584999320x5)⟩, ⟨(PySem.PyData.keyHash P s246), (.str s246 59), (.type PySem.W.SL.s591115383303110208x11)⟩, ⟨(PySem.PyData.keyHash P s247), (.str s247 60), (.type PySem.W.SL.s15721156781594690315x7)⟩, ⟨(PySem.PyData.keyHash P s248), (.str s248 61), (.type PySem.W.SL.s14018661285674007319x4)⟩, ⟨(PySem.PyData.keyHash P s249), (.str s249 62), (.type PySem.W.SL.s14340494229221121180x9)⟩, ⟨(PySem.PyData.keyHash P s250), (.str s250 63), (.type PySem.W.SL.s13429844117177748173x6)⟩, ⟨(PySem.PyData.keyHash P s251), (.str s251 64), (.type PySem.W.SL.s16463266125957815391x5)⟩, ⟨(PySem.PyData.keyHash P s252), (.str s252 65), (.type PySem.W.SL.s4922535414793169389x9)⟩, ⟨(PySem.PyData.keyHash P s253), (.str s253 66), (.type PySem.W.SL.s8101838861749082086x8)⟩, ⟨(PySem.PyData.keyHash P s254), (.str s254 67), (.type PySem.W.SL.s7066276694103001551x3)⟩, ⟨(PySem.PyData.keyHash P s255), (.str s255 68), (.type PySem.W.SL.s9222952809800978799x4)⟩, ⟨(PySem.PyData.keyHash P s256), (.str s256 69), (.type PySem.W.SL.s462964344163437139x3)⟩, ⟨(PySem.PyData.keyHash P s257), (.str s257 70), (.type PySem.W.SL.s2742458400755230247x6)⟩, ⟨(PySem.PyData.keyHash P s46), (.str s46 71), (.type PySem.W.SL.s1438033511350832697x5)⟩, ⟨(PySem.PyData.keyHash P s258), (.str s258 72), (.type PySem.W.SL.s14365286008749172514x8)⟩, ⟨(PySem.PyData.keyHash P s259), (.str s259 73), (.type PySem.W.SL.s3642769012341782148x3)⟩, ⟨(PySem.PyData.keyHash P s260), (.str s260 74), (.type PySem.W.SL.s4674234679698826739x5)⟩, ⟨(PySem.PyData.keyHash P s261), (.str s261 75), (.type PySem.W.SL.s16656946322747308186x12)⟩, ⟨(PySem.PyData.keyHash P s262), (.str s262 76), (.type PySem.W.SL.s10796804682411823810x3)⟩, ⟨(PySem.PyData.keyHash P s263), (.str s263 77), (.type PySem.W.SL.s4290257624100764138x5)⟩, ⟨(PySem.PyData.keyHash P s264), (.str s264 78), (.type PySem.W.SL.s2766695959194262286x5)⟩, ⟨(PySem.PyData.keyHash P s265), (.str s265 79), (.type PySem.W.SL.s17162191345867700912x4)⟩, ⟨(PySem.PyData.keyHash P s266), (.str s266 80), (.type PySem.W.SL.s14339709457334898076x3)⟩, ⟨(PySem.PyData.keyHash P s267), (.str s267 81), (.bool true)⟩, ⟨(PySem.PyData.keyHash P s268), (.str s268 82), (.type PySem.W.SL.s4278001404047624695x13)⟩, ⟨(PySem.PyData.keyHash P s269), (.str s269 83), (.type PySem.W.SL.s6585700554429387442x18)⟩, ⟨(PySem.PyData.keyHash P s121), (.str s121 84), (.type PySem.W.SL.s5946037652744460706x9)⟩, ⟨(PySem.PyData.keyHash P s270), (.str s270 85), (.type PySem.W.SL.s7410770068591931388x13)⟩, ⟨(PySem.PyData.keyHash P s271), (.str s271 86), (.type PySem.W.SL.s11817881795495490833x17)⟩, ⟨(PySem.PyData.keyHash P s272), (.str s272 87), (.type PySem.W.SL.s15679963881808890155x10)⟩, ⟨(PySem.PyData.keyHash P s273), (.str s273 88), (.type PySem.W.SL.s3871700062485845797x15)⟩, ⟨(PySem.PyData.keyHash P s274), (.str s274 89), (.type PySem.W.SL.s7689518266570723881x14)⟩, ⟨(PySem.PyData.keyHash P s275), (.str s275 90), (.type PySem.W.SL.s9001593270443806431x14)⟩, ⟨(PySem.PyData.keyHash P s276), (.str s276 91), (.type PySem.W.SL.s6882542574934516792x11)⟩, ⟨(PySem.PyData.keyHash P s277), (.str s277 92), (.type PySem.W.SL.s14403400214490484960x8)⟩, ⟨(PySem.PyData.keyHash P s278), (.str s278 93), (.type PySem.W.SL.s14457978657717015782x11)⟩, ⟨(PySem.PyData.keyHash P s279), (.str s279 94), (.type PySem.W.SL.s1753610191782819921x11)⟩, ⟨(PySem.PyData.keyHash P s280), (.str s280 95), (.type PySem.W.SL.s14119380538032626715x11)⟩, ⟨(PySem.PyData.keyHash P s281), (.str s281 96), (.type PySem.W.SL.s11437920000406562045x9)⟩, ⟨(PySem.PyData.keyHash P s282), (.str s282 97), (.type PySem.W.SL.s10852414792293593619x7)⟩, ⟨(PySem.PyData.keyHash P s283), (.str s283 98), (.type PySem.W.SL.s14816307405966870543x14)⟩, ⟨(PySem.PyData.keyHash P s284), (.str s284 99), (.type PySem.W.SL.s8682627914449686677x12)⟩, ⟨(PySem.PyData.keyHash P s285), (.str s285 100), (.type PySem.W.SL.s4428170145600203450x18)⟩, ⟨(PySem.PyData.keyHash P s286), (.str s286 101), (.type PySem.W.SL.s5991306692159431302x13)⟩, ⟨(PySem.PyData.keyHash P s287), (.str s287 102), (.type PySem.W.SL.s16067994140765818257x11)⟩, ⟨(PySem.PyData.keyHash P s288), (.str s288 103), (.type PySem.W.SL.s2327743974964600596x11)⟩, ⟨(PySem.PyData.keyHash P s289), (.str s289 104), (.type PySem.W.SL.s2804747833354056582x9)⟩, ⟨(PySem.PyData.keyHash P s290), (.str s290 105), (.type PySem.W.SL.s6070975301684473832x10)⟩, ⟨(PySem.PyData.keyHash P s291), (.str s291 106), (.type PySem.W.SL.s14270485950484850486x7)⟩, ⟨(PySem.PyData.keyHash P s292), (.str s292 107), (.type PySem.W.SL.s12041534306414923332x18)⟩, ⟨(PySem.PyData.keyHash P s293), (.str s293 108), (.type PySem.W.SL.s2531307568338490285x13)⟩, ⟨(PySem.PyData.keyHash P s294), (.str s294 109), (.type PySem.W.SL.s631175304937289666x17)⟩, ⟨(PySem.PyData.keyHash P s295), (.str s295 110), (.type PySem.W.SL.s5144983644357021410x12)⟩, ⟨(PySem.PyData.keyHash P s296), (.str s296 111), (.type PySem.W.SL.s18039099521571816885x18)⟩, ⟨(PySem.PyData.keyHash P s297), (.str s297 112), (.type PySem.W.SL.s6011586214260557989x15)⟩, ⟨(PySem.PyData.keyHash P s298), (.str s298 113), (.type PySem.W.SL.s5430567037509283100x13)⟩, ⟨(PySem.PyData.keyHash P s299), (.str s299 114), (.type PySem.W.SL.s8117915138073963741x13)⟩, ⟨(PySem.PyData.keyHash P s300), (.str s300 115), (.type PySem.W.SL.s3423317712779056401x25)⟩, ⟨(PySem.PyData.keyHash P s301), (.str s301 116), (.type PySem.W.SL.s2007317383269046180x15)⟩, ⟨(PySem.PyData.keyHash P s302), (.str s302 117), (.type PySem.W.SL.s17481586968713580700x14)⟩, ⟨(PySem.PyData.keyHash P s303), (.str s303 118), (.type PySem.W.SL.s2450899226349176912x13)⟩, ⟨(PySem.PyData.keyHash P s304), (.str s304 119), (.type PySem.W.SL.s16626165730633575011x14)⟩, ⟨(PySem.PyData.keyHash P s305), (.str s305 120), (.type PySem.W.SL.s14288496050688921416x11)⟩, ⟨(PySem.PyData.keyHash P s306), (.str s306 121), (.type PySem.W.SL.s5735081916595925998x15)⟩, ⟨(PySem.PyData.keyHash P s307), (.str s307 122), (.type PySem.W.SL.s3865607918536308442x17)⟩, ⟨(PySem.PyData.keyHash P s308), (.str s308 123), (.type PySem.W.SL.s13337502604062700212x15)⟩, ⟨(PySem.PyData.keyHash P s309), (.str s309 124), (.type PySem.W.SL.s13114017843053701147x15)⟩, ⟨(PySem.PyData.keyHash P s310), (.str s310 125), (.type PySem.W.SL.s17467278006356818441x17)⟩, ⟨(PySem.PyData.keyHash P s311), (.str s311 126), (.type PySem.W.SL.s17722149559621369488x16)⟩, ⟨(PySem.PyData.keyHash P s312), (.str s312 127), (.type PySem.W.SL.s7855274175708717672x17)⟩, ⟨(PySem.PyData.keyHash P s313), (.str s313 128), (.type PySem.W.SL.s13351283678309829046x18)⟩, ⟨(PySem.PyData.keyHash P s314), (.str s314 129), (.type PySem.W.SL.s6668348653404991179x15)⟩, ⟨(PySem.PyData.keyHash P s315), (.str s315 130), (.type PySem.W.SL.s12913350958174193794x18)⟩, ⟨(PySem.PyData.keyHash P s316), (.str s316 131), (.type PySem.W.SL.s16115879512475548326x12)⟩, ⟨(PySem.PyData.keyHash P s317), (.str s317 132), (.type PySem.W.SL.s15920661018069861047x16)⟩, ⟨(PySem.PyData.keyHash P s318), (.str s318 133), (.type PySem.W.SL.s10779130036587390575x21)⟩, ⟨(PySem.PyData.keyHash P s319), (.str s319 134), (.type PySem.W.SL.s7801419657504700863x10)⟩, ⟨(PySem.PyData.keyHash P s320), (.str s320 135), (.type PySem.W.SL.s1688129525768580628x8)⟩, ⟨(PySem.PyData.keyHash P s321), (.str s321 136), (.type PySem.W.SL.s1031832959479892071x19)⟩, ⟨(PySem.PyData.keyHash P s322), (.str s322 137), (.type PySem.W.SL.s8991790508128307865x19)⟩, ⟨(PySem.PyData.keyHash P s323), (.str s323 138), (.type PySem.W.SL.s14539662485746970245x23)⟩, ⟨(PySem.PyData.keyHash P s324), (.str s324 139), (.type PySem.W.SL.s11643622729373238714x14)⟩, ⟨(PySem.PyData.keyHash P s325), (.str s325 140), (.type PySem.W.SL.s3386828779285465597x17)⟩, ⟨(PySem.PyData.keyHash P s326), (.str s326 141), (.type PySem.W.SL.s13042696260734638735x12)⟩, ⟨(PySem.PyData.keyHash P s327), (.str s327 142), (.type PySem.W.SL.s18239426817015966623x15)⟩, ⟨(PySem.PyData.keyHash P s328), (.str s328 143), (.type PySem.W.SL.s1270395311379034370x22)⟩, ⟨(PySem.PyData.keyHash P s329), (.str s329 144), (.type PySem.W.SL.s10696252587037064777x22)⟩, ⟨(PySem.PyData.keyHash P s330), (.str s330 145), (.type PySem.W.SL.s7852717498200857586x20)⟩, ⟨(PySem.PyData.keyHash P s331), (.str s331 146), (.type PySem.W.SL.s6377248116197321094x8)⟩, ⟨(PySem.PyData.keyHash P s332), (.str s332 147), (.type PySem.W.SL.s3834378056692298002x18)⟩, ⟨(PySem.PyData.keyHash P s333), (.str s333 148), (.type PySem.W.SL.s17586630440231065808x18)⟩, ⟨(PySem.PyData.keyHash P s334), (.str s334 149), (.type PySem.W.SL.s15234114252648025395x21)⟩, ⟨(PySem.PyData.keyHash P s335), (.str s335 150), (.type PySem.W.SL.s8496462677383758984x14)⟩, ⟨(PySem.PyData.keyHash P s336), (.str s336 151), (.type PySem.W.SL.s10852414792293593619x7)⟩, ⟨(PySem.PyData.keyHash P s337), (.str s337 152), (.type PySem.W.SL.s10852414792293593619x7)⟩, ⟨(PySem.PyData.keyHash P s338), (.str s338 153), (.builtin PySem.W.SL.s16789243406116112673x4)⟩, ⟨(PySem.PyData.keyHash P s339), (.str s339 154), (.builtin PySem.W.SL.s14400166428656793546x20)⟩, ⟨(PySem.PyData.keyHash P s340), (.str s340 155), (.builtin PySem.W.SL.s5857708277339239366x20)⟩, ⟨(PySem.PyData.keyHash P s341), (.str s341 156), (.builtin "builtins.copyright#opaque")⟩, ⟨(PySem.PyData.keyHash P s342), (.str s342 157), (.builtin "builtins.credits#opaque")⟩, ⟨(PySem.PyData.keyHash P s343), (.str s343 158), (.builtin "builtins.license#opaque")⟩, ⟨(PySem.PyData.keyHash P s344), (.str s344 159), (.builtin PySem.W.SL.s7804999707787243718x20)⟩]⟩ 159), ⟨[]⟩⟩
noncomputable def o1 (P : Params) : Obj := ⟨(.type PySem.W.SL.s14018661285674007319x4), .none, (.dict ⟨[⟨(PySem.PyData.keyHash P s192), (.str s192 162), (.ref 4)⟩, ⟨(PySem.PyData.keyHash P s345), (.str s345 163), (.ref 5)⟩]⟩ 2), ⟨[]⟩⟩
noncomputable def o2 (P : Params) : Obj := ⟨.none, .none, (.dict ⟨[]⟩ 0), ⟨[]⟩⟩
noncomputable def o3 (P : Params) : Obj := ⟨(.type PySem.W.SL.s14018661285674007319x4), .none, (.dict ⟨[⟨(PySem.PyData.keyHash P s2), (.str s2 165), (.str s345 164)⟩, ⟨(PySem.PyData.keyHash P s193), (.str s193 166), .none⟩, ⟨(PySem.PyData.keyHash P s194), (.str s194 167), .none⟩, ⟨(PySem.PyData.keyHash P s195), (.str s195 168), (.builtin PySem.W.SL.s7097527257260152453x26)⟩, ⟨(PySem.PyData.keyHash P s196), (.str s196 169), .none⟩, ⟨(PySem.PyData.keyHash P s346), (.str s346 170), (.ref 6)⟩, ⟨(PySem.PyData.keyHash P s347), (.str s347 171), (.ref 4)⟩, ⟨(PySem.PyData.keyHash P s348), (.str s348 173), (.str s191 172)⟩, ⟨(PySem.PyData.keyHash P s349), (.str s349 174), .none⟩]⟩ 9), ⟨[]⟩⟩
noncomputable def o4 (P : Params) : Obj := ⟨(.type PySem.W.SL.s6658869562736209489x6), (.some 0), .plain, ⟨[]⟩⟩
noncomputable def o5 (P : Params) : Obj := ⟨(.type PySem.W.SL.s6658869562736209489x6), (.some 3), .plain, ⟨[]⟩⟩
noncomputable def o6 (P : Params) : Obj := ⟨(.type PySem.W.SL.s14018661285674007319x4), .none, (.dict ⟨[]⟩ 0), ⟨[]⟩⟩
noncomputable def o7 (P : Params) : Obj := ⟨(.type PySem.W.SL.s2766695959194262286x5), .none, (.seq ⟨[]⟩ 0), ⟨[]⟩⟩
noncomputable def o8 (P : Params) : Obj := ⟨.none, .none, (.fields ⟨[]⟩), ⟨[]⟩⟩
noncomputable def o9 (P : Params) : Obj := ⟨(.type PySem.W.SL.s5856160107412720595x4), .none, (.fields ⟨[(.str s350 176), (.str s350 177), (.str s191 178), (.int (.ofNat 1) 0), (.int (.ofNat 0) 0), (.int (.ofNat 0) 0), (.int (.ofNat 0) 0), (.int (.ofNat 0) 0), (.ref 7), (.bool false), (.int (.ofNat 175) 0), (.ref 8), .none, .none, .none, .none, (.int (.ofNat 179) 0), (.int (.ofNat 1) 0), (.str s191 180)]⟩), ⟨[]⟩⟩
noncomputable def o10 (P : Params) : Obj := ⟨(.type PySem.W.SL.s658472552662922059x5), .none, .plain, ⟨[(.some (.ref 9)), (.some (.ref 3)), (.some (.ref 3)), .none, (.some (.str s345 164)), .none, (.some (.ref 0))]⟩⟩
noncomputable def o11 (P : Params) : Obj := ⟨(.type PySem.W.SL.s2766695959194262286x5), .none, (.seq ⟨[]⟩ 0), ⟨[]⟩⟩
noncomputable def o12 (P : Params) : Obj := ⟨.none, .none, (.fields ⟨[]⟩), ⟨[]⟩⟩
noncomputable def o13 (P : Params) : Obj := ⟨(.type PySem.W.SL.s5856160107412720595x4), .none, (.fields ⟨[(.str s350 182), (.str s350 183), (.str s191 184), (.int (.ofNat 1) 0), (.int (.ofNat 0) 0), (.int (.ofNat 0) 0), (.int (.ofNat 0) 0), (.int (.ofNat 0) 0), (.ref 11), (.bool false), (.int (.ofNat 181) 0), (.ref 12), .none, .none, .none, .none, (.int (.ofNat 185) 0), (.int (.ofNat 1) 0), (.str s191 186)]⟩), ⟨[]⟩⟩
noncomputable def o14 (P : Params) : Obj := ⟨(.type PySem.W.SL.s658472552662922059x5), .none, .plain, ⟨[(.some (.ref 13)), (.some (.ref 3)), (.some (.ref 3)), .none, (.some (.str s345 164)), .none, (.some (.ref 0))]⟩⟩
noncomputable def o3v1 (P : Params) : Obj := ⟨(.type PySem.W.SL.s14018661285674007319x4), .none, (.dict ⟨[⟨(PySem.PyData.keyHash P s2), (.str s2 165), (.str s3 194)⟩, ⟨(PySem.PyData.keyHash P s193), (.str s193 166), .none⟩, ⟨(PySem.PyData.keyHash P s194), (.str s194 167), .none⟩, ⟨(PySem.PyData.keyHash P s195), (.str s195 168), (.builtin PySem.W.SL.s7097527257260152453x26)⟩, ⟨(PySem.PyData.keyHash P s196), (.str s196 169), .none⟩, ⟨(PySem.PyData.keyHash P s346), (.str s346 170), (.ref 6)⟩, ⟨(PySem.PyData.keyHash P s347), (.str s347 171), (.ref 4)⟩, ⟨(PySem.PyData.keyHash P s348), (.str s348 173), (.str s191 172)⟩, ⟨(PySem.PyData.keyHash P s349), (.str s349 174), .none⟩, ⟨(PySem.PyData.keyHash P s0), (.str s0 193), (.ref 21)⟩]⟩ 10), ⟨[]⟩⟩
noncomputable def o12v1 (P : Params) : Obj := ⟨.none, .none, (.fields ⟨[(.int (.ofNat 1) 0), (.int (.ofNat 0) 0), (.ref 20)]⟩), ⟨[]⟩⟩
noncomputable def o15 (P : Params) : Obj := ⟨(.type PySem.W.SL.s2766695959194262286x5), .none, (.seq ⟨[]⟩ 0), ⟨[]⟩⟩
noncomputable def o16 (P : Params) : Obj := ⟨.none, .none, (.fields ⟨[]⟩), ⟨[]⟩⟩
noncomputable def o17 (P : Params) : Obj := ⟨(.type PySem.W.SL.s2766695959194262286x5), .none, (.seq ⟨[(.str s1 190)]⟩ 0), ⟨[]⟩⟩
noncomputable def o18 (P : Params) : Obj := ⟨(.type PySem.W.SL.s2766695959194262286x5), .none, (.seq ⟨[]⟩ 0), ⟨[]⟩⟩
noncomputable def o19 (P : Params) : Obj := ⟨.none, .none, (.func ⟨s0, s0, fPar (dS 0), .stmts (fBody (dS 0)), fScope (dS 0), 0, [], .none, .none, .none, .none, .none, .none, .none, 0⟩), ⟨[]⟩⟩
noncomputable def o20 (P : Params) : Obj := ⟨(.type PySem.W.SL.s5856160107412720595x4), .none, (.fields ⟨[(.str s0 187), (.str s0 188), (.str s191 189), (.int (.ofNat 1) 0), (.int (.ofNat 1) 0), (.int (.ofNat 0) 0), (.int (.ofNat 0) 0), (.int (.ofNat 3) 0), (.ref 15), (.bool true), (.int (.ofNat 181) 0), (.ref 16), .none, (.ref 17), (.ref 18), (.ref 19), (.int (.ofNat 191) 0), (.int (.ofNat 1) 0), (.str s191 192)]⟩), ⟨[]⟩⟩
noncomputable def o21 (P : Params) : Obj := ⟨(.type PySem.W.SL.s7174869446012820540x8), .none, (.func ⟨s0, s0, fPar (dS 0), .stmts (fBody (dS 0)), fScope (dS 0), 3, [], .none, .none, .none, (.str s345 164), .none, (.ref 20), .none, 0⟩), ⟨[]⟩⟩
noncomputable def o3v2 (P : Params) : Obj := ⟨(.type PySem.W.SL.s14018661285674007319x4), .none, (.dict ⟨[⟨(PySem.PyData.keyHash P s2), (.str s2 165), (.str s3 194)⟩, ⟨(PySem.PyData.keyHash P s193), (.str s193 166), .none⟩, ⟨(PySem.PyData.keyHash P s194), (.str s194 167), .none⟩, ⟨(PySem.PyData.keyHash P s195), (.str s195 168), (.builtin PySem.W.SL.s7097527257260152453x26)⟩, ⟨(PySem.PyData.keyHash P s196), (.str s196 169), .none⟩, ⟨(PySem.PyData.keyHash P s346), (.str s346 170), (.ref 6)⟩, ⟨(PySem.PyData.keyHash P s347), (.str s347 171), (.ref 4)⟩, ⟨(PySem.PyData.keyHash P s348), (.str s348 173), (.str s191 172)⟩, ⟨(PySem.PyData.keyHash P s349), (.str s349 174), .none⟩, ⟨(PySem.PyData.keyHash P s0), (.str s0 193), (.ref 21)⟩, ⟨(PySem.PyData.keyHash P s4), (.str s4 437), (.ref 199)⟩]⟩ 11), ⟨[]⟩⟩
noncomputable def o12v2 (P : Params) : Obj := ⟨.none, .none, (.fields ⟨[(.int (.ofNat 1) 0), (.int (.ofNat 0) 0), (.ref 20), (.int (.ofNat 5) 0), (.int (.ofNat 0) 0), (.ref 27)]⟩), ⟨[]⟩⟩
noncomputable def o22 (P : Params) : Obj := ⟨(.type PySem.W.SL.s2766695959194262286x5), .none, (.seq ⟨[]⟩ 0), ⟨[]⟩⟩
noncomputable def o23 (P : Params) : Obj := ⟨(.type PySem.W.SL.s11030030927630378310x26), .none, (.fields ⟨[(.builtin PySem.W.SL.s10062305145149207511x16), (.type PySem.W.SL.s17162191345867700912x4)]⟩), ⟨[]⟩⟩
noncomputable def o24 (P : Params) : Obj := ⟨(.type PySem.W.SL.s14018661285674007319x4), .none, (.dict ⟨[⟨(PySem.PyData.keyHash P s351), (.str s351 203), (.str s3 194)⟩, ⟨(PySem.PyData.keyHash P s352), (.str s352 205), (.str s4 204)⟩, ⟨(PySem.PyData.keyHash P s353), (.str s353 207), (.int (.ofNat 5) 206)⟩, ⟨(PySem.PyData.keyHash P s5), (.str s5 214), (.ref 35)⟩, ⟨(PySem.PyData.keyHash P s7), (.str s7 222), (.ref 42)⟩, ⟨(PySem.PyData.keyHash P s17), (.str s17 229), (.ref 49)⟩, ⟨(PySem.PyData.keyHash P s18), (.str s18 237), (.ref 56)⟩, ⟨(PySem.PyData.keyHash P s20), (.str s20 245), (.ref 63)⟩, ⟨(PySem.PyData.keyHash P s22), (.str s22 253), (.ref 70)⟩, ⟨(PySem.PyData.keyHash P s23), (.str s23 261), (.ref 77)⟩, ⟨(PySem.PyData.keyHash P s24), (.str s24 269), (.ref 84)⟩, ⟨(PySem.PyData.keyHash P s25), (.str s25 277), (.ref 91)⟩, ⟨(PySem.PyData.keyHash P s26), (.str s26 285), (.ref 98)⟩, ⟨(PySem.PyData.keyHash P s27), (.str s27 293), (.ref 105)⟩, ⟨(PySem.PyData.keyHash P s28), (.str s28 301), (.ref 112)⟩, ⟨(PySem.PyData.keyHash P s29), (.str s29 309), (.ref 119)⟩, ⟨(PySem.PyData.keyHash P s31), (.str s31 317), (.ref 126)⟩, ⟨(PySem.PyData.keyHash P s32), (.str s32 337), (.ref 133)⟩, ⟨(PySem.PyData.keyHash P s50), (.str s50 357), (.ref 140)⟩, ⟨(PySem.PyData.keyHash P s52), (.str s52 368), (.ref 147)⟩, ⟨(PySem.PyData.keyHash P s56), (.str s56 376), (.ref 154)⟩, ⟨(PySem.PyData.keyHash P s57), (.str s57 383), (.ref 161)⟩, ⟨(PySem.PyData.keyHash P s58), (.str s58 393), (.ref 168)⟩, ⟨(PySem.PyData.keyHash P s59), (.str s59 400), (.ref 175)⟩, ⟨(PySem.PyData.keyHash P s60), (.str s60 407), (.ref 182)⟩, ⟨(PySem.PyData.keyHash P s61), (.str s61 415), (.ref 189)⟩, ⟨(PySem.PyData.keyHash P s63), (.str s63 423), (.ref 196)⟩, ⟨(PySem.PyData.keyHash P s354), (.str s354 430), (.ref 197)⟩]⟩ 28), ⟨[]⟩⟩
noncomputable def o25 (P : Params) : Obj := ⟨(.type PySem.W.SL.s2766695959194262286x5), .none, (.seq ⟨[]⟩ 0), ⟨[]⟩⟩
noncomputable def o26 (P : Params) : Obj := ⟨.none, .none, (.fields ⟨[(.int (.ofNat 7) 0), (.int (.ofNat 4) 0), (.ref 34), (.int (.ofNat 10) 0), (.int (.ofNat 4) 0), (.ref 41), (.int (.ofNat 18) 0), (.int (.ofNat 4) 0), (.ref 48), (.int (.ofNat 21) 0), (.int (.ofNat 4) 0), (.ref 55), (.int (.ofNat 24) 0), (.int (.ofNat 4) 0), (.ref 62), (.int (.ofNat 32) 0), (.int (.ofNat 4) 0), (.ref 69), (.int (.ofNat 35) 0), (.int (.ofNat 4) 0), (.ref 76), (.int (.ofNat 38) 0), (.int (.ofNat 4) 0), (.ref 83), (.int (.ofNat 41) 0), (.int (.ofNat 4) 0), (.ref 90), (.int (.ofNat 49) 0), (.int (.ofNat 4) 0), (.ref 97), (.int (.ofNat 52) 0), (.int (.ofNat 4) 0), (.ref 104), (.int (.ofNat 55) 0), (.int (.ofNat 4) 0), (.ref 111), (.int (.ofNat 58) 0), (.int (.ofNat 4) 0), (.ref 118), (.int (.ofNat 64) 0), (.int (.ofNat 4) 0), (.ref 125), (.int (.ofNat 67) 0), (.int (.ofNat 4) 0), (.ref 132), (.int (.ofNat 112) 0), (.int (.ofNat 4) 0), (.ref 139), (.int (.ofNat 157) 0), (.int (.ofNat 4) 0), (.ref 146), (.int (.ofNat 167) 0), (.int (.ofNat 4) 0), (.ref 153), (.int (.ofNat 175) 0), (.int (.ofNat 4) 0), (.ref 160), (.int (.ofNat 178) 0), (.int (.ofNat 4) 0), (.ref 167), (.int (.ofNat 181) 0), (.int (.ofNat 4) 0), (.ref 174), (.int (.ofNat 184) 0), (.int (.ofNat 4) 0), (.ref 181), (.int (.ofNat 187) 0), (.int (.ofNat 4) 0), (.ref 188), (.int (.ofNat 190) 0), (.int (.ofNat 4) 0), (.ref 195)]⟩), ⟨[]⟩⟩
noncomputable def o27 (P : Params) : Obj := ⟨(.type PySem.W.SL.s5856160107412720595x4), .none, (.fields ⟨[(.str s4 198), (.str s4 199), (.str s191 200), (.int (.ofNat 5) 0), (.int (.ofNat 0) 0), (.int (.ofNat 0) 0), (.int (.ofNat 0) 0), (.int (.ofNat 0) 0), (.ref 25), (.bool false), (.int (.ofNat 181) 0), (.ref 26), .none, .none, .none, .none, (.int (.ofNat 201) 0), (.int (.ofNat 5) 0), (.str s191 202)]⟩), ⟨[]⟩⟩
noncomputable def o28 (P : Params) : Obj := ⟨(.type PySem.W.SL.s658472552662922059x5), .none, .plain, ⟨[(.some (.ref 27)), (.some (.ref 3)), (.some (.ref 24)), .none, (.some (.str s3 194)), .none, (.some (.ref 0))]⟩⟩
noncomputable def o29 (P : Params) : Obj := ⟨(.type PySem.W.SL.s2766695959194262286x5), .none, (.seq ⟨[]⟩ 0), ⟨[]⟩⟩
noncomputable def o30 (P : Params) : Obj := ⟨.none, .none, (.fields ⟨[]⟩), ⟨[]⟩⟩
noncomputable def o31 (P : Params) : Obj := ⟨(.type PySem.W.SL.s2766695959194262286x5), .none, (.seq ⟨[(.str s6 211)]⟩ 0), ⟨[]⟩⟩
noncomputable def o32 (P : Params) : Obj := ⟨(.type PySem.W.SL.s2766695959194262286x5), .none, (.seq ⟨[]⟩ 0), ⟨[]⟩⟩
noncomputable def o33 (P : Params) : Obj := ⟨.none, .none, (.func ⟨s5, s355, fPar (dM 2 0), .stmts (fBody (dM 2 0)), fScope (dM 2 0), 0, [], .none, .none, .none, .none, .none, .none, .none, 0⟩), ⟨[]⟩⟩
noncomputable def o34 (P : Params) : Obj := ⟨(.type PySem.W.SL.s5856160107412720595x4), .none, (.fields ⟨[(.str s5 208), (.str s355 209), (.str s191 210), (.int (.ofNat 7) 0), (.int (.ofNat 1) 0), (.int (.ofNat 0) 0), (.int (.ofNat 0) 0), (.int (.ofNat 3) 0), (.ref 29), (.bool true), (.int (.ofNat 181) 0), (.ref 30), .none, (.ref 31), (.ref 32), (.ref 33), (.int (.ofNat 212) 0), (.int (.ofNat 7) 0), (.str s191 213)]⟩), ⟨[]⟩⟩
noncomputable def o35 (P : Params) : Obj := ⟨(.type PySem.W.SL.s7174869446012820540x8), .none, (.func ⟨s5, s355, fPar (dM 2 0), .stmts (fBody (dM 2 0)), fScope (dM 2 0), 3, [], .none, .none, .none, (.str s3 194), .none, (.ref 34), .none, 0⟩), ⟨[]⟩⟩
noncomputable def o36 (P : Params) : Obj := ⟨(.type PySem.W.SL.s2766695959194262286x5), .none, (.seq ⟨[]⟩ 0), ⟨[]⟩⟩
noncomputable def o37 (P : Params) : Obj := ⟨.none, .none, (.fields ⟨[]⟩), ⟨[]⟩⟩
noncomputable def o38 (P : Params) : Obj := ⟨(.type PySem.W.SL.s2766695959194262286x5), .none, (.seq ⟨[(.str s6 218), (.str s9 219)]⟩ 0), ⟨[]⟩⟩
noncomputable def o39 (P : Params) : Obj := ⟨(.type PySem.W.SL.s2766695959194262286x5), .none, (.seq ⟨[]⟩ 0), ⟨[]⟩⟩
noncomputable def o40 (P : Params) : Obj := ⟨.none, .none, (.func ⟨s7, s356, fPar (dM 2 1), .stmts (fBody (dM 2 1)), fScope (dM 2 1), 0, [], .none, .none, .none, .none, .none, .none, .none, 0⟩), ⟨[]⟩⟩
noncomputable def o41 (P : Params) : Obj := ⟨(.type PySem.W.SL.s5856160107412720595x4), .none, (.fields ⟨[(.str s7 215), (.str s356 216), (.str s191 217), (.int (.ofNat 10) 0), (.int (.ofNat 2) 0), (.int (.ofNat 0) 0), (.int (.ofNat 0) 0), (.int (.ofNat 3) 0), (.ref 36), (.bool true), (.int (.ofNat 181) 0), (.ref 37), .none, (.ref 38), (.ref 39), (.ref 40), (.int (.ofNat 220) 0), (.int (.ofNat 10) 0), (.str s191 221)]⟩), ⟨[]⟩⟩
noncomputable def o42 (P : Params) : Obj := ⟨(.type PySem.W.SL.s7174869446012820540x8), .none, (.func ⟨s7, s356, fPar (dM 2 1), .stmts (fBody (dM 2 1)), fScope (dM 2 1), 3, [], .none, .none, .none, (.str s3 194), .none, (.ref 41), .none, 0⟩), ⟨[]⟩⟩
noncomputable def o43 (P : Params) : Obj := ⟨(.type PySem.W.SL.s2766695959194262286x5), .none, (.seq ⟨[]⟩ 0), ⟨[]⟩⟩
noncomputable def o44 (P : Params) : Obj := ⟨.none, .none, (.fields ⟨[]⟩), ⟨[]⟩⟩
noncomputable def o45 (P : Params) : Obj := ⟨(.type PySem.W.SL.s2766695959194262286x5), .none, (.seq ⟨[(.str s6 226)]⟩ 0), ⟨[]⟩⟩
noncomputable def o46 (P : Params) : Obj := ⟨(.type PySem.W.SL.s2766695959194262286x5), .none, (.seq ⟨[]⟩ 0), ⟨[]⟩⟩
noncomputable def o47 (P : Params) : Obj := ⟨.none, .none, (.func ⟨s17, s357, fPar (dM 2 2), .stmts (fBody (dM 2 2)), fScope (dM 2 2), 0, [], .none, .none, .none, .none, .none, .none, .none, 0⟩), ⟨[]⟩⟩
noncomputable def o48 (P : Params) : Obj := ⟨(.type PySem.W.SL.s5856160107412720595x4), .none, (.fields ⟨[(.str s17 223), (.str s357 224), (.str s191 225), (.int (.ofNat 18) 0), (.int (.ofNat 1) 0), (.int (.ofNat 0) 0), (.int (.ofNat 0) 0), (.int (.ofNat 3) 0), (.ref 43), (.bool true), (.int (.ofNat 181) 0), (.ref 44), .none, (.ref 45), (.ref 46), (.ref 47), (.int (.ofNat 227) 0), (.int (.ofNat 18) 0), (.str s191 228)]⟩), ⟨[]⟩⟩
noncomputable def o49 (P : Params) : Obj := ⟨(.type PySem.W.SL.s7174869446012820540x8), .none, (.func ⟨s17, s357, fPar (dM 2 2), .stmts (fBody (dM 2 2)), fScope (dM 2 2), 3, [], .none, .none, .none, (.str s3 194), .none, (.ref 48), .none, 0⟩), ⟨[]⟩⟩
noncomputable def o50 (P : Params) : Obj := ⟨(.type PySem.W.SL.s2766695959194262286x5), .none, (.seq ⟨[]⟩ 0), ⟨[]⟩⟩
noncomputable def o51 (P : Params) : Obj := ⟨.none, .none, (.fields ⟨[]⟩), ⟨[]⟩⟩
noncomputable def o52 (P : Params) : Obj := ⟨(.type PySem.W.SL.s2766695959194262286x5), .none, (.seq ⟨[(.str s6 233), (.str s19 234)]⟩ 0), ⟨[]⟩⟩
noncomputable def o53 (P : Params) : Obj := ⟨(.type PySem.W.SL.s2766695959194262286x5), .none, (.seq ⟨[]⟩ 0), ⟨[]⟩⟩
noncomputable def o54 (P : Params) : Obj := ⟨.none, .none, (.func ⟨s18, s358, fPar (dM 2 3), .stmts (fBody (dM 2 3)), fScope (dM 2 3), 0, [], .none, .none, .none, .none, .none, .none, .none, 0⟩), ⟨[]⟩⟩
noncomputable def o55 (P : Params) : Obj := ⟨(.type PySem.W.SL.s5856160107412720595x4), .none, (.fields ⟨[(.str s18 230), (.str s358 231), (.str s191 232), (.int (.ofNat 21) 0), (.int (.ofNat 2) 0), (.int (.ofNat 0) 0), (.int (.ofNat 0) 0), (.int (.ofNat 3) 0), (.ref 50), (.bool true), (.int (.ofNat 181) 0), (.ref 51), .none, (.ref 52), (.ref 53), (.ref 54), (.int (.ofNat 235) 0), (.int (.ofNat 21) 0), (.str s191 236)]⟩), ⟨[]⟩⟩
noncomputable def o56 (P : Params) : Obj := ⟨(.type PySem.W.SL.s7174869446012820540x8), .none, (.func ⟨s18, s358, fPar (dM 2 3), .stmts (fBody (dM 2 3)), fScope (dM 2 3), 3, [], .none, .none, .none, (.str s3 194), .none, (.ref 55), .none, 0⟩), ⟨[]⟩⟩
noncomputable def o57 (P : Params) : Obj := ⟨(.type PySem.W.SL.s2766695959194262286x5), .none, (.seq ⟨[]⟩ 0), ⟨[]⟩⟩
noncomputable def o58 (P : Params) : Obj := ⟨.none, .none, (.fields ⟨[]⟩), ⟨[]⟩⟩
noncomputable def o59 (P : Params) : Obj := ⟨(.type PySem.W.SL.s2766695959194262286x5), .none, (.seq ⟨[(.str s6 241), (.str s21 242)]⟩ 0), ⟨[]⟩⟩
noncomputable def o60 (P : Params) : Obj := ⟨(.type PySem.W.SL.s2766695959194262286x5), .none, (.seq ⟨[]⟩ 0), ⟨[]⟩⟩
noncomputable def o61 (P : Params) : Obj := ⟨.none, .none, (.func ⟨s20, s359, fPar (dM 2 4), .stmts (fBody (dM 2 4)), fScope (dM 2 4), 0, [], .none, .none, .none, .none, .none, .none, .none, 0⟩), ⟨[]⟩⟩
noncomputable def o62 (P : Params) : Obj := ⟨(.type PySem.W.SL.s5856160107412720595x4), .none, (.fields ⟨[(.str s20 238), (.str s359 239), (.str s191 240), (.int (.ofNat 24) 0), (.int (.ofNat 2) 0), (.int (.ofNat 0) 0), (.int (.ofNat 0) 0), (.int (.ofNat 3) 0), (.ref 57), (.bool true), (.int (.ofNat 181) 0), (.ref 58), .none, (.ref 59), (.ref 60), (.ref 61), (.int (.ofNat 243) 0), (.int (.ofNat 24) 0), (.str s191 244)]⟩), ⟨[]⟩⟩
noncomputable def o63 (P : Params) : Obj := ⟨(.type PySem.W.SL.s7174869446012820540x8), .none, (.func ⟨s20, s359, fPar (dM 2 4), .stmts (fBody (dM 2 4)), fScope (dM 2 4), 3, [], .none, .none, .none, (.str s3 194), .none, (.ref 62), .none, 0⟩), ⟨[]⟩⟩
noncomputable def o64 (P : Params) : Obj := ⟨(.type PySem.W.SL.s2766695959194262286x5), .none, (.seq ⟨[]⟩ 0), ⟨[]⟩⟩
noncomputable def o65 (P : Params) : Obj := ⟨.none, .none, (.fields ⟨[]⟩), ⟨[]⟩⟩
noncomputable def o66 (P : Params) : Obj := ⟨(.type PySem.W.SL.s2766695959194262286x5), .none, (.seq ⟨[(.str s6 249), (.str s21 250)]⟩ 0), ⟨[]⟩⟩
noncomputable def o67 (P : Params) : Obj := ⟨(.type PySem.W.SL.s2766695959194262286x5), .none, (.seq ⟨[]⟩ 0), ⟨[]⟩⟩
noncomputable def o68 (P : Params) : Obj := ⟨.none, .none, (.func ⟨s22, s360, fPar (dM 2 5), .stmts (fBody (dM 2 5)), fScope (dM 2 5), 0, [], .none, .none, .none, .none, .none, .none, .none, 0⟩), ⟨[]⟩⟩
noncomputable def o69 (P : Params) : Obj := ⟨(.type PySem.W.SL.s5856160107412720595x4), .none, (.fields ⟨[(.str s22 246), (.str s360 247), (.str s191 248), (.int (.ofNat 32) 0), (.int (.ofNat 2) 0), (.int (.ofNat 0) 0), (.int (.ofNat 0) 0), (.int (.ofNat 3) 0), (.ref 64), (.bool true), (.int (.ofNat 181) 0), (.ref 65), .none, (.ref 66), (.ref 67), (.ref 68), (.int (.ofNat 251) 0), (.int (.ofNat 32) 0), (.str s191 252)]⟩), ⟨[]⟩⟩
noncomputable def o70 (P : Params) : Obj := ⟨(.type PySem.W.SL.s7174869446012820540x8), .none, (.func ⟨s22, s360, fPar (dM 2 5), .stmts (fBody (dM 2 5)), fScope (dM 2 5), 3, [], .none, .none, .none, (.str s3 194), .none, (.ref 69), .none, 0⟩), ⟨[]⟩⟩
noncomputable def o71 (P : Params) : Obj := ⟨(.type PySem.W.SL.s2766695959194262286x5), .none, (.seq ⟨[]⟩ 0), ⟨[]⟩⟩
noncomputable def o72 (P : Params) : Obj := ⟨.none, .none, (.fields ⟨[]⟩), ⟨[]⟩⟩
noncomputable def o73 (P : Params) : Obj := ⟨(.type PySem.W.SL.s2766695959194262286x5), .none, (.seq ⟨[(.str s6 257), (.str s21 258)]⟩ 0), ⟨[]⟩⟩
noncomputable def o74 (P : Params) : Obj := ⟨(.type PySem.W.SL.s2766695959194262286x5), .none, (.seq ⟨[]⟩ 0), ⟨[]⟩⟩
noncomputable def o75 (P : Params) : Obj := ⟨.none, .none, (.func ⟨s23, s361, fPar (dM 2 6), .stmts (fBody (dM 2 6)), fScope (dM 2 6), 0, [], .none, .none, .none, .none, .none, .none, .none, 0⟩), ⟨[]⟩⟩
noncomputable def o76 (P : Params) : Obj := ⟨(.type PySem.W.SL.s5856160107412720595x4), .none, (.fields ⟨[(.str s23 254), (.str s361 255), (.str s191 256), (.int (.ofNat 35) 0), (.int (.ofNat 2) 0), (.int (.ofNat 0) 0), (.int (.ofNat 0) 0), (.int (.ofNat 3) 0), (.ref 71), (.bool true), (.int (.ofNat 181) 0), (.ref 72), .none, (.ref 73), (.ref 74), (.ref 75), (.int (.ofNat 259) 0), (.int (.ofNat 35) 0), (.str s191 260)]⟩), ⟨[]⟩⟩
noncomputable def o77 (P : Params) : Obj := ⟨(.type PySem.W.SL.s7174869446012820540x8), .none, (.func ⟨s23, s361, fPar (dM 2 6), .stmts (fBody (dM 2 6)), fScope (dM 2 6), 3, [], .none, .none, .none, (.str s3 194), .none, (.ref 76), .none, 0⟩), ⟨[]⟩⟩
noncomputable def o78 (P : Params) : Obj := ⟨(.type PySem.W.SL.s2766695959194262286x5), .none, (.seq ⟨[]⟩ 0), ⟨[]⟩⟩
noncomputable def o79 (P : Params) : Obj := ⟨.none, .none, (.fields ⟨[]⟩), ⟨[]⟩⟩
noncomputable def o80 (P : Params) : Obj := ⟨(.type PySem.W.SL.s2766695959194262286x5), .none, (.seq ⟨[(.str s6 265), (.str s21 266)]⟩ 0), ⟨[]⟩⟩
noncomputable def o81 (P : Params) : Obj := ⟨(.type PySem.W.SL.s2766695959194262286x5), .none, (.seq ⟨[]⟩ 0), ⟨[]⟩⟩
noncomputable def o82 (P : Params) : Obj := ⟨.none, .none, (.func ⟨s24, s362, fPar (dM 2 7), .stmts (fBody (dM 2 7)), fScope (dM 2 7), 0, [], .none, .none, .none, .none, .none, .none, .none, 0⟩), ⟨[]⟩⟩
noncomputable def o83 (P : Params) : Obj := ⟨(.type PySem.W.SL.s5856160107412720595x4), .none, (.fields ⟨[(.str s24 262), (.str s362 263), (.str s191 264), (.int (.ofNat 38) 0), (.int (.ofNat 2) 0), (.int (.ofNat 0) 0), (.int (.ofNat 0) 0), (.int (.ofNat 3) 0), (.ref 78), (.bool true), (.int (.ofNat 181) 0), (.ref 79), .none, (.ref 80), (.ref 81), (.ref 82), (.int (.ofNat 267) 0), (.int (.ofNat 38) 0), (.str s191 268)]⟩), ⟨[]⟩⟩
noncomputable def o84 (P : Params) : Obj := ⟨(.type PySem.W.SL.s7174869446012820540x8), .none, (.func ⟨s24, s362, fPar (dM 2 7), .stmts (fBody (dM 2 7)), fScope (dM 2 7), 3, [], .none, .none, .none, (.str s3 194), .none, (.ref 83), .none, 0⟩), ⟨[]⟩⟩
noncomputable def o85 (P : Params) : Obj := ⟨(.type PySem.W.SL.s2766695959194262286x5), .none, (.seq ⟨[]⟩ 0), ⟨[]⟩⟩
noncomputable def o86 (P : Params) : Obj := ⟨.none, .none, (.fields ⟨[]⟩), ⟨[]⟩⟩
noncomputable def o87 (P : Params) : Obj := ⟨(.type PySem.W.SL.s2766695959194262286x5), .none, (.seq ⟨[(.str s6 273), (.str s21 274)]⟩ 0), ⟨[]⟩⟩
noncomputable def o88 (P : Params) : Obj := ⟨(.type PySem.W.SL.s2766695959194262286x5), .none, (.seq ⟨[]⟩ 0), ⟨[]⟩⟩
noncomputable def o89 (P : Params) : Obj := ⟨.none, .none, (.func ⟨s25, s363, fPar (dM 2 8), .stmts (fBody (dM 2 8)), fScope (dM 2 8), 0, [], .none, .none, .none, .none, .none, .none, .none, 0⟩), ⟨[]⟩⟩
noncomputable def o90 (P : Params) : Obj := ⟨(.type PySem.W.SL.s5856160107412720595x4), .none, (.fields ⟨[(.str s25 270), (.str s363 271), (.str s191 272), (.int (.ofNat 41) 0), (.int (.ofNat 2) 0), (.int (.ofNat 0) 0), (.int (.ofNat 0) 0), (.int (.ofNat 3) 0), (.ref 85), (.bool true), (.int (.ofNat 181) 0), (.ref 86), .none, (.ref 87), (.ref 88), (.ref 89), (.int (.ofNat 275) 0), (.int (.ofNat 41) 0), (.str s191 276)]⟩), ⟨[]⟩⟩
noncomputable def o91 (P : Params) : Obj := ⟨(.type PySem.W.SL.s7174869446012820540x8), .none, (.func ⟨s25, s363, fPar (dM 2 8), .stmts (fBody (dM 2 8)), fScope (dM 2 8), 3, [], .none, .none, .none, (.str s3 194), .none, (.ref 90), .none, 0⟩), ⟨[]⟩⟩
noncomputable def o92 (P : Params) : Obj := ⟨(.type PySem.W.SL.s2766695959194262286x5), .none, (.seq ⟨[]⟩ 0), ⟨[]⟩⟩
noncomputable def o93 (P : Params) : Obj := ⟨.none, .none, (.fields ⟨[]⟩), ⟨[]⟩⟩
noncomputable def o94 (P : Params) : Obj := ⟨(.type PySem.W.SL.s2766695959194262286x5), .none, (.seq ⟨[(.str s6 281), (.str s21 282)]⟩ 0), ⟨[]⟩⟩
noncomputable def o95 (P : Params) : Obj := ⟨(.type PySem.W.SL.s2766695959194262286x5), .none, (.seq ⟨[]⟩ 0), ⟨[]⟩⟩
noncomputable def o96 (P : Params) : Obj := ⟨.none, .none, (.func ⟨s26, s364, fPar (dM 2 9), .stmts (fBody (dM 2 9)), fScope (dM 2 9), 0, [], .none, .none, .none, .none, .none, .none, .none, 0⟩), ⟨[]⟩⟩
noncomputable def o97 (P : Params) : Obj := ⟨(.type PySem.W.SL.s5856160107412720595x4), .none, (.fields ⟨[(.str s26 278), (.str s364 279), (.str s191 280), (.int (.ofNat 49) 0), (.int (.ofNat 2) 0), (.int (.ofNat 0) 0), (.int (.ofNat 0) 0), (.int (.ofNat 3) 0), (.ref 92), (.bool true), (.int (.ofNat 181) 0), (.ref 93), .none, (.ref 94), (.ref 95), (.ref 96), (.int (.ofNat 283) 0), (.int (.ofNat 49) 0), (.str s191 284)]⟩), ⟨[]⟩⟩
noncomputable def o98 (P : Params) : Obj := ⟨(.type PySem.W.SL.s7174869446012820540x8), .none, (.func ⟨s26, s364, fPar (dM 2 9), .stmts (fBody (dM 2 9)), fScope (dM 2 9), 3, [], .none, .none, .none, (.str s3 194), .none, (.ref 97), .none, 0⟩), ⟨[]⟩⟩
noncomputable def o99 (P : Params) : Obj := ⟨(.type PySem.W.SL.s2766695959194262286x5), .none, (.seq ⟨[]⟩ 0), ⟨[]⟩⟩
noncomputable def o100 (P : Params) : Obj := ⟨.none, .none, (.fields ⟨[]⟩), ⟨[]⟩⟩
noncomputable def o101 (P : Params) : Obj := ⟨(.type PySem.W.SL.s2766695959194262286x5), .none, (.seq ⟨[(.str s6 289), (.str s21 290)]⟩ 0), ⟨[]⟩⟩
noncomputable def o102 (P : Params) : Obj := ⟨(.type PySem.W.SL.s2766695959194262286x5), .none, (.seq ⟨[]⟩ 0), ⟨[]⟩⟩
noncomputable def o103 (P : Params) : Obj := ⟨.none, .none, (.func ⟨s27, s365, fPar (dM 2 10), .stmts (fBody (dM 2 10)), fScope (dM 2 10), 0, [], .none, .none, .none, .none, .none, .none, .none, 0⟩), ⟨[]⟩⟩
noncomputable def o104 (P : Params) : Obj := ⟨(.type PySem.W.SL.s5856160107412720595x4), .none, (.fields ⟨[(.str s27 286), (.str s365 287), (.str s191 288), (.int (.ofNat 52) 0), (.int (.ofNat 2) 0), (.int (.ofNat 0) 0), (.int (.ofNat 0) 0), (.int (.ofNat 3) 0), (.ref 99), (.bool true), (.int (.ofNat 181) 0), (.ref 100), .none, (.ref 101), (.ref 102), (.ref 103), (.int (.ofNat 291) 0), (.int (.ofNat 52) 0), (.str s191 292)]⟩), ⟨[]⟩⟩
noncomputable def o105 (P : Params) : Obj := ⟨(.type PySem.W.SL.s7174869446012820540x8), .none, (.func ⟨s27, s365, fPar (dM 2 10), .stmts (fBody (dM 2 10)), fScope (dM 2 10), 3, [], .none, .none, .none, (.str s3 194), .none, (.ref 104), .none, 0⟩), ⟨[]⟩⟩
noncomputable def o106 (P : Params) : Obj := ⟨(.type PySem.W.SL.s2766695959194262286x5), .none, (.seq ⟨[]⟩ 0), ⟨[]⟩⟩
noncomputable def o107 (P : Params) : Obj := ⟨.none, .none, (.fields ⟨[]⟩), ⟨[]⟩⟩
noncomputable def o108 (P : Params) : Obj := ⟨(.type PySem.W.SL.s2766695959194262286x5), .none, (.seq ⟨[(.str s6 297), (.str s21 298)]⟩ 0), ⟨[]⟩⟩
noncomputable def o109 (P : Params) : Obj := ⟨(.type PySem.W.SL.s2766695959194262286x5), .none, (.seq ⟨[]⟩ 0), ⟨[]⟩⟩
noncomputable def o110 (P : Params) : Obj := ⟨.none, .none, (.func ⟨s28, s366, fPar (dM 2 11), .stmts (fBody (dM 2 11)), fScope (dM 2 11), 0, [], .none, .none, .none, .none, .none, .none, .none, 0⟩), ⟨[]⟩⟩
noncomputable def o111 (P : Params) : Obj := ⟨(.type PySem.W.SL.s5856160107412720595x4), .none, (.fields ⟨[(.str s28 294), (.str s366 295), (.str s191 296), (.int (.ofNat 55) 0), (.int (.ofNat 2) 0), (.int (.ofNat 0) 0), (.int (.ofNat 0) 0), (.int (.ofNat 3) 0), (.ref 106), (.bool true), (.int (.ofNat 181) 0), (.ref 107), .none, (.ref 108), (.ref 109), (.ref 110), (.int (.ofNat 299) 0), (.int (.ofNat 55) 0), (.str s191 300)]⟩), ⟨[]⟩⟩
noncomputable def o112 (P : Params) : Obj := ⟨(.type PySem.W.SL.s7174869446012820540x8), .none, (.func ⟨s28, s366, fPar (dM 2 11), .stmts (fBody (dM 2 11)), fScope (dM 2 11), 3, [], .none, .none, .none, (.str s3 194), .none, (.ref 111), .none, 0⟩), ⟨[]⟩⟩
noncomputable def o113 (P : Params) : Obj := ⟨(.type PySem.W.SL.s2766695959194262286x5), .none, (.seq ⟨[]⟩ 0), ⟨[]⟩⟩
noncomputable def o114 (P : Params) : Obj := ⟨.none, .none, (.fields ⟨[]⟩), ⟨[]⟩⟩
noncomputable def o115 (P : Params) : Obj := ⟨(.type PySem.W.SL.s2766695959194262286x5), .none, (.seq ⟨[(.str s6 305), (.str s21 306)]⟩ 0), ⟨[]⟩⟩
noncomputable def o116 (P : Params) : Obj := ⟨(.type PySem.W.SL.s2766695959194262286x5), .none, (.seq ⟨[]⟩ 0), ⟨[]⟩⟩
noncomputable def o117 (P : Params) : Obj := ⟨.none, .none, (.func ⟨s29, s367, fPar (dM 2 12), .stmts (fBody (dM 2 12)), fScope (dM 2 12), 0, [], .none, .none, .none, .none, .none, .none, .none, 0⟩), ⟨[]⟩⟩
noncomputable def o118 (P : Params) : Obj := ⟨(.type PySem.W.SL.s5856160107412720595x4), .none, (.fields ⟨[(.str s29 302), (.str s367 303), (.str s191 304), (.int (.ofNat 58) 0), (.int (.ofNat 2) 0), (.int (.ofNat 0) 0), (.int (.ofNat 0) 0), (.int (.ofNat 3) 0), (.ref 113), (.bool true), (.int (.ofNat 181) 0), (.ref 114), .none, (.ref 115), (.ref 116), (.ref 117), (.int (.ofNat 307) 0), (.int (.ofNat 58) 0), (.str s191 308)]⟩), ⟨[]⟩⟩
noncomputable def o119 (P : Params) : Obj := ⟨(.type PySem.W.SL.s7174869446012820540x8), .none, (.func ⟨s29, s367, fPar (dM 2 12), .stmts (fBody (dM 2 12)), fScope (dM 2 12), 3, [], .none, .none, .none, (.str s3 194), .none, (.ref 118), .none, 0⟩), ⟨[]⟩⟩
noncomputable def o120 (P : Params) : Obj := ⟨(.type PySem.W.SL.s2766695959194262286x5), .none, (.seq ⟨[]⟩ 0), ⟨[]⟩⟩
noncomputable def o121 (P : Params) : Obj := ⟨.none, .none, (.fields ⟨[]⟩), ⟨[]⟩⟩
noncomputable def o122 (P : Params) : Obj := ⟨(.type PySem.W.SL.s2766695959194262286x5), .none, (.seq ⟨[(.str s6 313), (.str s21 314)]⟩ 0), ⟨[]⟩⟩
noncomputable def o123 (P : Params) : Obj := ⟨(.type PySem.W.SL.s2766695959194262286x5), .none, (.seq ⟨[]⟩ 0), ⟨[]⟩⟩
noncomputable def o124 (P : Params) : Obj := ⟨.none, .none, (.func ⟨s31, s368, fPar (dM 2 13), .stmts (fBody (dM 2 13)), fScope (dM 2 13), 0, [], .none, .none, .none, .none, .none, .none, .none, 0⟩), ⟨[]⟩⟩
noncomputable def o125 (P : Params) : Obj := ⟨(.type PySem.W.SL.s5856160107412720595x4), .none, (.fields ⟨[(.str s31 310), (.str s368 311), (.str s191 312), (.int (.ofNat 64) 0), (.int (.ofNat 2) 0), (.int (.ofNat 0) 0), (.int (.ofNat 0) 0), (.int (.ofNat 3) 0), (.ref 120), (.bool true), (.int (.ofNat 181) 0), (.ref 121), .none, (.ref 122), (.ref 123), (.ref 124), (.int (.ofNat 315) 0), (.int (.ofNat 64) 0), (.str s191 316)]⟩), ⟨[]⟩⟩
noncomputable def o126 (P : Params) : Obj := ⟨(.type PySem.W.SL.s7174869446012820540x8), .none, (.func ⟨s31, s368, fPar (dM 2 13), .stmts (fBody (dM 2 13)), fScope (dM 2 13), 3, [], .none, .none, .none, (.str s3 194), .none, (.ref 125), .none, 0⟩), ⟨[]⟩⟩
noncomputable def o127 (P : Params) : Obj := ⟨(.type PySem.W.SL.s2766695959194262286x5), .none, (.seq ⟨[]⟩ 0), ⟨[]⟩⟩
noncomputable def o128 (P : Params) : Obj := ⟨.none, .none, (.fields ⟨[]⟩), ⟨[]⟩⟩
noncomputable def o129 (P : Params) : Obj := ⟨(.type PySem.W.SL.s2766695959194262286x5), .none, (.seq ⟨[(.str s6 321), (.str s33 322), (.str s34 323), (.str s35 324), (.str s36 325), (.str s37 326), (.str s38 327), (.str s39 328), (.str s40 329), (.str s1 330), (.str s41 331), (.str s42 332), (.str s44 333), (.str s45 334)]⟩ 0), ⟨[]⟩⟩
noncomputable def o130 (P : Params) : Obj := ⟨(.type PySem.W.SL.s2766695959194262286x5), .none, (.seq ⟨[]⟩ 0), ⟨[]⟩⟩
noncomputable def o131 (P : Params) : Obj := ⟨.none, .none, (.func ⟨s32, s369, fPar (dM 2 14), .stmts (fBody (dM 2 14)), fScope (dM 2 14), 0, [], .none, .none, .none, .none, .none, .none, .none, 0⟩), ⟨[]⟩⟩
noncomputable def o132 (P : Params) : Obj := ⟨(.type PySem.W.SL.s5856160107412720595x4), .none, (.fields ⟨[(.str s32 318), (.str s369 319), (.str s191 320), (.int (.ofNat 67) 0), (.int (.ofNat 2) 0), (.int (.ofNat 0) 0), (.int (.ofNat 0) 0), (.int (.ofNat 3) 0), (.ref 127), (.bool true), (.int (.ofNat 181) 0), (.ref 128), .none, (.ref 129), (.ref 130), (.ref 131), (.int (.ofNat 335) 0), (.int (.ofNat 67) 0), (.str s191 336)]⟩), ⟨[]⟩⟩
noncomputable def o133 (P : Params) : Obj := ⟨(.type PySem.W.SL.s7174869446012820540x8), .none, (.func ⟨s32, s369, fPar (dM 2 14), .stmts (fBody (dM 2 14)), fScope (dM 2 14), 3, [], .none, .none, .none, (.str s3 194), .none, (.ref 132), .none, 0⟩), ⟨[]⟩⟩
noncomputable def o134 (P : Params) : Obj := ⟨(.type PySem.W.SL.s2766695959194262286x5), .none, (.seq ⟨[]⟩ 0), ⟨[]⟩⟩
noncomputable def o135 (P : Params) : Obj := ⟨.none, .none, (.fields ⟨[]⟩), ⟨[]⟩⟩
noncomputable def o136 (P : Params) : Obj := ⟨(.type PySem.W.SL.s2766695959194262286x5), .none, (.seq ⟨[(.str s6 341), (.str s33 342), (.str s34 343), (.str s35 344), (.str s36 345), (.str s51 346), (.str s38 347), (.str s39 348), (.str s40 349), (.str s1 350), (.str s41 351), (.str s42 352), (.str s44 353), (.str s45 354)]⟩ 0), ⟨[]⟩⟩
noncomputable def o137 (P : Params) : Obj := ⟨(.type PySem.W.SL.s2766695959194262286x5), .none, (.seq ⟨[]⟩ 0), ⟨[]⟩⟩
noncomputable def o138 (P : Params) : Obj := ⟨.none, .none, (.func ⟨s50, s370, fPar (dM 2 15), .stmts (fBody (dM 2 15)), fScope (dM 2 15), 0, [], .none, .none, .none, .none, .none, .none, .none, 0⟩), ⟨[]⟩⟩
noncomputable def o139 (P : Params) : Obj := ⟨(.type PySem.W.SL.s5856160107412720595x4), .none, (.fields ⟨[(.str s50 338), (.str s370 339), (.str s191 340), (.int (.ofNat 112) 0), (.int (.ofNat 2) 0), (.int (.ofNat 0) 0), (.int (.ofNat 0) 0), (.int (.ofNat 3) 0), (.ref 134), (.bool true), (.int (.ofNat 181) 0), (.ref 135), .none, (.ref 136), (.ref 137), (.ref 138), (.int (.ofNat 355) 0), (.int (.ofNat 112) 0), (.str s191 356)]⟩), ⟨[]⟩⟩
noncomputable def o140 (P : Params) : Obj := ⟨(.type PySem.W.SL.s7174869446012820540x8), .none, (.func ⟨s50, s370, fPar (dM 2 15), .stmts (fBody (dM 2 15)), fScope (dM 2 15), 3, [], .none, .none, .none, (.str s3 194), .none, (.ref 139), .none, 0⟩), ⟨[]⟩⟩
noncomputable def o141 (P : Params) : Obj := ⟨(.type PySem.W.SL.s2766695959194262286x5), .none, (.seq ⟨[]⟩ 0), ⟨[]⟩⟩
noncomputable def o142 (P : Params) : Obj := ⟨.none, .none, (.fields ⟨[]⟩), ⟨[]⟩⟩
noncomputable def o143 (P : Params) : Obj := ⟨(.type PySem.W.SL.s2766695959194262286x5), .none, (.seq ⟨[(.str s6 361), (.str s53 362), (.str s54 363), (.str s21 364), (.str s55 365)]⟩ 0), ⟨[]⟩⟩
noncomputable def o144 (P : Params) : Obj := ⟨(.type PySem.W.SL.s2766695959194262286x5), .none, (.seq ⟨[]⟩ 0), ⟨[]⟩⟩
noncomputable def o145 (P : Params) : Obj := ⟨.none, .none, (.func ⟨s52, s371, fPar (dM 2 16), .stmts (fBody (dM 2 16)), fScope (dM 2 16), 0, [], .none, .none, .none, .none, .none, .none, .none, 0⟩), ⟨[]⟩⟩
noncomputable def o146 (P : Params) : Obj := ⟨(.type PySem.W.SL.s5856160107412720595x4), .none, (.fields ⟨[(.str s52 358), (.str s371 359), (.str s191 360), (.int (.ofNat 157) 0), (.int (.ofNat 4) 0), (.int (.ofNat 0) 0), (.int (.ofNat 0) 0), (.int (.ofNat 3) 0), (.ref 141), (.bool true), (.int (.ofNat 181) 0), (.ref 142), .none, (.ref 143), (.ref 144), (.ref 145), (.int (.ofNat 366) 0), (.int (.ofNat 157) 0), (.str s191 367)]⟩), ⟨[]⟩⟩
noncomputable def o147 (P : Params) : Obj := ⟨(.type PySem.W.SL.s7174869446012820540x8), .none, (.func ⟨s52, s371, fPar (dM 2 16), .stmts (fBody (dM 2 16)), fScope (dM 2 16), 3, [], .none, .none, .none, (.str s3 194), .none, (.ref 146), .none, 0⟩), ⟨[]⟩⟩
noncomputable def o148 (P : Params) : Obj := ⟨(.type PySem.W.SL.s2766695959194262286x5), .none, (.seq ⟨[]⟩ 0), ⟨[]⟩⟩
noncomputable def o149 (P : Params) : Obj := ⟨.none, .none, (.fields ⟨[]⟩), ⟨[]⟩⟩
noncomputable def o150 (P : Params) : Obj := ⟨(.type PySem.W.SL.s2766695959194262286x5), .none, (.seq ⟨[(.str s6 372), (.str s21 373)]⟩ 0), ⟨[]⟩⟩
noncomputable def o151 (P : Params) : Obj := ⟨(.type PySem.W.SL.s2766695959194262286x5), .none, (.seq ⟨[]⟩ 0), ⟨[]⟩⟩
noncomputable def o152 (P : Params) : Obj := ⟨.none, .none, (.func ⟨s56, s372, fPar (dM 2 17), .stmts (fBody (dM 2 17)), fScope (dM 2 17), 0, [], .none, .none, .none, .none, .none, .none, .none, 0⟩), ⟨[]⟩⟩
noncomputable def o153 (P : Params) : Obj := ⟨(.type PySem.W.SL.s5856160107412720595x4), .none, (.fields ⟨[(.str s56 369), (.str s372 370), (.str s191 371), (.int (.ofNat 167) 0), (.int (.ofNat 2) 0), (.int (.ofNat 0) 0), (.int (.ofNat 0) 0), (.int (.ofNat 3) 0), (.ref 148), (.bool true), (.int (.ofNat 181) 0), (.ref 149), .none, (.ref 150), (.ref 151), (.ref 152), (.int (.ofNat 374) 0), (.int (.ofNat 167) 0), (.str s191 375)]⟩), ⟨[]⟩⟩
noncomputable def o154 (P : Params) : Obj := ⟨(.type PySem.W.SL.s7174869446012820540x8), .none, (.func ⟨s56, s372, fPar (dM 2 17), .stmts (fBody (dM 2 17)), fScope (dM 2 17), 3, [], .none, .none, .none, (.str s3 194), .none, (.ref 153), .none, 0⟩), ⟨[]⟩⟩
noncomputable def o155 (P : Params) : Obj := ⟨(.type PySem.W.SL.s2766695959194262286x5), .none, (.seq ⟨[]⟩ 0), ⟨[]⟩⟩
noncomputable def o156 (P : Params) : Obj := ⟨.none, .none, (.fields ⟨[]⟩), ⟨[]⟩⟩
noncomputable def o157 (P : Params) : Obj := ⟨(.type PySem.W.SL.s2766695959194262286x5), .none, (.seq ⟨[(.str s6 380)]⟩ 0), ⟨[]⟩⟩
noncomputable def o158 (P : Params) : Obj := ⟨(.type PySem.W.SL.s2766695959194262286x5), .none, (.seq ⟨[]⟩ 0), ⟨[]⟩⟩
noncomputable def o159 (P : Params) : Obj := ⟨.none, .none, (.func ⟨s57, s373, fPar (dM 2 18), .stmts (fBody (dM 2 18)), fScope (dM 2 18), 0, [], .none, .none, .none, .none, .none, .none, .none, 0⟩), ⟨[]⟩⟩
noncomputable def o160 (P : Params) : Obj := ⟨(.type PySem.W.SL.s5856160107412720595x4), .none, (.fields ⟨[(.str s57 377), (.str s373 378), (.str s191 379), (.int (.ofNat 175) 0), (.int (.ofNat 1) 0), (.int (.ofNat 0) 0), (.int (.ofNat 0) 0), (.int (.ofNat 3) 0), (.ref 155), (.bool true), (.int (.ofNat 181) 0), (.ref 156), .none, (.ref 157), (.ref 158), (.ref 159), (.int (.ofNat 381) 0), (.int (.ofNat 175) 0), (.str s191 382)]⟩), ⟨[]⟩⟩
noncomputable def o161 (P : Params) : Obj := ⟨(.type PySem.W.SL.s7174869446012820540x8), .none, (.func ⟨s57, s373, fPar (dM 2 18), .stmts (fBody (dM 2 18)), fScope (dM 2 18), 3, [], .none, .none, .none, (.str s3 194), .none, (.ref 160), .none, 0⟩), ⟨[]⟩⟩
noncomputable def o162 (P : Params) : Obj := ⟨(.type PySem.W.SL.s2766695959194262286x5), .none, (.seq ⟨[]⟩ 0), ⟨[]⟩⟩
noncomputable def o163 (P : Params) : Obj := ⟨.none, .none, (.fields ⟨[]⟩), ⟨[]⟩⟩
noncomputable def o164 (P : Params) : Obj := ⟨(.type PySem.W.SL.s2766695959194262286x5), .none, (.seq ⟨[(.str s6 387), (.str s53 388), (.str s54 389), (.str s21 390)]⟩ 0), ⟨[]⟩⟩
noncomputable def o165 (P : Params) : Obj := ⟨(.type PySem.W.SL.s2766695959194262286x5), .none, (.seq ⟨[]⟩ 0), ⟨[]⟩⟩
noncomputable def o166 (P : Params) : Obj := ⟨.none, .none, (.func ⟨s58, s374, fPar (dM 2 19), .stmts (fBody (dM 2 19)), fScope (dM 2 19), 0, [], .none, .none, .none, .none, .none, .none, .none, 0⟩), ⟨[]⟩⟩
noncomputable def o167 (P : Params) : Obj := ⟨(.type PySem.W.SL.s5856160107412720595x4), .none, (.fields ⟨[(.str s58 384), (.str s374 385), (.str s191 386), (.int (.ofNat 178) 0), (.int (.ofNat 4) 0), (.int (.ofNat 0) 0), (.int (.ofNat 0) 0), (.int (.ofNat 3) 0), (.ref 162), (.bool true), (.int (.ofNat 181) 0), (.ref 163), .none, (.ref 164), (.ref 165), (.ref 166), (.int (.ofNat 391) 0), (.int (.ofNat 178) 0), (.str s191 392)]⟩), ⟨[]⟩⟩
noncomputable def o168 (P : Params) : Obj := ⟨(.type PySem.W.SL.s7174869446012820540x8), .none, (.func ⟨s58, s374, fPar (dM 2 19), .stmts (fBody (dM 2 19)), fScope (dM 2 19), 3, [], .none, .none, .none, (.str s3 194), .none, (.ref 167), .none, 0⟩), ⟨[]⟩⟩
noncomputable def o169 (P : Params) : Obj := ⟨(.type PySem.W.SL.s2766695959194262286x5), .none, (.seq ⟨[]⟩ 0), ⟨[]⟩⟩
noncomputable def o170 (P : Params) : Obj := ⟨.none, .none, (.fields ⟨[]⟩), ⟨[]⟩⟩
noncomputable def o171 (P : Params) : Obj := ⟨(.type PySem.W.SL.s2766695959194262286x5), .none, (.seq ⟨[(.str s6 397)]⟩ 0), ⟨[]⟩⟩
noncomputable def o172 (P : Params) : Obj := ⟨(.type PySem.W.SL.s2766695959194262286x5), .none, (.seq ⟨[]⟩ 0), ⟨[]⟩⟩
noncomputable def o173 (P : Params) : Obj := ⟨.none, .none, (.func ⟨s59, s375, fPar (dM 2 20), .stmts (fBody (dM 2 20)), fScope (dM 2 20), 0, [], .none, .none, .none, .none, .none, .none, .none, 0⟩), ⟨[]⟩⟩
noncomputable def o174 (P : Params) : Obj := ⟨(.type PySem.W.SL.s5856160107412720595x4), .none, (.fields ⟨[(.str s59 394), (.str s375 395), (.str s191 396), (.int (.ofNat 181) 0), (.int (.ofNat 1) 0), (.int (.ofNat 0) 0), (.int (.ofNat 0) 0), (.int (.ofNat 3) 0), (.ref 169), (.bool true), (.int (.ofNat 181) 0), (.ref 170), .none, (.ref 171), (.ref 172), (.ref 173), (.int (.ofNat 398) 0), (.int (.ofNat 181) 0), (.str s191 399)]⟩), ⟨[]⟩⟩
noncomputable def o175 (P : Params) : Obj := ⟨(.type PySem.W.SL.s7174869446012820540x8), .none, (.func ⟨s59, s375, fPar (dM 2 20), .stmts (fBody (dM 2 20)), fScope (dM 2 20), 3, [], .none, .none, .none, (.str s3 194), .none, (.ref 174), .none, 0⟩), ⟨[]⟩⟩
noncomputable def o176 (P : Params) : Obj := ⟨(.type PySem.W.SL.s2766695959194262286x5), .none, (.seq ⟨[]⟩ 0), ⟨[]⟩⟩
noncomputable def o177 (P : Params) : Obj := ⟨.none, .none, (.fields ⟨[]⟩), ⟨[]⟩⟩
noncomputable def o178 (P : Params) : Obj := ⟨(.type PySem.W.SL.s2766695959194262286x5), .none, (.seq ⟨[(.str s6 404)]⟩ 0), ⟨[]⟩⟩
noncomputable def o179 (P : Params) : Obj := ⟨(.type PySem.W.SL.s2766695959194262286x5), .none, (.seq ⟨[]⟩ 0), ⟨[]⟩⟩
noncomputable def o180 (P : Params) : Obj := ⟨.none, .none, (.func ⟨s60, s376, fPar (dM 2 21), .stmts (fBody (dM 2 21)), fScope (dM 2 21), 0, [], .none, .none, .none, .none, .none, .none, .none, 0⟩), ⟨[]⟩⟩
noncomputable def o181 (P : Params) : Obj := ⟨(.type PySem.W.SL.s5856160107412720595x4), .none, (.fields ⟨[(.str s60 401), (.str s376 402), (.str s191 403), (.int (.ofNat 184) 0), (.int (.ofNat 1) 0), (.int (.ofNat 0) 0), (.int (.ofNat 0) 0), (.int (.ofNat 3) 0), (.ref 176), (.bool true), (.int (.ofNat 181) 0), (.ref 177), .none, (.ref 178), (.ref 179), (.ref 180), (.int (.ofNat 405) 0), (.int (.ofNat 184) 0), (.str s191 406)]⟩), ⟨[]⟩⟩
noncomputable def o182 (P : Params) : Obj := ⟨(.type PySem.W.SL.s7174869446012820540x8), .none, (.func ⟨s60, s376, fPar (dM 2 21), .stmts (fBody (dM 2 21)), fScope (dM 2 21), 3, [], .none, .none, .none, (.str s3 194), .none, (.ref 181), .none, 0⟩), ⟨[]⟩⟩
noncomputable def o183 (P : Params) : Obj := ⟨(.type PySem.W.SL.s2766695959194262286x5), .none, (.seq ⟨[]⟩ 0), ⟨[]⟩⟩
noncomputable def o184 (P : Params) : Obj := ⟨.none, .none, (.fields ⟨[]⟩), ⟨[]⟩⟩
noncomputable def o185 (P : Params) : Obj := ⟨(.type PySem.W.SL.s2766695959194262286x5), .none, (.seq ⟨[(.str s6 411), (.str s62 412)]⟩ 0), ⟨[]⟩⟩
noncomputable def o186 (P : Params) : Obj := ⟨(.type PySem.W.SL.s2766695959194262286x5), .none, (.seq ⟨[]⟩ 0), ⟨[]⟩⟩
noncomputable def o187 (P : Params) : Obj := ⟨.none, .none, (.func ⟨s61, s377, fPar (dM 2 22), .stmts (fBody (dM 2 22)), fScope (dM 2 22), 0, [], .none, .none, .none, .none, .none, .none, .none, 0⟩), ⟨[]⟩⟩
noncomputable def o188 (P : Params) : Obj := ⟨(.type PySem.W.SL.s5856160107412720595x4), .none, (.fields ⟨[(.str s61 408), (.str s377 409), (.str s191 410), (.int (.ofNat 187) 0), (.int (.ofNat 2) 0), (.int (.ofNat 0) 0), (.int (.ofNat 0) 0), (.int (.ofNat 3) 0), (.ref 183), (.bool true), (.int (.ofNat 181) 0), (.ref 184), .none, (.ref 185), (.ref 186), (.ref 187), (.int (.ofNat 413) 0), (.int (.ofNat 187) 0), (.str s191 414)]⟩), ⟨[]⟩⟩
noncomputable def o189 (P : Params) : Obj := ⟨(.type PySem.W.SL.s7174869446012820540x8), .none, (.func ⟨s61, s377, fPar (dM 2 22), .stmts (fBody (dM 2 22)), fScope (dM 2 22), 3, [], .none, .none, .none, (.str s3 194), .none, (.ref 188), .none, 0⟩), ⟨[]⟩⟩
noncomputable def o190 (P : Params) : Obj := ⟨(.type PySem.W.SL.s2766695959194262286x5), .none, (.seq ⟨[]⟩ 0), ⟨[]⟩⟩
noncomputable def o191 (P : Params) : Obj := ⟨.none, .none, (.fields ⟨[]⟩), ⟨[]⟩⟩
noncomputable def o192 (P : Params) : Obj := ⟨(.type PySem.W.SL.s2766695959194262286x5), .none, (.seq ⟨[(.str s6 419), (.str s64 420)]⟩ 0), ⟨[]⟩⟩
noncomputable def o193 (P : Params) : Obj := ⟨(.type PySem.W.SL.s2766695959194262286x5), .none, (.seq ⟨[]⟩ 0), ⟨[]⟩⟩
noncomputable def o194 (P : Params) : Obj := ⟨.none, .none, (.func ⟨s63, s378, fPar (dM 2 23), .stmts (fBody (dM 2 23)), fScope (dM 2 23), 0, [], .none, .none, .none, .none, .none, .none, .none, 0⟩), ⟨[]⟩⟩
noncomputable def o195 (P : Params) : Obj := ⟨(.type PySem.W.SL.s5856160107412720595x4), .none, (.fields ⟨[(.str s63 416), (.str s378 417), (.str s191 418), (.int (.ofNat 190) 0), (.int (.ofNat 2) 0), (.int (.ofNat 0) 0), (.int (.ofNat 0) 0), (.int (.ofNat 3) 0), (.ref 190), (.bool true), (.int (.ofNat 181) 0), (.ref 191), .none, (.ref 192), (.ref 193), (.ref 194), (.int (.ofNat 421) 0), (.int (.ofNat 190) 0), (.str s191 422)]⟩), ⟨[]⟩⟩
noncomputable def o196 (P : Params) : Obj := ⟨(.type PySem.W.SL.s7174869446012820540x8), .none, (.func ⟨s63, s378, fPar (dM 2 23), .stmts (fBody (dM 2 23)), fScope (dM 2 23), 3, [], .none, .none, .none, (.str s3 194), .none, (.ref 195), .none, 0⟩), ⟨[]⟩⟩
noncomputable def o197 (P : Params) : Obj := ⟨(.type PySem.W.SL.s2766695959194262286x5), .none, (.seq ⟨[(.str s15 424), (.str s10 425), (.str s11 426), (.str s16 427), (.str s12 428), (.str s14 429)]⟩ 0), ⟨[]⟩⟩
noncomputable def o198 (P : Params) : Obj := ⟨(.type PySem.W.SL.s14018661285674007319x4), .none, (.dict ⟨[⟨(PySem.PyData.keyHash P s351), (.str s351 203), (.str s3 194)⟩, ⟨(PySem.PyData.keyHash P s353), (.str s353 207), (.int (.ofNat 5) 206)⟩, ⟨(PySem.PyData.keyHash P s5), (.str s5 214), (.ref 35)⟩, ⟨(PySem.PyData.keyHash P s7), (.str s7 222), (.ref 42)⟩, ⟨(PySem.PyData.keyHash P s17), (.str s17 229), (.ref 49)⟩, ⟨(PySem.PyData.keyHash P s18), (.str s18 237), (.ref 56)⟩, ⟨(PySem.PyData.keyHash P s20), (.str s20 245), (.ref 63)⟩, ⟨(PySem.PyData.keyHash P s22), (.str s22 253), (.ref 70)⟩, ⟨(PySem.PyData.keyHash P s23), (.str s23 261), (.ref 77)⟩, ⟨(PySem.PyData.keyHash P s24), (.str s24 269), (.ref 84)⟩, ⟨(PySem.PyData.keyHash P s25), (.str s25 277), (.ref 91)⟩, ⟨(PySem.PyData.keyHash P s26), (.str s26 285), (.ref 98)⟩, ⟨(PySem.PyData.keyHash P s27), (.str s27 293), (.ref 105)⟩, ⟨(PySem.PyData.keyHash P s28), (.str s28 301), (.ref 112)⟩, ⟨(PySem.PyData.keyHash P s29), (.str s29 309), (.ref 119)⟩, ⟨(PySem.PyData.keyHash P s31), (.str s31 317), (.ref 126)⟩, ⟨(PySem.PyData.keyHash P s32), (.str s32 337), (.ref 133)⟩, ⟨(PySem.PyData.keyHash P s50), (.str s50 357), (.ref 140)⟩, ⟨(PySem.PyData.keyHash P s52), (.str s52 368), (.ref 147)⟩, ⟨(PySem.PyData.keyHash P s56), (.str s56 376), (.ref 154)⟩, ⟨(PySem.PyData.keyHash P s57), (.str s57 383), (.ref 161)⟩, ⟨(PySem.PyData.keyHash P s58), (.str s58 393), (.ref 168)⟩, ⟨(PySem.PyData.keyHash P s59), (.str s59 400), (.ref 175)⟩, ⟨(PySem.PyData.keyHash P s60), (.str s60 407), (.ref 182)⟩, ⟨(PySem.PyData.keyHash P s61), (.str s61 415), (.ref 189)⟩, ⟨(PySem.PyData.keyHash P s63), (.str s63 423), (.ref 196)⟩, ⟨(PySem.PyData.keyHash P s354), (.str s354 430), (.ref 197)⟩, ⟨(PySem.PyData.keyHash P s379), (.str s379 432), (.ref 200)⟩, ⟨(PySem.PyData.keyHash P s380), (.str s380 434), (.ref 201)⟩, ⟨(PySem.PyData.keyHash P s193), (.str s193 435), .none⟩]⟩ 4), ⟨[]⟩⟩
noncomputable def o199 (P : Params) : Obj := ⟨(.type PySem.W.SL.s17162191345867700912x4), .none, (.cls ⟨s4, [(.type PySem.W.SL.s2742458400755230247x6)], [(.ref 199), (.type PySem.W.SL.s2742458400755230247x6)], 198, s4, true, [], [], false, none, false⟩), ⟨[.none, .none, (.some (.str s4 196)), (.some (.str s4 204)), (.some (.builtin PySem.W.SL.s11443829558043349243x14)), (.some (.bool true))]⟩⟩
noncomputable def o200 (P : Params) : Obj := ⟨(.type PySem.W.SL.s14755015743595814543x17), .none, (.fields ⟨[(.str s379 431), (.ref 199), (.builtin PySem.W.SL.s6511155373996960695x17), (.builtin PySem.W.SL.s12411053484034534018x21)]⟩), ⟨[]⟩⟩
noncomputable def o201 (P : Params) : Obj := ⟨(.type PySem.W.SL.s14755015743595814543x17), .none, (.fields ⟨[(.str s380 433), (.ref 199), (.builtin PySem.W.SL.s10220274742760427390x26), .none]⟩), ⟨[]⟩⟩
noncomputable def o202 (P : Params) : Obj := ⟨(.type PySem.W.SL.s4290257624100764138x5), .none, (.fields ⟨[(.ref 199), (.ref 199), (.ref 199)]⟩), ⟨[]⟩⟩
noncomputable def o203 (P : Params) : Obj := ⟨(.type PySem.W.SL.s11030030927630378310x26), .none, (.fields ⟨[(.builtin PySem.W.SL.s4860613602091757760x24), (.ref 199)]⟩), ⟨[]⟩⟩
noncomputable def o3v3 (P : Params) : Obj := ⟨(.type PySem.W.SL.s14018661285674007319x4), .none, (.dict ⟨[⟨(PySem.PyData.keyHash P s2), (.str s2 165), (.str s67 473)⟩, ⟨(PySem.PyData.keyHash P s193), (.str s193 166), .none⟩, ⟨(PySem.PyData.keyHash P s194), (.str s194 167), .none⟩, ⟨(PySem.PyData.keyHash P s195), (.str s195 168), (.builtin PySem.W.SL.s7097527257260152453x26)⟩, ⟨(PySem.PyData.keyHash P s196), (.str s196 169), .none⟩, ⟨(PySem.PyData.keyHash P s346), (.str s346 170), (.ref 6)⟩, ⟨(PySem.PyData.keyHash P s347), (.str s347 171), (.ref 4)⟩, ⟨(PySem.PyData.keyHash P s348), (.str s348 173), (.str s191 172)⟩, ⟨(PySem.PyData.keyHash P s349), (.str s349 174), .none⟩, ⟨(PySem.PyData.keyHash P s0), (.str s0 193), (.ref 21)⟩, ⟨(PySem.PyData.keyHash P s4), (.str s4 437), (.ref 199)⟩, ⟨(PySem.PyData.keyHash P s66), (.str s66 472), (.ref 220)⟩]⟩ 12), ⟨[]⟩⟩
noncomputable def o12v3 (P : Params) : Obj := ⟨.none, .none, (.fields ⟨[(.int (.ofNat 1) 0), (.int (.ofNat 0) 0), (.ref 20), (.int (.ofNat 5) 0), (.int (.ofNat 0) 0), (.ref 27), (.int (.ofNat 193) 0), (.int (.ofNat 0) 0), (.ref 209)]⟩), ⟨[]⟩⟩
noncomputable def o204 (P : Params) : Obj := ⟨(.type PySem.W.SL.s2766695959194262286x5), .none, (.seq ⟨[]⟩ 0), ⟨[]⟩⟩
noncomputable def o205 (P : Params) : Obj := ⟨(.type PySem.W.SL.s11030030927630378310x26), .none, (.fields ⟨[(.builtin PySem.W.SL.s10062305145149207511x16), (.type PySem.W.SL.s17162191345867700912x4)]⟩), ⟨[]⟩⟩
noncomputable def o206 (P : Params) : Obj := ⟨(.type PySem.W.SL.s14018661285674007319x4), .none, (.dict ⟨[⟨(PySem.PyData.keyHash P s351), (.str s351 447), (.str s65 438)⟩, ⟨(PySem.PyData.keyHash P s352), (.str s352 449), (.str s66 448)⟩, ⟨(PySem.PyData.keyHash P s353), (.str s353 451), (.int (.ofNat 193) 450)⟩, ⟨(PySem.PyData.keyHash P s5), (.str s5 461), (.ref 217)⟩, ⟨(PySem.PyData.keyHash P s354), (.str s354 465), (.ref 218)⟩]⟩ 5), ⟨[]⟩⟩
noncomputable def o207 (P : Params) : Obj := ⟨(.type PySem.W.SL.s2766695959194262286x5), .none, (.seq ⟨[]⟩ 0), ⟨[]⟩⟩
noncomputable def o208 (P : Params) : Obj := ⟨.none, .none, (.fields ⟨[(.int (.ofNat 195) 0), (.int (.ofNat 4) 0), (.ref 216)]⟩), ⟨[]⟩⟩
noncomputable def o209 (P : Params) : Obj := ⟨(.type PySem.W.SL.s5856160107412720595x4), .none, (.fields ⟨[(.str s66 442), (.str s66 443), (.str s191 444), (.int (.ofNat 193) 0), (.int (.ofNat 0) 0), (.int (.ofNat 0) 0), (.int (.ofNat 0) 0), (.int (.ofNat 0) 0), (.ref 207), (.bool false), (.int (.ofNat 181) 0), (.ref 208), .none, .none, .none, .none, (.int (.ofNat 445) 0), (.int (.ofNat 193) 0), (.str s191 446)]⟩), ⟨[]⟩⟩
noncomputable def o210 (P : Params) : Obj := ⟨(.type PySem.W.SL.s658472552662922059x5), .none, .plain, ⟨[(.some (.ref 209)), (.some (.ref 3)), (.some (.ref 206)), .none, (.some (.str s65 438)), .none, (.some (.ref 0))]⟩⟩
noncomputable def o211 (P : Params) : Obj := ⟨(.type PySem.W.SL.s2766695959194262286x5), .none, (.seq ⟨[]⟩ 0), ⟨[]⟩⟩
noncomputable def o212 (P : Params) : Obj := ⟨.none, .none, (.fields ⟨[]⟩), ⟨[]⟩⟩
noncomputable def o213 (P : Params) : Obj := ⟨(.type PySem.W.SL.s2766695959194262286x5), .none, (.seq ⟨[(.str s6 455), (.str s21 456), (.str s49 457), (.str s48 458)]⟩ 0), ⟨[]⟩⟩
noncomputable def o214 (P : Params) : Obj := ⟨(.type PySem.W.SL.s2766695959194262286x5), .none, (.seq ⟨[]⟩ 0), ⟨[]⟩⟩
noncomputable def o215 (P : Params) : Obj := ⟨.none, .none, (.func ⟨s5, s381, fPar (dM 4 0), .stmts (fBody (dM 4 0)), fScope (dM 4 0), 0, [], .none, .none, .none, .none, .none, .none, .none, 0⟩), ⟨[]⟩⟩
noncomputable def o216 (P : Params) : Obj := ⟨(.type PySem.W.SL.s5856160107412720595x4), .none, (.fields ⟨[(.str s5 452), (.str s381 453), (.str s191 454), (.int (.ofNat 195) 0), (.int (.ofNat 4) 0), (.int (.ofNat 0) 0), (.int (.ofNat 0) 0), (.int (.ofNat 3) 0), (.ref 211), (.bool true), (.int (.ofNat 181) 0), (.ref 212), .none, (.ref 213), (.ref 214), (.ref 215), (.int (.ofNat 459) 0), (.int (.ofNat 195) 0), (.str s191 460)]⟩), ⟨[]⟩⟩
noncomputable def o217 (P : Params) : Obj := ⟨(.type PySem.W.SL.s7174869446012820540x8), .none, (.func ⟨s5, s381, fPar (dM 4 0), .stmts (fBody (dM 4 0)), fScope (dM 4 0), 3, [], .none, .none, .none, (.str s65 438), .none, (.ref 216), .none, 0⟩), ⟨[]⟩⟩
noncomputable def o218 (P : Params) : Obj := ⟨(.type PySem.W.SL.s2766695959194262286x5), .none, (.seq ⟨[(.str s48 462), (.str s21 463), (.str s49 464)]⟩ 0), ⟨[]⟩⟩
noncomputable def o219 (P : Params) : Obj := ⟨(.type PySem.W.SL.s14018661285674007319x4), .none, (.dict ⟨[⟨(PySem.PyData.keyHash P s351), (.str s351 447), (.str s65 438)⟩, ⟨(PySem.PyData.keyHash P s353), (.str s353 451), (.int (.ofNat 193) 450)⟩, ⟨(PySem.PyData.keyHash P s5), (.str s5 461), (.ref 217)⟩, ⟨(PySem.PyData.keyHash P s354), (.str s354 465), (.ref 218)⟩, ⟨(PySem.PyData.keyHash P s379), (.str s379 467), (.ref 221)⟩, ⟨(PySem.PyData.keyHash P s380), (.str s380 469), (.ref 222)⟩, ⟨(PySem.PyData.keyHash P s193), (.str s193 470), .none⟩]⟩ 4), ⟨[]⟩⟩
noncomputable def o220 (P : Params) : Obj := ⟨(.type PySem.W.SL.s17162191345867700912x4), .none, (.cls ⟨s66, [(.type PySem.W.SL.s2742458400755230247x6)], [(.ref 220), (.type PySem.W.SL.s2742458400755230247x6)], 219, s66, true, [], [], false, none, false⟩), ⟨[.none, .none, (.some (.str s66 440)), (.some (.str s66 448)), (.some (.builtin PySem.W.SL.s11443829558043349243x14)), (.some (.bool true))]⟩⟩
noncomputable def o221 (P : Params) : Obj := ⟨(.type PySem.W.SL.s14755015743595814543x17), .none, (.fields ⟨[(.str s379 466), (.ref 220), (.builtin PySem.W.SL.s6511155373996960695x17), (.builtin PySem.W.SL.s12411053484034534018x21)]⟩), ⟨[]⟩⟩
noncomputable def o222 (P : Params) : Obj := ⟨(.type PySem.W.SL.s14755015743595814543x17), .none, (.fields ⟨[(.str s380 468), (.ref 220), (.builtin PySem.W.SL.s10220274742760427390x26), .none]⟩), ⟨[]⟩⟩
noncomputable def o223 (P : Params) : Obj := ⟨(.type PySem.W.SL.s4290257624100764138x5), .none, (.fields ⟨[(.ref 220), (.ref 220), (.ref 220)]⟩), ⟨[]⟩⟩
noncomputable def o224 (P : Params) : Obj := ⟨(.type PySem.W.SL.s11030030927630378310x26), .none, (.fields ⟨[(.builtin PySem.W.SL.s4860613602091757760x24), (.ref 220)]⟩), ⟨[]⟩⟩
noncomputable def o12v4 (P : Params) : Obj := ⟨.none, .none, (.fields ⟨[(.int (.ofNat 1) 0), (.int (.ofNat 0) 0), (.ref 20), (.int (.ofNat 5) 0), (.int (.ofNat 0) 0), (.ref 27), (.int (.ofNat 193) 0), (.int (.ofNat 0) 0), (.ref 209), (.int (.ofNat 200) 0), (.int (.ofNat 0) 0), (.ref 230)]⟩), ⟨[]⟩⟩
noncomputable def o225 (P : Params) : Obj := ⟨(.type PySem.W.SL.s2766695959194262286x5), .none, (.seq ⟨[(.ref 199)]⟩ 0), ⟨[]⟩⟩
noncomputable def o226 (P : Params) : Obj := ⟨(.type PySem.W.SL.s11030030927630378310x26), .none, (.fields ⟨[(.builtin PySem.W.SL.s10062305145149207511x16), (.type PySem.W.SL.s17162191345867700912x4)]⟩), ⟨[]⟩⟩
noncomputable def o227 (P : Params) : Obj := ⟨(.type PySem.W.SL.s14018661285674007319x4), .none, (.dict ⟨[⟨(PySem.PyData.keyHash P s351), (.str s351 482), (.str s67 473)⟩, ⟨(PySem.PyData.keyHash P s352), (.str s352 484), (.str s68 483)⟩, ⟨(PySem.PyData.keyHash P s353), (.str s353 486), (.int (.ofNat 200) 485)⟩]⟩ 3), ⟨[]⟩⟩
noncomputable def o228 (P : Params) : Obj := ⟨(.type PySem.W.SL.s2766695959194262286x5), .none, (.seq ⟨[]⟩ 0), ⟨[]⟩⟩
noncomputable def o229 (P : Params) : Obj := ⟨.none, .none, (.fields ⟨[]⟩), ⟨[]⟩⟩
noncomputable def o230 (P : Params) : Obj := ⟨(.type PySem.W.SL.s5856160107412720595x4), .none, (.fields ⟨[(.str s68 477), (.str s68 478), (.str s191 479), (.int (.ofNat 200) 0), (.int (.ofNat 0) 0), (.int (.ofNat 0) 0), (.int (.ofNat 0) 0), (.int (.ofNat 0) 0), (.ref 228), (.bool false), (.int (.ofNat 181) 0), (.ref 229), .none, .none, .none, .none, (.int (.ofNat 480) 0), (.int (.ofNat 200) 0), (.str s191 481)]⟩), ⟨[]⟩⟩
noncomputable def o231 (P : Params) : Obj := ⟨(.type PySem.W.SL.s658472552662922059x5), .none, .plain, ⟨[(.some (.ref 230)), (.some (.ref 3)), (.some (.ref 227)), .none, (.some (.str s67 473)), .none, (.some (.ref 0))]⟩⟩
noncomputable def o227v1 (P : Params) : Obj := ⟨(.type PySem.W.SL.s14018661285674007319x4), .none, (.dict ⟨[⟨(PySem.PyData.keyHash P s351), (.str s351 482), (.str s67 473)⟩, ⟨(PySem.PyData.keyHash P s352), (.str s352 484), (.str s68 483)⟩, ⟨(PySem.PyData.keyHash P s353), (.str s353 486), (.int (.ofNat 200) 485)⟩, ⟨(PySem.PyData.keyHash P s69), (.str s69 497), (.ref 232)⟩]⟩ 4), ⟨[]⟩⟩
noncomputable def o227v2 (P : Params) : Obj := ⟨(.type PySem.W.SL.s14018661285674007319x4), .none, (.dict ⟨[⟨(PySem.PyData.keyHash P s351), (.str s351 482), (.str s67 473)⟩, ⟨(PySem.PyData.keyHash P s352), (.str s352 484), (.str s68 483)⟩, ⟨(PySem.PyData.keyHash P s353), (.str s353 486), (.int (.ofNat 200) 485)⟩, ⟨(PySem.PyData.keyHash P s69), (.str s69 497), (.ref 232)⟩, ⟨(PySem.PyData.keyHash P s74), (.str s74 499), (.int (.ofNat 0) 498)⟩, ⟨(PySem.PyData.keyHash P s75), (.str s75 501), (.int (.ofNat 0) 500)⟩, ⟨(PySem.PyData.keyHash P s76), (.str s76 508), (.ref 239)⟩, ⟨(PySem.PyData.keyHash P s78), (.str s78 515), (.ref 246)⟩, ⟨(PySem.PyData.keyHash P s80), (.str s80 524), (.ref 253)⟩, ⟨(PySem.PyData.keyHash P s85), (.str s85 540), (.ref 260)⟩, ⟨(PySem.PyData.keyHash P s96), (.str s96 550), (.ref 267)⟩, ⟨(PySem.PyData.keyHash P s101), (.str s101 557), (.ref 274)⟩]⟩ 12), ⟨[]⟩⟩
noncomputable def o229v1 (P : Params) : Obj := ⟨.none, .none, (.fields ⟨[(.int (.ofNat 205) 0), (.int (.ofNat 4) 0), (.ref 238), (.int (.ofNat 214) 0), (.int (.ofNat 4) 0), (.ref 245), (.int (.ofNat 223) 0), (.int (.ofNat 4) 0), (.ref 252), (.int (.ofNat 262) 0), (.int (.ofNat 4) 0), (.ref 259), (.int (.ofNat 358) 0), (.int (.ofNat 4) 0), (.ref 266), (.int (.ofNat 424) 0), (.int (.ofNat 4) 0), (.ref 273)]⟩), ⟨[]⟩⟩
noncomputable def o233 (P : Params) : Obj := ⟨(.type PySem.W.SL.s2766695959194262286x5), .none, (.seq ⟨[]⟩ 0), ⟨[]⟩⟩
noncomputable def o234 (P : Params) : Obj := ⟨.none, .none, (.fields ⟨[]⟩), ⟨[]⟩⟩
noncomputable def o235 (P : Params) : Obj := ⟨(.type PySem.W.SL.s2766695959194262286x5), .none, (.seq ⟨[(.str s6 505)]⟩ 0), ⟨[]⟩⟩
noncomputable def o236 (P : Params) : Obj := ⟨(.type PySem.W.SL.s2766695959194262286x5), .none, (.seq ⟨[]⟩ 0), ⟨[]⟩⟩
noncomputable def o237 (P : Params) : Obj := ⟨.none, .none, (.func ⟨s76, s382, fPar (dM 6 3), .stmts (fBody (dM 6 3)), fScope (dM 6 3), 0, [], .none, .none, .none, .none, .none, .none, .none, 0⟩), ⟨[]⟩⟩
noncomputable def o238 (P : Params) : Obj := ⟨(.type PySem.W.SL.s5856160107412720595x4), .none, (.fields ⟨[(.str s76 502), (.str s382 503), (.str s191 504), (.int (.ofNat 205) 0), (.int (.ofNat 1) 0), (.int (.ofNat 0) 0), (.int (.ofNat 0) 0), (.int (.ofNat 3) 0), (.ref 233), (.bool true), (.int (.ofNat 181) 0), (.ref 234), .none, (.ref 235), (.ref 236), (.ref 237), (.int (.ofNat 506) 0), (.int (.ofNat 205) 0), (.str s191 507)]⟩), ⟨[]⟩⟩
noncomputable def o239 (P : Params) : Obj := ⟨(.type PySem.W.SL.s7174869446012820540x8), .none, (.func ⟨s76, s382, fPar (dM 6 3), .stmts (fBody (dM 6 3)), fScope (dM 6 3), 3, [], .none, .none, .none, (.str s67 473), .none, (.ref 238), .none, 0⟩), ⟨[]⟩⟩
noncomputable def o240 (P : Params) : Obj := ⟨(.type PySem.W.SL.s2766695959194262286x5), .none, (.seq ⟨[]⟩ 0), ⟨[]⟩⟩
noncomputable def o241 (P : Params) : Obj := ⟨.none, .none, (.fields ⟨[]⟩), ⟨[]⟩⟩
noncomputable def o242 (P : Params) : Obj := ⟨(.type PySem.W.SL.s2766695959194262286x5), .none, (.seq ⟨[(.str s6 512)]⟩ 0), ⟨[]⟩⟩
noncomputable def o243 (P : Params) : Obj := ⟨(.type PySem.W.SL.s2766695959194262286x5), .none, (.seq ⟨[]⟩ 0), ⟨[]⟩⟩
noncomputable def o244 (P : Params) : Obj := ⟨.none, .none, (.func ⟨s78, s383, fPar (dM 6 4), .stmts (fBody (dM 6 4)), fScope (dM 6 4), 0, [], .none, .none, .none, .none, .none, .none, .none, 0⟩), ⟨[]⟩⟩
noncomputable def o245 (P : Params) : Obj := ⟨(.type PySem.W.SL.s5856160107412720595x4), .none, (.fields ⟨[(.str s78 509), (.str s383 510), (.str s191 511), (.int (.ofNat 214) 0), (.int (.ofNat 1) 0), (.int (.ofNat 0) 0), (.int (.ofNat 0) 0), (.int (.ofNat 3) 0), (.ref 240), (.bool true), (.int (.ofNat 181) 0), (.ref 241), .none, (.ref 242), (.ref 243), (.ref 244), (.int (.ofNat 513) 0), (.int (.ofNat 214) 0), (.str s191 514)]⟩), ⟨[]⟩⟩
noncomputable def o246 (P : Params) : Obj := ⟨(.type PySem.W.SL.s7174869446012820540x8), .none, (.func ⟨s78, s383, fPar (dM 6 4), .stmts (fBody (dM 6 4)), fScope (dM 6 4), 3, [], .none, .none, .none, (.str s67 473), .none, (.ref 245), .none, 0⟩), ⟨[]⟩⟩
noncomputable def o247 (P : Params) : Obj := ⟨(.type PySem.W.SL.s2766695959194262286x5), .none, (.seq ⟨[]⟩ 0), ⟨[]⟩⟩
noncomputable def o248 (P : Params) : Obj := ⟨.none, .none, (.fields ⟨[]⟩), ⟨[]⟩⟩
noncomputable def o249 (P : Params) : Obj := ⟨(.type PySem.W.SL.s2766695959194262286x5), .none, (.seq ⟨[(.str s6 519), (.str s81 520), (.str s83 521)]⟩ 0), ⟨[]⟩⟩
noncomputable def o250 (P : Params) : Obj := ⟨(.type PySem.W.SL.s2766695959194262286x5), .none, (.seq ⟨[]⟩ 0), ⟨[]⟩⟩
noncomputable def o251 (P : Params) : Obj := ⟨.none, .none, (.func ⟨s80, s384, fPar (dM 6 5), .stmts (fBody (dM 6 5)), fScope (dM 6 5), 0, [], .none, .none, .none, .none, .none, .none, .none, 0⟩), ⟨[]⟩⟩
noncomputable def o252 (P : Params) : Obj := ⟨(.type PySem.W.SL.s5856160107412720595x4), .none, (.fields ⟨[(.str s80 516), (.str s384 517), (.str s191 518), (.int (.ofNat 223) 0), (.int (.ofNat 1) 0), (.int (.ofNat 0) 0), (.int (.ofNat 0) 0), (.int (.ofNat 3) 0), (.ref 247), (.bool true), (.int (.ofNat 181) 0), (.ref 248), .none, (.ref 249), (.ref 250), (.ref 251), (.int (.ofNat 522) 0), (.int (.ofNat 223) 0), (.str s191 523)]⟩), ⟨[]⟩⟩
noncomputable def o253 (P : Params) : Obj := ⟨(.type PySem.W.SL.s7174869446012820540x8), .none, (.func ⟨s80, s384, fPar (dM 6 5), .stmts (fBody (dM 6 5)), fScope (dM 6 5), 3, [], .none, .none, .none, (.str s67 473), .none, (.ref 252), .none, 0⟩), ⟨[]⟩⟩
noncomputable def o254 (P : Params) : Obj := ⟨(.type PySem.W.SL.s2766695959194262286x5), .none, (.seq ⟨[]⟩ 0), ⟨[]⟩⟩
noncomputable def o255 (P : Params) : Obj := ⟨.none, .none, (.fields ⟨[]⟩), ⟨[]⟩⟩
noncomputable def o256 (P : Params) : Obj := ⟨(.type PySem.W.SL.s2766695959194262286x5), .none, (.seq ⟨[(.str s6 528), (.str s81 529), (.str s83 530), (.str s88 531), (.str s89 532), (.str s90 533), (.str s91 534), (.str s92 535), (.str s94 536), (.str s95 537)]⟩ 0), ⟨[]⟩⟩
noncomputable def o257 (P : Params) : Obj := ⟨(.type PySem.W.SL.s2766695959194262286x5), .none, (.seq ⟨[]⟩ 0), ⟨[]⟩⟩
noncomputable def o258 (P : Params) : Obj := ⟨.none, .none, (.func ⟨s85, s385, fPar (dM 6 6), .stmts (fBody (dM 6 6)), fScope (dM 6 6), 0, [], .none, .none, .none, .none, .none, .none, .none, 0⟩), ⟨[]⟩⟩
noncomputable def o259 (P : Params) : Obj := ⟨(.type PySem.W.SL.s5856160107412720595x4), .none, (.fields ⟨[(.str s85 525), (.str s385 526), (.str s191 527), (.int (.ofNat 262) 0), (.int (.ofNat 1) 0), (.int (.ofNat 0) 0), (.int (.ofNat 0) 0), (.int (.ofNat 3) 0), (.ref 254), (.bool true), (.int (.ofNat 181) 0), (.ref 255), .none, (.ref 256), (.ref 257), (.ref 258), (.int (.ofNat 538) 0), (.int (.ofNat 262) 0), (.str s191 539)]⟩), ⟨[]⟩⟩
noncomputable def o260 (P : Params) : Obj := ⟨(.type PySem.W.SL.s7174869446012820540x8), .none, (.func ⟨s85, s385, fPar (dM 6 6), .stmts (fBody (dM 6 6)), fScope (dM 6 6), 3, [], .none, .none, .none, (.str s67 473), .none, (.ref 259), .none, 0⟩), ⟨[]⟩⟩
noncomputable def o261 (P : Params) : Obj := ⟨(.type PySem.W.SL.s2766695959194262286x5), .none, (.seq ⟨[]⟩ 0), ⟨[]⟩⟩
noncomputable def o262 (P : Params) : Obj := ⟨.none, .none, (.fields ⟨[]⟩), ⟨[]⟩⟩
noncomputable def o263 (P : Params) : Obj := ⟨(.type PySem.W.SL.s2766695959194262286x5), .none, (.seq ⟨[(.str s6 544), (.str s81 545), (.str s83 546), (.str s88 547)]⟩ 0), ⟨[]⟩⟩
noncomputable def o264 (P : Params) : Obj := ⟨(.type PySem.W.SL.s2766695959194262286x5), .none, (.seq ⟨[]⟩ 0), ⟨[]⟩⟩
noncomputable def o265 (P : Params) : Obj := ⟨.none, .none, (.func ⟨s96, s386, fPar (dM 6 7), .stmts (fBody (dM 6 7)), fScope (dM 6 7), 0, [], .none, .none, .none, .none, .none, .none, .none, 0⟩), ⟨[]⟩⟩
noncomputable def o266 (P : Params) : Obj := ⟨(.type PySem.W.SL.s5856160107412720595x4), .none, (.fields ⟨[(.str s96 541), (.str s386 542), (.str s191 543), (.int (.ofNat 358) 0), (.int (.ofNat 1) 0), (.int (.ofNat 0) 0), (.int (.ofNat 0) 0), (.int (.ofNat 3) 0), (.ref 261), (.bool true), (.int (.ofNat 181) 0), (.ref 262), .none, (.ref 263), (.ref 264), (.ref 265), (.int (.ofNat 548) 0), (.int (.ofNat 358) 0), (.str s191 549)]⟩), ⟨[]⟩⟩
noncomputable def o267 (P : Params) : Obj := ⟨(.type PySem.W.SL.s7174869446012820540x8), .none, (.func ⟨s96, s386, fPar (dM 6 7), .stmts (fBody (dM 6 7)), fScope (dM 6 7), 3, [], .none, .none, .none, (.str s67 473), .none, (.ref 266), .none, 0⟩), ⟨[]⟩⟩
noncomputable def o268 (P : Params) : Obj := ⟨(.type PySem.W.SL.s2766695959194262286x5), .none, (.seq ⟨[]⟩ 0), ⟨[]⟩⟩
noncomputable def o269 (P : Params) : Obj := ⟨.none, .none, (.fields ⟨[]⟩), ⟨[]⟩⟩
noncomputable def o270 (P : Params) : Obj := ⟨(.type PySem.W.SL.s2766695959194262286x5), .none, (.seq ⟨[(.str s6 554)]⟩ 0), ⟨[]⟩⟩
noncomputable def o271 (P : Params) : Obj := ⟨(.type PySem.W.SL.s2766695959194262286x5), .none, (.seq ⟨[]⟩ 0), ⟨[]⟩⟩
noncomputable def o272 (P : Params) : Obj := ⟨.none, .none, (.func ⟨s101, s387, fPar (dM 6 8), .stmts (fBody (dM 6 8)), fScope (dM 6 8), 0, [], .none, .none, .none, .none, .none, .none, .none, 0⟩), ⟨[]⟩⟩
noncomputable def o273 (P : Params) : Obj := ⟨(.type PySem.W.SL.s5856160107412720595x4), .none, (.fields ⟨[(.str s101 551), (.str s387 552), (.str s191 553), (.int (.ofNat 424) 0), (.int (.ofNat 1) 0), (.int (.ofNat 0) 0), (.int (.ofNat 0) 0), (.int (.ofNat 3) 0), (.ref 268), (.bool true), (.int (.ofNat 181) 0), (.ref 269), .none, (.ref 270), (.ref 271), (.ref 272), (.int (.ofNat 555) 0), (.int (.ofNat 424) 0), (.str s191 556)]⟩), ⟨[]⟩⟩
noncomputable def o274 (P : Params) : Obj := ⟨(.type PySem.W.SL.s7174869446012820540x8), .none, (.func ⟨s101, s387, fPar (dM 6 8), .stmts (fBody (dM 6 8)), fScope (dM 6 8), 3, [], .none, .none, .none, (.str s67 473), .none, (.ref 273), .none, 0⟩), ⟨[]⟩⟩
noncomputable def o227v3 (P : Params) : Obj := ⟨(.type PySem.W.SL.s14018661285674007319x4), .none, (.dict ⟨[⟨(PySem.PyData.keyHash P s351), (.str s351 482), (.str s67 473)⟩, ⟨(PySem.PyData.keyHash P s352), (.str s352 484), (.str s68 483)⟩, ⟨(PySem.PyData.keyHash P s353), (.str s353 486), (.int (.ofNat 200) 485)⟩, ⟨(PySem.PyData.keyHash P s69), (.str s69 497), (.ref 232)⟩, ⟨(PySem.PyData.keyHash P s74), (.str s74 499), (.int (.ofNat 0) 498)⟩, ⟨(PySem.PyData.keyHash P s75), (.str s75 501), (.int (.ofNat 0) 500)⟩, ⟨(PySem.PyData.keyHash P s76), (.str s76 508), (.ref 239)⟩, ⟨(PySem.PyData.keyHash P s78), (.str s78 515), (.ref 246)⟩, ⟨(PySem.PyData.keyHash P s80), (.str s80 524), (.ref 253)⟩, ⟨(PySem.PyData.keyHash P s85), (.str s85 540), (.ref 260)⟩, ⟨(PySem.PyData.keyHash P s96), (.str s96 550), (.ref 267)⟩, ⟨(PySem.PyData.keyHash P s101), (.str s101 557), (.ref 274)⟩, ⟨(PySem.PyData.keyHash P s77), (.str s77 600), (.ref 284)⟩]⟩ 13), ⟨[]⟩⟩
noncomputable def o275 (P : Params) : Obj := ⟨(.type PySem.W.SL.s14018661285674007319x4), .none, (.dict ⟨[⟨(PySem.PyData.keyHash P s21), (.str s21 567), (.str s102 558)⟩, ⟨(PySem.PyData.keyHash P s49), (.str s49 569), (.int (.negSucc 0) 560)⟩, ⟨(PySem.PyData.keyHash P s48), (.str s48 571), (.int (.ofNat 1) 561)⟩]⟩ 3), ⟨[]⟩⟩
noncomputable def o276 (P : Params) : Obj := ⟨(.ref 220), (.some 275), .plain, ⟨[]⟩⟩
noncomputable def o277 (P : Params) : Obj := ⟨(.type PySem.W.SL.s658472552662922059x5), .none, (.dict ⟨[⟨(PySem.PyData.keyHash P s6), (.str s6 562), (.ref 276)⟩, ⟨(PySem.PyData.keyHash P s21), (.str s21 563), (.str s102 558)⟩, ⟨(PySem.PyData.keyHash P s49), (.str s49 564), (.int (.negSucc 0) 560)⟩, ⟨(PySem.PyData.keyHash P s48), (.str s48 565), (.int (.ofNat 1) 561)⟩]⟩ 4), ⟨[]⟩⟩
noncomputable def o278 (P : Params) : Obj := ⟨(.type PySem.W.SL.s14018661285674007319x4), .none, (.dict ⟨[⟨(PySem.PyData.keyHash P s21), (.str s21 581), (.str s103 572)⟩, ⟨(PySem.PyData.keyHash P s49), (.str s49 583), (.int (.negSucc 0) 574)⟩, ⟨(PySem.PyData.keyHash P s48), (.str s48 585), (.int (.ofNat 1) 575)⟩]⟩ 3), ⟨[]⟩⟩
noncomputable def o279 (P : Params) : Obj := ⟨(.ref 220), (.some 278), .plain, ⟨[]⟩⟩
noncomputable def o280 (P : Params) : Obj := ⟨(.type PySem.W.SL.s658472552662922059x5), .none, (.dict ⟨[⟨(PySem.PyData.keyHash P s6), (.str s6 576), (.ref 279)⟩, ⟨(PySem.PyData.keyHash P s21), (.str s21 577), (.str s103 572)⟩, ⟨(PySem.PyData.keyHash P s49), (.str s49 578), (.int (.negSucc 0) 574)⟩, ⟨(PySem.PyData.keyHash P s48), (.str s48 579), (.int (.ofNat 1) 575)⟩]⟩ 4), ⟨[]⟩⟩
noncomputable def o281 (P : Params) : Obj := ⟨(.type PySem.W.SL.s14018661285674007319x4), .none, (.dict ⟨[⟨(PySem.PyData.keyHash P s21), (.str s21 595), (.str s104 586)⟩, ⟨(PySem.PyData.keyHash P s49), (.str s49 597), (.int (.negSucc 0) 588)⟩, ⟨(PySem.PyData.keyHash P s48), (.str s48 599), (.int (.ofNat 1) 589)⟩]⟩ 3), ⟨[]⟩⟩
noncomputable def o282 (P : Params) : Obj := ⟨(.ref 220), (.some 281), .plain, ⟨[]⟩⟩
noncomputable def o283 (P : Params) : Obj := ⟨(.type PySem.W.SL.s658472552662922059x5), .none, (.dict ⟨[⟨(PySem.PyData.keyHash P s6), (.str s6 590), (.ref 282)⟩, ⟨(PySem.PyData.keyHash P s21), (.str s21 591), (.str s104 586)⟩, ⟨(PySem.PyData.keyHash P s49), (.str s49 592), (.int (.negSucc 0) 588)⟩, ⟨(PySem.PyData.keyHash P s48), (.str s48 593), (.int (.ofNat 1) 589)⟩]⟩ 4), ⟨[]⟩⟩
noncomputable def o284 (P : Params) : Obj := ⟨(.type PySem.W.SL.s9222952809800978799x4), .none, (.seq ⟨[(.ref 276), (.ref 279), (.ref 282)]⟩ 0), ⟨[]⟩⟩
noncomputable def o227v4 (P : Params) : Obj := ⟨(.type PySem.W.SL.s14018661285674007319x4), .none, (.dict ⟨[⟨(PySem.PyData.keyHash P s351), (.str s351 482), (.str s67 473)⟩, ⟨(PySem.PyData.keyHash P s352), (.str s352 484), (.str s68 483)⟩, ⟨(PySem.PyData.keyHash P s353), (.str s353 486), (.int (.ofNat 200) 485)⟩, ⟨(PySem.PyData.keyHash P s69), (.str s69 497), (.ref 232)⟩, ⟨(PySem.PyData.keyHash P s74), (.str s74 499), (.int (.ofNat 0) 498)⟩, ⟨(PySem.PyData.keyHash P s75), (.str s75 501), (.int (.ofNat 0) 500)⟩, ⟨(PySem.PyData.keyHash P s76), (.str s76 508), (.ref 239)⟩, ⟨(PySem.PyData.keyHash P s78), (.str s78 515), (.ref 246)⟩, ⟨(PySem.PyData.keyHash P s80), (.str s80 524), (.ref 253)⟩, ⟨(PySem.PyData.keyHash P s85), (.str s85 540), (.ref 260)⟩, ⟨(PySem.PyData.keyHash P s96), (.str s96 550), (.ref 267)⟩, ⟨(PySem.PyData.keyHash P s101), (.str s101 557), (.ref 274)⟩, ⟨(PySem.PyData.keyHash P s77), (.str s77 600), (.ref 284)⟩, ⟨(PySem.PyData.keyHash P s79), (.str s79 643), (.ref 294)⟩]⟩ 14), ⟨[]⟩⟩
noncomputable def o285 (P : Params) : Obj := ⟨(.type PySem.W.SL.s14018661285674007319x4), .none, (.dict ⟨[⟨(PySem.PyData.keyHash P s21), (.str s21 610), (.str s105 601)⟩, ⟨(PySem.PyData.keyHash P s49), (.str s49 612), (.int (.negSucc 0) 603)⟩, ⟨(PySem.PyData.keyHash P s48), (.str s48 614), (.int (.ofNat 1) 604)⟩]⟩ 3), ⟨[]⟩⟩
noncomputable def o286 (P : Params) : Obj := ⟨(.ref 220), (.some 285), .plain, ⟨[]⟩⟩
noncomputable def o287 (P : Params) : Obj := ⟨(.type PySem.W.SL.s658472552662922059x5), .none, (.dict ⟨[⟨(PySem.PyData.keyHash P s6), (.str s6 605), (.ref 286)⟩, ⟨(PySem.PyData.keyHash P s21), (.str s21 606), (.str s105 601)⟩, ⟨(PySem.PyData.keyHash P s49), (.str s49 607), (.int (.negSucc 0) 603)⟩, ⟨(PySem.PyData.keyHash P s48), (.str s48 608), (.int (.ofNat 1) 604)⟩]⟩ 4), ⟨[]⟩⟩
noncomputable def o288 (P : Params) : Obj := ⟨(.type PySem.W.SL.s14018661285674007319x4), .none, (.dict ⟨[⟨(PySem.PyData.keyHash P s21), (.str s21 624), (.str s106 615)⟩, ⟨(PySem.PyData.keyHash P s49), (.str s49 626), (.int (.negSucc 0) 617)⟩, ⟨(PySem.PyData.keyHash P s48), (.str s48 628), (.int (.ofNat 1) 618)⟩]⟩ 3), ⟨[]⟩⟩
noncomputable def o289 (P : Params) : Obj := ⟨(.ref 220), (.some 288), .plain, ⟨[]⟩⟩
noncomputable def o290 (P : Params) : Obj := ⟨(.type PySem.W.SL.s658472552662922059x5), .none, (.dict ⟨[⟨(PySem.PyData.keyHash P s6), (.str s6 619), (.ref 289)⟩, ⟨(PySem.PyData.keyHash P s21), (.str s21 620), (.str s106 615)⟩, ⟨(PySem.PyData.keyHash P s49), (.str s49 621), (.int (.negSucc 0) 617)⟩, ⟨(PySem.PyData.keyHash P s48), (.str s48 622), (.int (.ofNat 1) 618)⟩]⟩ 4), ⟨[]⟩⟩
noncomputable def o291 (P : Params) : Obj := ⟨(.type PySem.W.SL.s14018661285674007319x4), .none, (.dict ⟨[⟨(PySem.PyData.keyHash P s21), (.str s21 638), (.str s107 629)⟩, ⟨(PySem.PyData.keyHash P s49), (.str s49 640), (.int (.negSucc 0) 631)⟩, ⟨(PySem.PyData.keyHash P s48), (.str s48 642), (.int (.ofNat 1) 632)⟩]⟩ 3), ⟨[]⟩⟩
noncomputable def o292 (P : Params) : Obj := ⟨(.ref 220), (.some 291), .plain, ⟨[]⟩⟩
noncomputable def o293 (P : Params) : Obj := ⟨(.type PySem.W.SL.s658472552662922059x5), .none, (.dict ⟨[⟨(PySem.PyData.keyHash P s6), (.str s6 633), (.ref 292)⟩, ⟨(PySem.PyData.keyHash P s21), (.str s21 634), (.str s107 629)⟩, ⟨(PySem.PyData.keyHash P s49), (.str s49 635), (.int (.negSucc 0) 631)⟩, ⟨(PySem.PyData.keyHash P s48), (.str s48 636), (.int (.ofNat 1) 632)⟩]⟩ 4), ⟨[]⟩⟩
noncomputable def o294 (P : Params) : Obj := ⟨(.type PySem.W.SL.s9222952809800978799x4), .none, (.seq ⟨[(.ref 286), (.ref 289), (.ref 292)]⟩ 0), ⟨[]⟩⟩
noncomputable def o227v5 (P : Params) : Obj := ⟨(.type PySem.W.SL.s14018661285674007319x4), .none, (.dict ⟨[⟨(PySem.PyData.keyHash P s351), (.str s351 482), (.str s67 473)⟩, ⟨(PySem.PyData.keyHash P s352), (.str s352 484), (.str s68 483)⟩, ⟨(PySem.PyData.keyHash P s353), (.str s353 486), (.int (.ofNat 200) 485)⟩, ⟨(PySem.PyData.keyHash P s69), (.str s69 497), (.ref 232)⟩, ⟨(PySem.PyData.keyHash P s74), (.str s74 499), (.int (.ofNat 0) 498)⟩, ⟨(PySem.PyData.keyHash P s75), (.str s75 501), (.int (.ofNat 0) 500)⟩, ⟨(PySem.PyData.keyHash P s76), (.str s76 508), (.ref 239)⟩, ⟨(PySem.PyData.keyHash P s78), (.str s78 515), (.ref 246)⟩, ⟨(PySem.PyData.keyHash P s80), (.str s80 524), (.ref 253)⟩, ⟨(PySem.PyData.keyHash P s85), (.str s85 540), (.ref 260)⟩, ⟨(PySem.PyData.keyHash P s96), (.str s96 550), (.ref 267)⟩, ⟨(PySem.PyData.keyHash P s101), (.str s101 557), (.ref 274)⟩, ⟨(PySem.PyData.keyHash P s77), (.str s77 600), (.ref 284)⟩, ⟨(PySem.PyData.keyHash P s79), (.str s79 643), (.ref 294)⟩, ⟨(PySem.PyData.keyHash P s82), (.str s82 672), (.ref 301)⟩]⟩ 15), ⟨[]⟩⟩
noncomputable def o295 (P : Params) : Obj := ⟨(.type PySem.W.SL.s14018661285674007319x4), .none, (.dict ⟨[⟨(PySem.PyData.keyHash P s21), (.str s21 653), (.str s34 644)⟩, ⟨(PySem.PyData.keyHash P s49), (.str s49 655), (.int (.negSucc 0) 646)⟩, ⟨(PySem.PyData.keyHash P s48), (.str s48 657), (.int (.ofNat 2) 647)⟩]⟩ 3), ⟨[]⟩⟩
noncomputable def o296 (P : Params) : Obj := ⟨(.ref 220), (.some 295), .plain, ⟨[]⟩⟩
noncomputable def o297 (P : Params) : Obj := ⟨(.type PySem.W.SL.s658472552662922059x5), .none, (.dict ⟨[⟨(PySem.PyData.keyHash P s6), (.str s6 648), (.ref 296)⟩, ⟨(PySem.PyData.keyHash P s21), (.str s21 649), (.str s34 644)⟩, ⟨(PySem.PyData.keyHash P s49), (.str s49 650), (.int (.negSucc 0) 646)⟩, ⟨(PySem.PyData.keyHash P s48), (.str s48 651), (.int (.ofNat 2) 647)⟩]⟩ 4), ⟨[]⟩⟩
noncomputable def o298 (P : Params) : Obj := ⟨(.type PySem.W.SL.s14018661285674007319x4), .none, (.dict ⟨[⟨(PySem.PyData.keyHash P s21), (.str s21 667), (.str s108 658)⟩, ⟨(PySem.PyData.keyHash P s49), (.str s49 669), (.int (.negSucc 0) 660)⟩, ⟨(PySem.PyData.keyHash P s48), (.str s48 671), (.int (.ofNat 1) 661)⟩]⟩ 3), ⟨[]⟩⟩
noncomputable def o299 (P : Params) : Obj := ⟨(.ref 220), (.some 298), .plain, ⟨[]⟩⟩
noncomputable def o300 (P : Params) : Obj := ⟨(.type PySem.W.SL.s658472552662922059x5), .none, (.dict ⟨[⟨(PySem.PyData.keyHash P s6), (.str s6 662), (.ref 299)⟩, ⟨(PySem.PyData.keyHash P s21), (.str s21 663), (.str s108 658)⟩, ⟨(PySem.PyData.keyHash P s49), (.str s49 664), (.int (.negSucc 0) 660)⟩, ⟨(PySem.PyData.keyHash P s48), (.str s48 665), (.int (.ofNat 1) 661)⟩]⟩ 4), ⟨[]⟩⟩
noncomputable def o301 (P : Params) : Obj := ⟨(.type PySem.W.SL.s9222952809800978799x4), .none, (.seq ⟨[(.ref 296), (.ref 299)]⟩ 0), ⟨[]⟩⟩
noncomputable def o227v6 (P : Params) : Obj := ⟨(.type PySem.W.SL.s14018661285674007319x4), .none, (.dict ⟨[⟨(PySem.PyData.keyHash P s351), (.str s351 482), (.str s67 473)⟩, ⟨(PySem.PyData.keyHash P s352), (.str s352 484), (.str s68 483)⟩, ⟨(PySem.PyData.keyHash P s353), (.str s353 486), (.int (.ofNat 200) 485)⟩, ⟨(PySem.PyData.keyHash P s69), (.str s69 497), (.ref 232)⟩, ⟨(PySem.PyData.keyHash P s74), (.str s74 499), (.int (.ofNat 0) 498)⟩, ⟨(PySem.PyData.keyHash P s75), (.str s75 501), (.int (.ofNat 0) 500)⟩, ⟨(PySem.PyData.keyHash P s76), (.str s76 508), (.ref 239)⟩, ⟨(PySem.PyData.keyHash P s78), (.str s78 515), (.ref 246)⟩, ⟨(PySem.PyData.keyHash P s80), (.str s80 524), (.ref 253)⟩, ⟨(PySem.PyData.keyHash P s85), (.str s85 540), (.ref 260)⟩, ⟨(PySem.PyData.keyHash P s96), (.str s96 550), (.ref 267)⟩, ⟨(PySem.PyData.keyHash P s101), (.str s101 557), (.ref 274)⟩, ⟨(PySem.PyData.keyHash P s77), (.str s77 600), (.ref 284)⟩, ⟨(PySem.PyData.keyHash P s79), (.str s79 643), (.ref 294)⟩, ⟨(PySem.PyData.keyHash P s82), (.str s82 672), (.ref 301)⟩, ⟨(PySem.PyData.keyHash P s86), (.str s86 809), (.ref 332)⟩]⟩ 16), ⟨[]⟩⟩
noncomputable def o302 (P : Params) : Obj := ⟨(.type PySem.W.SL.s14018661285674007319x4), .none, (.dict ⟨[⟨(PySem.PyData.keyHash P s21), (.str s21 682), (.str s109 673)⟩, ⟨(PySem.PyData.keyHash P s49), (.str s49 684), (.int (.negSucc 0) 675)⟩, ⟨(PySem.PyData.keyHash P s48), (.str s48 686), (.int (.ofNat 1) 676)⟩]⟩ 3), ⟨[]⟩⟩
noncomputable def o303 (P : Params) : Obj := ⟨(.ref 220), (.some 302), .plain, ⟨[]⟩⟩
noncomputable def o304 (P : Params) : Obj := ⟨(.type PySem.W.SL.s658472552662922059x5), .none, (.dict ⟨[⟨(PySem.PyData.keyHash P s6), (.str s6 677), (.ref 303)⟩, ⟨(PySem.PyData.keyHash P s21), (.str s21 678), (.str s109 673)⟩, ⟨(PySem.PyData.keyHash P s49), (.str s49 679), (.int (.negSucc 0) 675)⟩, ⟨(PySem.PyData.keyHash P s48), (.str s48 680), (.int (.ofNat 1) 676)⟩]⟩ 4), ⟨[]⟩⟩
noncomputable def o305 (P : Params) : Obj := ⟨(.type PySem.W.SL.s14018661285674007319x4), .none, (.dict ⟨[⟨(PySem.PyData.keyHash P s21), (.str s21 696), (.str s110 687)⟩, ⟨(PySem.PyData.keyHash P s49), (.str s49 698), (.int (.negSucc 0) 689)⟩, ⟨(PySem.PyData.keyHash P s48), (.str s48 700), (.int (.ofNat 3) 690)⟩]⟩ 3), ⟨[]⟩⟩
noncomputable def o306 (P : Params) : Obj := ⟨(.ref 220), (.some 305), .plain, ⟨[]⟩⟩
noncomputable def o307 (P : Params) : Obj := ⟨(.type PySem.W.SL.s658472552662922059x5), .none, (.dict ⟨[⟨(PySem.PyData.keyHash P s6), (.str s6 691), (.ref 306)⟩, ⟨(PySem.PyData.keyHash P s21), (.str s21 692), (.str s110 687)⟩, ⟨(PySem.PyData.keyHash P s49), (.str s49 693), (.int (.negSucc 0) 689)⟩, ⟨(PySem.PyData.keyHash P s48), (.str s48 694), (.int (.ofNat 3) 690)⟩]⟩ 4), ⟨[]⟩⟩
noncomputable def o308 (P : Params) : Obj := ⟨(.type PySem.W.SL.s14018661285674007319x4), .none, (.dict ⟨[⟨(PySem.PyData.keyHash P s21), (.str s21 710), (.str s111 701)⟩, ⟨(PySem.PyData.keyHash P s49), (.str s49 712), (.int (.negSucc 0) 703)⟩, ⟨(PySem.PyData.keyHash P s48), (.str s48 714), (.int (.ofNat 1) 704)⟩]⟩ 3), ⟨[]⟩⟩
noncomputable def o309 (P : Params) : Obj := ⟨(.ref 220), (.some 308), .plain, ⟨[]⟩⟩
noncomputable def o310 (P : Params) : Obj := ⟨(.type PySem.W.SL.s658472552662922059x5), .none, (.dict ⟨[⟨(PySem.PyData.keyHash P s6), (.str s6 705), (.ref 309)⟩, ⟨(PySem.PyData.keyHash P s21), (.str s21 706), (.str s111 701)⟩, ⟨(PySem.PyData.keyHash P s49), (.str s49 707), (.int (.negSucc 0) 703)⟩, ⟨(PySem.PyData.keyHash P s48), (.str s48 708), (.int (.ofNat 1) 704)⟩]⟩ 4), ⟨[]⟩⟩
noncomputable def o311 (P : Params) : Obj := ⟨(.type PySem.W.SL.s14018661285674007319x4), .none, (.dict ⟨[⟨(PySem.PyData.keyHash P s21), (.str s21 723), (.str s112 715)⟩, ⟨(PySem.PyData.keyHash P s49), (.str s49 725), (.int (.ofNat 2) 716)⟩, ⟨(PySem.PyData.keyHash P s48), (.str s48 727), (.int (.ofNat 5) 717)⟩]⟩ 3), ⟨[]⟩⟩
noncomputable def o312 (P : Params) : Obj := ⟨(.ref 220), (.some 311), .plain, ⟨[]⟩⟩
noncomputable def o313 (P : Params) : Obj := ⟨(.type PySem.W.SL.s658472552662922059x5), .none, (.dict ⟨[⟨(PySem.PyData.keyHash P s6), (.str s6 718), (.ref 312)⟩, ⟨(PySem.PyData.keyHash P s21), (.str s21 719), (.str s112 715)⟩, ⟨(PySem.PyData.keyHash P s49), (.str s49 720), (.int (.ofNat 2) 716)⟩, ⟨(PySem.PyData.keyHash P s48), (.str s48 721), (.int (.ofNat 5) 717)⟩]⟩ 4), ⟨[]⟩⟩
noncomputable def o314 (P : Params) : Obj := ⟨(.type PySem.W.SL.s14018661285674007319x4), .none, (.dict ⟨[⟨(PySem.PyData.keyHash P s21), (.str s21 736), (.str s113 728)⟩, ⟨(PySem.PyData.keyHash P s49), (.str s49 738), (.int (.ofNat 2) 729)⟩, ⟨(PySem.PyData.keyHash P s48), (.str s48 740), (.int (.ofNat 2) 730)⟩]⟩ 3), ⟨[]⟩⟩
noncomputable def o315 (P : Params) : Obj := ⟨(.ref 220), (.some 314), .plain, ⟨[]⟩⟩
noncomputable def o316 (P : Params) : Obj := ⟨(.type PySem.W.SL.s658472552662922059x5), .none, (.dict ⟨[⟨(PySem.PyData.keyHash P s6), (.str s6 731), (.ref 315)⟩, ⟨(PySem.PyData.keyHash P s21), (.str s21 732), (.str s113 728)⟩, ⟨(PySem.PyData.keyHash P s49), (.str s49 733), (.int (.ofNat 2) 729)⟩, ⟨(PySem.PyData.keyHash P s48), (.str s48 734), (.int (.ofNat 2) 730)⟩]⟩ 4), ⟨[]⟩⟩
noncomputable def o317 (P : Params) : Obj := ⟨(.type PySem.W.SL.s14018661285674007319x4), .none, (.dict ⟨[⟨(PySem.PyData.keyHash P s21), (.str s21 749), (.str s114 741)⟩, ⟨(PySem.PyData.keyHash P s49), (.str s49 751), (.int (.ofNat 4) 742)⟩, ⟨(PySem.PyData.keyHash P s48), (.str s48 753), (.int (.ofNat 1) 743)⟩]⟩ 3), ⟨[]⟩⟩
noncomputable def o318 (P : Params) : Obj := ⟨(.ref 220), (.some 317), .plain, ⟨[]⟩⟩
noncomputable def o319 (P : Params) : Obj := ⟨(.type PySem.W.SL.s658472552662922059x5), .none, (.dict ⟨[⟨(PySem.PyData.keyHash P s6), (.str s6 744), (.ref 318)⟩, ⟨(PySem.PyData.keyHash P s21), (.str s21 745), (.str s114 741)⟩, ⟨(PySem.PyData.keyHash P s49), (.str s49 746), (.int (.ofNat 4) 742)⟩, ⟨(PySem.PyData.keyHash P s48), (.str s48 747), (.int (.ofNat 1) 743)⟩]⟩ 4), ⟨[]⟩⟩
noncomputable def o320 (P : Params) : Obj := ⟨(.type PySem.W.SL.s14018661285674007319x4), .none, (.dict ⟨[⟨(PySem.PyData.keyHash P s21), (.str s21 763), (.str s115 754)⟩, ⟨(PySem.PyData.keyHash P s49), (.str s49 765), (.int (.negSucc 0) 756)⟩, ⟨(PySem.PyData.keyHash P s48), (.str s48 767), (.int (.ofNat 6) 757)⟩]⟩ 3), ⟨[]⟩⟩
noncomputable def o321 (P : Params) : Obj := ⟨(.ref 220), (.some 320), .plain, ⟨[]⟩⟩
noncomputable def o322 (P : Params) : Obj := ⟨(.type PySem.W.SL.s658472552662922059x5), .none, (.dict ⟨[⟨(PySem.PyData.keyHash P s6), (.str s6 758), (.ref 321)⟩, ⟨(PySem.PyData.keyHash P s21), (.str s21 759), (.str s115 754)⟩, ⟨(PySem.PyData.keyHash P s49), (.str s49 760), (.int (.negSucc 0) 756)⟩, ⟨(PySem.PyData.keyHash P s48), (.str s48 761), (.int (.ofNat 6) 757)⟩]⟩ 4), ⟨[]⟩⟩
noncomputable def o323 (P : Params) : Obj := ⟨(.type PySem.W.SL.s14018661285674007319x4), .none, (.dict ⟨[⟨(PySem.PyData.keyHash P s21), (.str s21 777), (.str s116 768)⟩, ⟨(PySem.PyData.keyHash P s49), (.str s49 779), (.int (.negSucc 0) 770)⟩, ⟨(PySem.PyData.keyHash P s48), (.str s48 781), (.int (.ofNat 4) 771)⟩]⟩ 3), ⟨[]⟩⟩
noncomputable def o324 (P : Params) : Obj := ⟨(.ref 220), (.some 323), .plain, ⟨[]⟩⟩
noncomputable def o325 (P : Params) : Obj := ⟨(.type PySem.W.SL.s658472552662922059x5), .none, (.dict ⟨[⟨(PySem.PyData.keyHash P s6), (.str s6 772), (.ref 324)⟩, ⟨(PySem.PyData.keyHash P s21), (.str s21 773), (.str s116 768)⟩, ⟨(PySem.PyData.keyHash P s49), (.str s49 774), (.int (.negSucc 0) 770)⟩, ⟨(PySem.PyData.keyHash P s48), (.str s48 775), (.int (.ofNat 4) 771)⟩]⟩ 4), ⟨[]⟩⟩
noncomputable def o326 (P : Params) : Obj := ⟨(.type PySem.W.SL.s14018661285674007319x4), .none, (.dict ⟨[⟨(PySem.PyData.keyHash P s21), (.str s21 790), (.str s117 782)⟩, ⟨(PySem.PyData.keyHash P s49), (.str s49 792), (.int (.ofNat 7) 783)⟩, ⟨(PySem.PyData.keyHash P s48), (.str s48 794), (.int (.ofNat 3) 784)⟩]⟩ 3), ⟨[]⟩⟩
noncomputable def o327 (P : Params) : Obj := ⟨(.ref 220), (.some 326), .plain, ⟨[]⟩⟩
noncomputable def o328 (P : Params) : Obj := ⟨(.type PySem.W.SL.s658472552662922059x5), .none, (.dict ⟨[⟨(PySem.PyData.keyHash P s6), (.str s6 785), (.ref 327)⟩, ⟨(PySem.PyData.keyHash P s21), (.str s21 786), (.str s117 782)⟩, ⟨(PySem.PyData.keyHash P s49), (.str s49 787), (.int (.ofNat 7) 783)⟩, ⟨(PySem.PyData.keyHash P s48), (.str s48 788), (.int (.ofNat 3) 784)⟩]⟩ 4), ⟨[]⟩⟩
noncomputable def o329 (P : Params) : Obj := ⟨(.type PySem.W.SL.s14018661285674007319x4), .none, (.dict ⟨[⟨(PySem.PyData.keyHash P s21), (.str s21 804), (.str s118 795)⟩, ⟨(PySem.PyData.keyHash P s49), (.str s49 806), (.int (.negSucc 0) 797)⟩, ⟨(PySem.PyData.keyHash P s48), (.str s48 808), (.int (.ofNat 1) 798)⟩]⟩ 3), ⟨[]⟩⟩
noncomputable def o330 (P : Params) : Obj := ⟨(.ref 220), (.some 329), .plain, ⟨[]⟩⟩
noncomputable def o331 (P : Params) : Obj := ⟨(.type PySem.W.SL.s658472552662922059x5), .none, (.dict ⟨[⟨(PySem.PyData.keyHash P s6), (.str s6 799), (.ref 330)⟩, ⟨(PySem.PyData.keyHash P s21), (.str s21 800), (.str s118 795)⟩, ⟨(PySem.PyData.keyHash P s49), (.str s49 801), (.int (.negSucc 0) 797)⟩, ⟨(PySem.PyData.keyHash P s48), (.str s48 802), (.int (.ofNat 1) 798)⟩]⟩ 4), ⟨[]⟩⟩
noncomputable def o332 (P : Params) : Obj := ⟨(.type PySem.W.SL.s9222952809800978799x4), .none, (.seq ⟨[(.ref 303), (.ref 306), (.ref 309), (.ref 312), (.ref 315), (.ref 318), (.ref 321), (.ref 324), (.ref 327), (.ref 330)]⟩ 0), ⟨[]⟩⟩
noncomputable def o3v4 (P : Params) : Obj := ⟨(.type PySem.W.SL.s14018661285674007319x4), .none, (.dict ⟨[⟨(PySem.PyData.keyHash P s2), (.str s2 165), (.str s67 473)⟩, ⟨(PySem.PyData.keyHash P s193), (.str s193 166), .none⟩, ⟨(PySem.PyData.keyHash P s194), (.str s194 167), .none⟩, ⟨(PySem.PyData.keyHash P s195), (.str s195 168), (.builtin PySem.W.SL.s7097527257260152453x26)⟩, ⟨(PySem.PyData.keyHash P s196), (.str s196 169), .none⟩, ⟨(PySem.PyData.keyHash P s346), (.str s346 170), (.ref 6)⟩, ⟨(PySem.PyData.keyHash P s347), (.str s347 171), (.ref 4)⟩, ⟨(PySem.PyData.keyHash P s348), (.str s348 173), (.str s191 172)⟩, ⟨(PySem.PyData.keyHash P s349), (.str s349 174), .none⟩, ⟨(PySem.PyData.keyHash P s0), (.str s0 193), (.ref 21)⟩, ⟨(PySem.PyData.keyHash P s4), (.str s4 437), (.ref 199)⟩, ⟨(PySem.PyData.keyHash P s66), (.str s66 472), (.ref 220)⟩, ⟨(PySem.PyData.keyHash P s68), (.str s68 846), (.ref 342)⟩]⟩ 13), ⟨[]⟩⟩
noncomputable def o199v1 (P : Params) : Obj := ⟨(.type PySem.W.SL.s17162191345867700912x4), .none, (.cls ⟨s4, [(.type PySem.W.SL.s2742458400755230247x6)], [(.ref 199), (.type PySem.W.SL.s2742458400755230247x6)], 198, s4, true, [], [(.ref 342)], false, none, false⟩), ⟨[.none, .none, (.some (.str s4 196)), (.some (.str s4 204)), (.some (.builtin PySem.W.SL.s11443829558043349243x14)), (.some (.bool true))]⟩⟩
noncomputable def o227v7 (P : Params) : Obj := ⟨(.type PySem.W.SL.s14018661285674007319x4), .none, (.dict ⟨[⟨(PySem.PyData.keyHash P s351), (.str s351 482), (.str s67 473)⟩, ⟨(PySem.PyData.keyHash P s352), (.str s352 484), (.str s68 483)⟩, ⟨(PySem.PyData.keyHash P s353), (.str s353 486), (.int (.ofNat 200) 485)⟩, ⟨(PySem.PyData.keyHash P s69), (.str s69 497), (.ref 232)⟩, ⟨(PySem.PyData.keyHash P s74), (.str s74 499), (.int (.ofNat 0) 498)⟩, ⟨(PySem.PyData.keyHash P s75), (.str s75 501), (.int (.ofNat 0) 500)⟩, ⟨(PySem.PyData.keyHash P s76), (.str s76 508), (.ref 239)⟩, ⟨(PySem.PyData.keyHash P s78), (.str s78 515), (.ref 246)⟩, ⟨(PySem.PyData.keyHash P s80), (.str s80 524), (.ref 253)⟩, ⟨(PySem.PyData.keyHash P s85), (.str s85 540), (.ref 260)⟩, ⟨(PySem.PyData.keyHash P s96), (.str s96 550), (.ref 267)⟩, ⟨(PySem.PyData.keyHash P s101), (.str s101 557), (.ref 274)⟩, ⟨(PySem.PyData.keyHash P s77), (.str s77 600), (.ref 284)⟩, ⟨(PySem.PyData.keyHash P s79), (.str s79 643), (.ref 294)⟩, ⟨(PySem.PyData.keyHash P s82), (.str s82 672), (.ref 301)⟩, ⟨(PySem.PyData.keyHash P s86), (.str s86 809), (.ref 332)⟩, ⟨(PySem.PyData.keyHash P s97), (.str s97 838), (.ref 339)⟩, ⟨(PySem.PyData.keyHash P s354), (.str s354 843), (.ref 340)⟩]⟩ 18), ⟨[]⟩⟩
noncomputable def o333 (P : Params) : Obj := ⟨(.type PySem.W.SL.s14018661285674007319x4), .none, (.dict ⟨[⟨(PySem.PyData.keyHash P s21), (.str s21 819), (.str s119 810)⟩, ⟨(PySem.PyData.keyHash P s49), (.str s49 821), (.int (.negSucc 0) 812)⟩, ⟨(PySem.PyData.keyHash P s48), (.str s48 823), (.int (.ofNat 2) 813)⟩]⟩ 3), ⟨[]⟩⟩
noncomputable def o334 (P : Params) : Obj := ⟨(.ref 220), (.some 333), .plain, ⟨[]⟩⟩
noncomputable def o335 (P : Params) : Obj := ⟨(.type PySem.W.SL.s658472552662922059x5), .none, (.dict ⟨[⟨(PySem.PyData.keyHash P s6), (.str s6 814), (.ref 334)⟩, ⟨(PySem.PyData.keyHash P s21), (.str s21 815), (.str s119 810)⟩, ⟨(PySem.PyData.keyHash P s49), (.str s49 816), (.int (.negSucc 0) 812)⟩, ⟨(PySem.PyData.keyHash P s48), (.str s48 817), (.int (.ofNat 2) 813)⟩]⟩ 4), ⟨[]⟩⟩
noncomputable def o336 (P : Params) : Obj := ⟨(.type PySem.W.SL.s14018661285674007319x4), .none, (.dict ⟨[⟨(PySem.PyData.keyHash P s21), (.str s21 833), (.str s120 824)⟩, ⟨(PySem.PyData.keyHash P s49), (.str s49 835), (.int (.negSucc 0) 826)⟩, ⟨(PySem.PyData.keyHash P s48), (.str s48 837), (.int (.ofNat 1) 827)⟩]⟩ 3), ⟨[]⟩⟩
noncomputable def o337 (P : Params) : Obj := ⟨(.ref 220), (.some 336), .plain, ⟨[]⟩⟩
noncomputable def o338 (P : Params) : Obj := ⟨(.type PySem.W.SL.s658472552662922059x5), .none, (.dict ⟨[⟨(PySem.PyData.keyHash P s6), (.str s6 828), (.ref 337)⟩, ⟨(PySem.PyData.keyHash P s21), (.str s21 829), (.str s120 824)⟩, ⟨(PySem.PyData.keyHash P s49), (.str s49 830), (.int (.negSucc 0) 826)⟩, ⟨(PySem.PyData.keyHash P s48), (.str s48 831), (.int (.ofNat 1) 827)⟩]⟩ 4), ⟨[]⟩⟩
noncomputable def o339 (P : Params) : Obj := ⟨(.type PySem.W.SL.s9222952809800978799x4), .none, (.seq ⟨[(.ref 334), (.ref 337)]⟩ 0), ⟨[]⟩⟩
noncomputable def o340 (P : Params) : Obj := ⟨(.type PySem.W.SL.s2766695959194262286x5), .none, (.seq ⟨[(.str s74 839), (.str s15 840), (.str s11 841), (.str s16 842)]⟩ 0), ⟨[]⟩⟩
noncomputable def o341 (P : Params) : Obj := ⟨(.type PySem.W.SL.s14018661285674007319x4), .none, (.dict ⟨[⟨(PySem.PyData.keyHash P s351), (.str s351 482), (.str s67 473)⟩, ⟨(PySem.PyData.keyHash P s353), (.str s353 486), (.int (.ofNat 200) 485)⟩, ⟨(PySem.PyData.keyHash P s69), (.str s69 497), (.ref 232)⟩, ⟨(PySem.PyData.keyHash P s74), (.str s74 499), (.int (.ofNat 0) 498)⟩, ⟨(PySem.PyData.keyHash P s75), (.str s75 501), (.int (.ofNat 0) 500)⟩, ⟨(PySem.PyData.keyHash P s76), (.str s76 508), (.ref 239)⟩, ⟨(PySem.PyData.keyHash P s78), (.str s78 515), (.ref 246)⟩, ⟨(PySem.PyData.keyHash P s80), (.str s80 524), (.ref 253)⟩, ⟨(PySem.PyData.keyHash P s85), (.str s85 540), (.ref 260)⟩, ⟨(PySem.PyData.keyHash P s96), (.str s96 550), (.ref 267)⟩, ⟨(PySem.PyData.keyHash P s101), (.str s101 557), (.ref 274)⟩, ⟨(PySem.PyData.keyHash P s77), (.str s77 600), (.ref 284)⟩, ⟨(PySem.PyData.keyHash P s79), (.str s79 643), (.ref 294)⟩, ⟨(PySem.PyData.keyHash P s82), (.str s82 672), (.ref 301)⟩, ⟨(PySem.PyData.keyHash P s86), (.str s86 809), (.ref 332)⟩, ⟨(PySem.PyData.keyHash P s97), (.str s97 838), (.ref 339)⟩, ⟨(PySem.PyData.keyHash P s354), (.str s354 843), (.ref 340)⟩, ⟨(PySem.PyData.keyHash P s193), (.str s193 844), .none⟩]⟩ 2), ⟨[]⟩⟩
noncomputable def o342 (P : Params) : Obj := ⟨(.type PySem.W.SL.s17162191345867700912x4), .none, (.cls ⟨s68, [(.ref 199)], [(.ref 342), (.ref 199), (.type PySem.W.SL.s2742458400755230247x6)], 341, s68, true, [], [], false, none, false⟩), ⟨[(.some (.ref 225)), .none, (.some (.str s68 475)), (.some (.str s68 483)), (.some (.builtin PySem.W.SL.s11443829558043349243x14)), (.some (.bool true))]⟩⟩
noncomputable def o343 (P : Params) : Obj := ⟨(.type PySem.W.SL.s4290257624100764138x5), .none, (.fields ⟨[(.ref 342), (.ref 342), (.ref 342)]⟩), ⟨[]⟩⟩
noncomputable def o344 (P : Params) : Obj := ⟨(.type PySem.W.SL.s11030030927630378310x26), .none, (.fields ⟨[(.builtin PySem.W.SL.s4860613602091757760x24), (.ref 342)]⟩), ⟨[]⟩⟩
noncomputable def o2v1 (P : Params) : Obj := ⟨.none, .none, (.dict ⟨[⟨(PySem.PyData.keyHash P s388), (.str s388 863), (.int (.ofNat 354) 0)⟩, ⟨(PySem.PyData.keyHash P s389), (.str s389 864), (.int (.ofNat 1) 0)⟩]⟩ 2), ⟨[]⟩⟩
noncomputable def o3v5 (P : Params) : Obj := ⟨(.type PySem.W.SL.s14018661285674007319x4), .none, (.dict ⟨[⟨(PySem.PyData.keyHash P s2), (.str s2 165), (.str s122 867)⟩, ⟨(PySem.PyData.keyHash P s193), (.str s193 166), .none⟩, ⟨(PySem.PyData.keyHash P s194), (.str s194 167), .none⟩, ⟨(PySem.PyData.keyHash P s195), (.str s195 168), (.builtin PySem.W.SL.s7097527257260152453x26)⟩, ⟨(PySem.PyData.keyHash P s196), (.str s196 169), .none⟩, ⟨(PySem.PyData.keyHash P s346), (.str s346 170), (.ref 6)⟩, ⟨(PySem.PyData.keyHash P s347), (.str s347 171), (.ref 4)⟩, ⟨(PySem.PyData.keyHash P s348), (.str s348 173), (.str s191 172)⟩, ⟨(PySem.PyData.keyHash P s349), (.str s349 174), .none⟩, ⟨(PySem.PyData.keyHash P s0), (.str s0 193), (.ref 21)⟩, ⟨(PySem.PyData.keyHash P s4), (.str s4 437), (.ref 199)⟩, ⟨(PySem.PyData.keyHash P s66), (.str s66 472), (.ref 220)⟩, ⟨(PySem.PyData.keyHash P s68), (.str s68 846), (.ref 342)⟩, ⟨(PySem.PyData.keyHash P s84), (.str s84 866), (.ref 354)⟩, ⟨(PySem.PyData.keyHash P s123), (.str s123 874), (.ref 364)⟩, ⟨(PySem.PyData.keyHash P s128), (.str s128 880), (.ref 371)⟩, ⟨(PySem.PyData.keyHash P s133), (.str s133 886), (.ref 378)⟩, ⟨(PySem.PyData.keyHash P s135), (.str s135 888), (.str s136 887)⟩, ⟨(PySem.PyData.keyHash P s137), (.str s137 894), (.ref 383)⟩, ⟨(PySem.PyData.keyHash P s144), (.str s144 902), (.ref 390)⟩, ⟨(PySem.PyData.keyHash P s147), (.str s147 915), (.ref 397)⟩, ⟨(PySem.PyData.keyHash P s154), (.str s154 923), (.ref 404)⟩, ⟨(PySem.PyData.keyHash P s157), (.str s157 936), (.ref 411)⟩, ⟨(PySem.PyData.keyHash P s163), (.str s163 948), (.ref 418)⟩, ⟨(PySem.PyData.keyHash P s166), (.str s166 960), (.ref 425)⟩, ⟨(PySem.PyData.keyHash P s170), (.str s170 972), (.ref 432)⟩, ⟨(PySem.PyData.keyHash P s174), (.str s174 986), (.ref 439)⟩, ⟨(PySem.PyData.keyHash P s176), (.str s176 994), (.ref 446)⟩, ⟨(PySem.PyData.keyHash P s178), (.str s178 1009), (.ref 453)⟩, ⟨(PySem.PyData.keyHash P s179), (.str s179 1030), (.ref 460)⟩, ⟨(PySem.PyData.keyHash P s185), (.str s185 1044), (.ref 467)⟩]⟩ 31), ⟨[]⟩⟩
noncomputable def o12v5 (P : Params) : Obj := ⟨.none, .none, (.fields ⟨[(.int (.ofNat 1) 0), (.int (.ofNat 0) 0), (.ref 20), (.int (.ofNat 5) 0), (.int (.ofNat 0) 0), (.ref 27), (.int (.ofNat 193) 0), (.int (.ofNat 0) 0), (.ref 209), (.int (.ofNat 200) 0), (.int (.ofNat 0) 0), (.ref 230), (.int (.ofNat 431) 0), (.int (.ofNat 0) 0), (.ref 350), (.int (.ofNat 434) 0), (.int (.ofNat 0) 0), (.ref 363), (.int (.ofNat 436) 0), (.int (.ofNat 0) 0), (.ref 370), (.int (.ofNat 438) 0), (.int (.ofNat 0) 0), (.ref 377), (.int (.ofNat 441) 0), (.int (.ofNat 0) 0), (.ref 382), (.int (.ofNat 444) 0), (.int (.ofNat 0) 0), (.ref 389), (.int (.ofNat 450) 0), (.int (.ofNat 0) 0), (.ref 396), (.int (.ofNat 463) 0), (.int (.ofNat 0) 0), (.ref 403), (.int (.ofNat 465) 0), (.int (.ofNat 0) 0), (.ref 410), (.int (.ofNat 479) 0), (.int (.ofNat 0) 0), (.ref 417), (.int (.ofNat 493) 0), (.int (.ofNat 0) 0), (.ref 424), (.int (.ofNat 498) 0), (.int (.ofNat 0) 0), (.ref 431), (.int (.ofNat 510) 0), (.int (.ofNat 0) 0), (.ref 438), (.int (.ofNat 521) 0), (.int (.ofNat 0) 0), (.ref 445), (.int (.ofNat 531) 0), (.int (.ofNat 0) 0), (.ref 452), (.int (.ofNat 542) 0), (.int (.ofNat 0) 0), (.ref 459), (.int (.ofNat 554) 0), (.int (.ofNat 0) 0), (.ref 466)]⟩), ⟨[]⟩⟩
noncomputable def o345 (P : Params) : Obj := ⟨(.type PySem.W.SL.s2766695959194262286x5), .none, (.seq ⟨[(.type PySem.W.SL.s5946037652744460706x9)]⟩ 0), ⟨[]⟩⟩
noncomputable def o346 (P : Params) : Obj := ⟨(.type PySem.W.SL.s11030030927630378310x26), .none, (.fields ⟨[(.builtin PySem.W.SL.s10062305145149207511x16), (.type PySem.W.SL.s17162191345867700912x4)]⟩), ⟨[]⟩⟩
noncomputable def o347 (P : Params) : Obj := ⟨(.type PySem.W.SL.s14018661285674007319x4), .none, (.dict ⟨[⟨(PySem.PyData.keyHash P s351), (.str s351 854), (.str s67 473)⟩, ⟨(PySem.PyData.keyHash P s352), (.str s352 856), (.str s84 855)⟩, ⟨(PySem.PyData.keyHash P s353), (.str s353 858), (.int (.ofNat 431) 857)⟩, ⟨(PySem.PyData.keyHash P s354), (.str s354 859), (.ref 352)⟩]⟩ 4), ⟨[]⟩⟩
noncomputable def o348 (P : Params) : Obj := ⟨(.type PySem.W.SL.s2766695959194262286x5), .none, (.seq ⟨[]⟩ 0), ⟨[]⟩⟩
noncomputable def o349 (P : Params) : Obj := ⟨.none, .none, (.fields ⟨[]⟩), ⟨[]⟩⟩
noncomputable def o350 (P : Params) : Obj := ⟨(.type PySem.W.SL.s5856160107412720595x4), .none, (.fields ⟨[(.str s84 849), (.str s84 850), (.str s191 851), (.int (.ofNat 431) 0), (.int (.ofNat 0) 0), (.int (.ofNat 0) 0), (.int (.ofNat 0) 0), (.int (.ofNat 0) 0), (.ref 348), (.bool false), (.int (.ofNat 181) 0), (.ref 349), .none, .none, .none, .none, (.int (.ofNat 852) 0), (.int (.ofNat 431) 0), (.str s191 853)]⟩), ⟨[]⟩⟩
noncomputable def o351 (P : Params) : Obj := ⟨(.type PySem.W.SL.s658472552662922059x5), .none, .plain, ⟨[(.some (.ref 350)), (.some (.ref 3)), (.some (.ref 347)), .none, (.some (.str s67 473)), .none, (.some (.ref 0))]⟩⟩
noncomputable def o352 (P : Params) : Obj := ⟨(.type PySem.W.SL.s2766695959194262286x5), .none, (.seq ⟨[]⟩ 0), ⟨[]⟩⟩
noncomputable def o353 (P : Params) : Obj := ⟨(.type PySem.W.SL.s14018661285674007319x4), .none, (.dict ⟨[⟨(PySem.PyData.keyHash P s351), (.str s351 854), (.str s67 473)⟩, ⟨(PySem.PyData.keyHash P s353), (.str s353 858), (.int (.ofNat 431) 857)⟩, ⟨(PySem.PyData.keyHash P s354), (.str s354 859), (.ref 352)⟩, ⟨(PySem.PyData.keyHash P s380), (.str s380 861), (.ref 355)⟩, ⟨(PySem.PyData.keyHash P s193), (.str s193 862), .none⟩]⟩ 3), ⟨[]⟩⟩
noncomputable def o354 (P : Params) : Obj := ⟨(.type PySem.W.SL.s17162191345867700912x4), .none, (.cls ⟨s84, [(.type PySem.W.SL.s5946037652744460706x9)], [(.ref 354), (.type PySem.W.SL.s5946037652744460706x9), (.type PySem.W.SL.s4278001404047624695x13), (.type PySem.W.SL.s2742458400755230247x6)], 353, s84, true, [], [], false, none, false⟩), ⟨[(.some (.ref 345)), .none, (.some (.str s84 847)), (.some (.str s84 855)), (.some (.builtin PySem.W.SL.s5160863994218179198x17)), (.some (.bool true))]⟩⟩
noncomputable def o355 (P : Params) : Obj := ⟨(.type PySem.W.SL.s14755015743595814543x17), .none, (.fields ⟨[(.str s380 860), (.ref 354), (.builtin PySem.W.SL.s10220274742760427390x26), .none]⟩), ⟨[]⟩⟩
noncomputable def o356 (P : Params) : Obj := ⟨(.type PySem.W.SL.s4290257624100764138x5), .none, (.fields ⟨[(.ref 354), (.ref 354), (.ref 354)]⟩), ⟨[]⟩⟩
noncomputable def o357 (P : Params) : Obj := ⟨(.type PySem.W.SL.s11030030927630378310x26), .none, (.fields ⟨[(.builtin PySem.W.SL.s4860613602091757760x24), (.ref 354)]⟩), ⟨[]⟩⟩
noncomputable def o358 (P : Params) : Obj := ⟨(.type PySem.W.SL.s2766695959194262286x5), .none, (.seq ⟨[]⟩ 0), ⟨[]⟩⟩
noncomputable def o359 (P : Params) : Obj := ⟨.none, .none, (.fields ⟨[]⟩), ⟨[]⟩⟩
noncomputable def o360 (P : Params) : Obj := ⟨(.type PySem.W.SL.s2766695959194262286x5), .none, (.seq ⟨[]⟩ 0), ⟨[]⟩⟩
noncomputable def o361 (P : Params) : Obj := ⟨(.type PySem.W.SL.s2766695959194262286x5), .none, (.seq ⟨[]⟩ 0), ⟨[]⟩⟩
noncomputable def o362 (P : Params) : Obj := ⟨.none, .none, (.func ⟨s123, s123, fPar (dS 9), .stmts (fBody (dS 9)), fScope (dS 9), 0, [], .none, .none, .none, .none, .none, .none, .none, 0⟩), ⟨[]⟩⟩
noncomputable def o363 (P : Params) : Obj := ⟨(.type PySem.W.SL.s5856160107412720595x4), .none, (.fields ⟨[(.str s123 869), (.str s123 870), (.str s191 871), (.int (.ofNat 434) 0), (.int (.ofNat 0) 0), (.int (.ofNat 0) 0), (.int (.ofNat 0) 0), (.int (.ofNat 3) 0), (.ref 358), (.bool true), (.int (.ofNat 181) 0), (.ref 359), .none, (.ref 360), (.ref 361), (.ref 362), (.int (.ofNat 872) 0), (.int (.ofNat 434) 0), (.str s191 873)]⟩), ⟨[]⟩⟩
noncomputable def o364 (P : Params) : Obj := ⟨(.type PySem.W.SL.s7174869446012820540x8), .none, (.func ⟨s123, s123, fPar (dS 9), .stmts (fBody (dS 9)), fScope (dS 9), 3, [], .none, .none, .none, (.str s122 867), .none, (.ref 363), .none, 0⟩), ⟨[]⟩⟩
noncomputable def o365 (P : Params) : Obj := ⟨(.type PySem.W.SL.s2766695959194262286x5), .none, (.seq ⟨[]⟩ 0), ⟨[]⟩⟩
noncomputable def o366 (P : Params) : Obj := ⟨.none, .none, (.fields ⟨[]⟩), ⟨[]⟩⟩
noncomputable def o367 (P : Params) : Obj := ⟨(.type PySem.W.SL.s2766695959194262286x5), .none, (.seq ⟨[]⟩ 0), ⟨[]⟩⟩
noncomputable def o368 (P : Params) : Obj := ⟨(.type PySem.W.SL.s2766695959194262286x5), .none, (.seq ⟨[]⟩ 0), ⟨[]⟩⟩
noncomputable def o369 (P : Params) : Obj := ⟨.none, .none, (.func ⟨s128, s128, fPar (dS 10), .stmts (fBody (dS 10)), fScope (dS 10), 0, [], .none, .none, .none, .none, .none, .none, .none, 0⟩), ⟨[]⟩⟩
noncomputable def o370 (P : Params) : Obj := ⟨(.type PySem.W.SL.s5856160107412720595x4), .none, (.fields ⟨[(.str s128 875), (.str s128 876), (.str s191 877), (.int (.ofNat 436) 0), (.int (.ofNat 0) 0), (.int (.ofNat 0) 0), (.int (.ofNat 0) 0), (.int (.ofNat 3) 0), (.ref 365), (.bool true), (.int (.ofNat 181) 0), (.ref 366), .none, (.ref 367), (.ref 368), (.ref 369), (.int (.ofNat 878) 0), (.int (.ofNat 436) 0), (.str s191 879)]⟩), ⟨[]⟩⟩
noncomputable def o371 (P : Params) : Obj := ⟨(.type PySem.W.SL.s7174869446012820540x8), .none, (.func ⟨s128, s128, fPar (dS 10), .stmts (fBody (dS 10)), fScope (dS 10), 3, [], .none, .none, .none, (.str s122 867), .none, (.ref 370), .none, 0⟩), ⟨[]⟩⟩
noncomputable def o372 (P : Params) : Obj := ⟨(.type PySem.W.SL.s2766695959194262286x5), .none, (.seq ⟨[]⟩ 0), ⟨[]⟩⟩
noncomputable def o373 (P : Params) : Obj := ⟨.none, .none, (.fields ⟨[]⟩), ⟨[]⟩⟩
noncomputable def o374 (P : Params) : Obj := ⟨(.type PySem.W.SL.s2766695959194262286x5), .none, (.seq ⟨[]⟩ 0), ⟨[]⟩⟩
noncomputable def o375 (P : Params) : Obj := ⟨(.type PySem.W.SL.s2766695959194262286x5), .none, (.seq ⟨[]⟩ 0), ⟨[]⟩⟩
noncomputable def o376 (P : Params) : Obj := ⟨.none, .none, (.func ⟨s133, s133, fPar (dS 11), .stmts (fBody (dS 11)), fScope (dS 11), 0, [], .none, .none, .none, .none, .none, .none, .none, 0⟩), ⟨[]⟩⟩
noncomputable def o377 (P : Params) : Obj := ⟨(.type PySem.W.SL.s5856160107412720595x4), .none, (.fields ⟨[(.str s133 881), (.str s133 882), (.str s191 883), (.int (.ofNat 438) 0), (.int (.ofNat 0) 0), (.int (.ofNat 0) 0), (.int (.ofNat 0) 0), (.int (.ofNat 3) 0), (.ref 372), (.bool true), (.int (.ofNat 181) 0), (.ref 373), .none, (.ref 374), (.ref 375), (.ref 376), (.int (.ofNat 884) 0), (.int (.ofNat 438) 0), (.str s191 885)]⟩), ⟨[]⟩⟩
noncomputable def o378 (P : Params) : Obj := ⟨(.type PySem.W.SL.s7174869446012820540x8), .none, (.func ⟨s133, s133, fPar (dS 11), .stmts (fBody (dS 11)), fScope (dS 11), 3, [], .none, .none, .none, (.str s122 867), .none, (.ref 377), .none, 0⟩), ⟨[]⟩⟩
noncomputable def o379 (P : Params) : Obj := ⟨(.type PySem.W.SL.s2766695959194262286x5), .none, (.seq ⟨[]⟩ 0), ⟨[]⟩⟩
noncomputable def o380 (P : Params) : Obj := ⟨.none, .none, (.fields ⟨[]⟩), ⟨[]⟩⟩
noncomputable def o381 (P : Params) : Obj := ⟨.none, .none, (.func ⟨s137, s137, fPar (dS 13), .stmts (fBody (dS 13)), fScope (dS 13), 0, [], .none, .none, .none, .none, .none, .none, .none, 0⟩), ⟨[]⟩⟩
noncomputable def o382 (P : Params) : Obj := ⟨(.type PySem.W.SL.s5856160107412720595x4), .none, (.fields ⟨[(.str s137 889), (.str s137 890), (.str s191 891), (.int (.ofNat 441) 0), (.int (.ofNat 1) 0), (.int (.ofNat 0) 0), (.int (.ofNat 0) 0), (.int (.ofNat 3) 0), (.ref 379), (.bool true), (.int (.ofNat 181) 0), (.ref 380), .none, .none, .none, (.ref 381), (.int (.ofNat 892) 0), (.int (.ofNat 441) 0), (.str s191 893)]⟩), ⟨[]⟩⟩
noncomputable def o383 (P : Params) : Obj := ⟨(.type PySem.W.SL.s7174869446012820540x8), .none, (.func ⟨s137, s137, fPar (dS 13), .stmts (fBody (dS 13)), fScope (dS 13), 3, [], .none, .none, .none, (.str s122 867), .none, (.ref 382), .none, 0⟩), ⟨[]⟩⟩
noncomputable def o384 (P : Params) : Obj := ⟨(.type PySem.W.SL.s2766695959194262286x5), .none, (.seq ⟨[]⟩ 0), ⟨[]⟩⟩
noncomputable def o385 (P : Params) : Obj := ⟨.none, .none, (.fields ⟨[]⟩), ⟨[]⟩⟩
noncomputable def o386 (P : Params) : Obj := ⟨(.type PySem.W.SL.s2766695959194262286x5), .none, (.seq ⟨[(.str s145 898), (.str s146 899)]⟩ 0), ⟨[]⟩⟩
noncomputable def o387 (P : Params) : Obj := ⟨(.type PySem.W.SL.s2766695959194262286x5), .none, (.seq ⟨[]⟩ 0), ⟨[]⟩⟩
noncomputable def o388 (P : Params) : Obj := ⟨.none, .none, (.func ⟨s144, s144, fPar (dS 14), .stmts (fBody (dS 14)), fScope (dS 14), 0, [], .none, .none, .none, .none, .none, .none, .none, 0⟩), ⟨[]⟩⟩
noncomputable def o389 (P : Params) : Obj := ⟨(.type PySem.W.SL.s5856160107412720595x4), .none, (.fields ⟨[(.str s144 895), (.str s144 896), (.str s191 897), (.int (.ofNat 444) 0), (.int (.ofNat 2) 0), (.int (.ofNat 0) 0), (.int (.ofNat 0) 0), (.int (.ofNat 3) 0), (.ref 384), (.bool true), (.int (.ofNat 181) 0), (.ref 385), .none, (.ref 386), (.ref 387), (.ref 388), (.int (.ofNat 900) 0), (.int (.ofNat 444) 0), (.str s191 901)]⟩), ⟨[]⟩⟩
noncomputable def o390 (P : Params) : Obj := ⟨(.type PySem.W.SL.s7174869446012820540x8), .none, (.func ⟨s144, s144, fPar (dS 14), .stmts (fBody (dS 14)), fScope (dS 14), 3, [], .none, .none, .none, (.str s122 867), .none, (.ref 389), .none, 0⟩), ⟨[]⟩⟩
noncomputable def o391 (P : Params) : Obj := ⟨(.type PySem.W.SL.s2766695959194262286x5), .none, (.seq ⟨[]⟩ 0), ⟨[]⟩⟩
noncomputable def o392 (P : Params) : Obj := ⟨.none, .none, (.fields ⟨[]⟩), ⟨[]⟩⟩
noncomputable def o393 (P : Params) : Obj := ⟨(.type PySem.W.SL.s2766695959194262286x5), .none, (.seq ⟨[(.str s145 906), (.str s148 907), (.str s149 908), (.str s151 909), (.str s152 910), (.str s1 911), (.str s153 912)]⟩ 0), ⟨[]⟩⟩
noncomputable def o394 (P : Params) : Obj := ⟨(.type PySem.W.SL.s2766695959194262286x5), .none, (.seq ⟨[]⟩ 0), ⟨[]⟩⟩
noncomputable def o395 (P : Params) : Obj := ⟨.none, .none, (.func ⟨s147, s147, fPar (dS 15), .stmts (fBody (dS 15)), fScope (dS 15), 0, [], .none, .none, .none, .none, .none, .none, .none, 0⟩), ⟨[]⟩⟩
noncomputable def o396 (P : Params) : Obj := ⟨(.type PySem.W.SL.s5856160107412720595x4), .none, (.fields ⟨[(.str s147 903), (.str s147 904), (.str s191 905), (.int (.ofNat 450) 0), (.int (.ofNat 1) 0), (.int (.ofNat 0) 0), (.int (.ofNat 0) 0), (.int (.ofNat 3) 0), (.ref 391), (.bool true), (.int (.ofNat 181) 0), (.ref 392), .none, (.ref 393), (.ref 394), (.ref 395), (.int (.ofNat 913) 0), (.int (.ofNat 450) 0), (.str s191 914)]⟩), ⟨[]⟩⟩
noncomputable def o397 (P : Params) : Obj := ⟨(.type PySem.W.SL.s7174869446012820540x8), .none, (.func ⟨s147, s147, fPar (dS 15), .stmts (fBody (dS 15)), fScope (dS 15), 3, [], .none, .none, .none, (.str s122 867), .none, (.ref 396), .none, 0⟩), ⟨[]⟩⟩
noncomputable def o398 (P : Params) : Obj := ⟨(.type PySem.W.SL.s2766695959194262286x5), .none, (.seq ⟨[]⟩ 0), ⟨[]⟩⟩
noncomputable def o399 (P : Params) : Obj := ⟨.none, .none, (.fields ⟨[]⟩), ⟨[]⟩⟩
noncomputable def o400 (P : Params) : Obj := ⟨(.type PySem.W.SL.s2766695959194262286x5), .none, (.seq ⟨[(.str s152 919), (.str s155 920)]⟩ 0), ⟨[]⟩⟩
noncomputable def o401 (P : Params) : Obj := ⟨(.type PySem.W.SL.s2766695959194262286x5), .none, (.seq ⟨[]⟩ 0), ⟨[]⟩⟩
noncomputable def o402 (P : Params) : Obj := ⟨.none, .none, (.func ⟨s154, s154, fPar (dS 16), .stmts (fBody (dS 16)), fScope (dS 16), 0, [], .none, .none, .none, .none, .none, .none, .none, 0⟩), ⟨[]⟩⟩
noncomputable def o403 (P : Params) : Obj := ⟨(.type PySem.W.SL.s5856160107412720595x4), .none, (.fields ⟨[(.str s154 916), (.str s154 917), (.str s191 918), (.int (.ofNat 463) 0), (.int (.ofNat 2) 0), (.int (.ofNat 0) 0), (.int (.ofNat 0) 0), (.int (.ofNat 3) 0), (.ref 398), (.bool true), (.int (.ofNat 181) 0), (.ref 399), .none, (.ref 400), (.ref 401), (.ref 402), (.int (.ofNat 921) 0), (.int (.ofNat 463) 0), (.str s191 922)]⟩), ⟨[]⟩⟩
noncomputable def o404 (P : Params) : Obj := ⟨(.type PySem.W.SL.s7174869446012820540x8), .none, (.func ⟨s154, s154, fPar (dS 16), .stmts (fBody (dS 16)), fScope (dS 16), 3, [], .none, .none, .none, (.str s122 867), .none, (.ref 403), .none, 0⟩), ⟨[]⟩⟩
noncomputable def o405 (P : Params) : Obj := ⟨(.type PySem.W.SL.s2766695959194262286x5), .none, (.seq ⟨[]⟩ 0), ⟨[]⟩⟩
noncomputable def o406 (P : Params) : Obj := ⟨.none, .none, (.fields ⟨[]⟩), ⟨[]⟩⟩
noncomputable def o407 (P : Params) : Obj := ⟨(.type PySem.W.SL.s2766695959194262286x5), .none, (.seq ⟨[(.str s152 927), (.str s158 928), (.str s159 929), (.str s160 930), (.str s153 931), (.str s161 932), (.str s162 933)]⟩ 0), ⟨[]⟩⟩
noncomputable def o408 (P : Params) : Obj := ⟨(.type PySem.W.SL.s2766695959194262286x5), .none, (.seq ⟨[]⟩ 0), ⟨[]⟩⟩
noncomputable def o409 (P : Params) : Obj := ⟨.none, .none, (.func ⟨s157, s157, fPar (dS 17), .stmts (fBody (dS 17)), fScope (dS 17), 0, [], .none, .none, .none, .none, .none, .none, .none, 0⟩), ⟨[]⟩⟩
noncomputable def o410 (P : Params) : Obj := ⟨(.type PySem.W.SL.s5856160107412720595x4), .none, (.fields ⟨[(.str s157 924), (.str s157 925), (.str s191 926), (.int (.ofNat 465) 0), (.int (.ofNat 3) 0), (.int (.ofNat 0) 0), (.int (.ofNat 0) 0), (.int (.ofNat 3) 0), (.ref 405), (.bool true), (.int (.ofNat 181) 0), (.ref 406), .none, (.ref 407), (.ref 408), (.ref 409), (.int (.ofNat 934) 0), (.int (.ofNat 465) 0), (.str s191 935)]⟩), ⟨[]⟩⟩
noncomputable def o411 (P : Params) : Obj := ⟨(.type PySem.W.SL.s7174869446012820540x8), .none, (.func ⟨s157, s157, fPar (dS 17), .stmts (fBody (dS 17)), fScope (dS 17), 3, [], .none, .none, .none, (.str s122 867), .none, (.ref 410), .none, 0⟩), ⟨[]⟩⟩
noncomputable def o412 (P : Params) : Obj := ⟨(.type PySem.W.SL.s2766695959194262286x5), .none, (.seq ⟨[]⟩ 0), ⟨[]⟩⟩
noncomputable def o413 (P : Params) : Obj := ⟨.none, .none, (.fields ⟨[]⟩), ⟨[]⟩⟩
noncomputable def o414 (P : Params) : Obj := ⟨(.type PySem.W.SL.s2766695959194262286x5), .none, (.seq ⟨[(.str s152 940), (.str s158 941), (.str s159 942), (.str s161 943), (.str s164 944), (.str s99 945)]⟩ 0), ⟨[]⟩⟩
noncomputable def o415 (P : Params) : Obj := ⟨(.type PySem.W.SL.s2766695959194262286x5), .none, (.seq ⟨[]⟩ 0), ⟨[]⟩⟩
noncomputable def o416 (P : Params) : Obj := ⟨.none, .none, (.func ⟨s163, s163, fPar (dS 18), .stmts (fBody (dS 18)), fScope (dS 18), 0, [], .none, .none, .none, .none, .none, .none, .none, 0⟩), ⟨[]⟩⟩
noncomputable def o417 (P : Params) : Obj := ⟨(.type PySem.W.SL.s5856160107412720595x4), .none, (.fields ⟨[(.str s163 937), (.str s163 938), (.str s191 939), (.int (.ofNat 479) 0), (.int (.ofNat 3) 0), (.int (.ofNat 0) 0), (.int (.ofNat 0) 0), (.int (.ofNat 3) 0), (.ref 412), (.bool true), (.int (.ofNat 181) 0), (.ref 413), .none, (.ref 414), (.ref 415), (.ref 416), (.int (.ofNat 946) 0), (.int (.ofNat 479) 0), (.str s191 947)]⟩), ⟨[]⟩⟩
noncomputable def o418 (P : Params) : Obj := ⟨(.type PySem.W.SL.s7174869446012820540x8), .none, (.func ⟨s163, s163, fPar (dS 18), .stmts (fBody (dS 18)), fScope (dS 18), 3, [], .none, .none, .none, (.str s122 867), .none, (.ref 417), .none, 0⟩), ⟨[]⟩⟩
noncomputable def o419 (P : Params) : Obj := ⟨(.type PySem.W.SL.s2766695959194262286x5), .none, (.seq ⟨[]⟩ 0), ⟨[]⟩⟩
noncomputable def o420 (P : Params) : Obj := ⟨.none, .none, (.fields ⟨[]⟩), ⟨[]⟩⟩
noncomputable def o421 (P : Params) : Obj := ⟨(.type PySem.W.SL.s2766695959194262286x5), .none, (.seq ⟨[(.str s152 952), (.str s153 953), (.str s167 954), (.str s158 955), (.str s159 956), (.str s168 957)]⟩ 0), ⟨[]⟩⟩
noncomputable def o422 (P : Params) : Obj := ⟨(.type PySem.W.SL.s2766695959194262286x5), .none, (.seq ⟨[]⟩ 0), ⟨[]⟩⟩
noncomputable def o423 (P : Params) : Obj := ⟨.none, .none, (.func ⟨s166, s166, fPar (dS 19), .stmts (fBody (dS 19)), fScope (dS 19), 0, [], .none, .none, .none, .none, .none, .none, .none, 0⟩), ⟨[]⟩⟩
noncomputable def o424 (P : Params) : Obj := ⟨(.type PySem.W.SL.s5856160107412720595x4), .none, (.fields ⟨[(.str s166 949), (.str s166 950), (.str s191 951), (.int (.ofNat 493) 0), (.int (.ofNat 5) 0), (.int (.ofNat 0) 0), (.int (.ofNat 0) 0), (.int (.ofNat 3) 0), (.ref 419), (.bool true), (.int (.ofNat 181) 0), (.ref 420), .none, (.ref 421), (.ref 422), (.ref 423), (.int (.ofNat 958) 0), (.int (.ofNat 493) 0), (.str s191 959)]⟩), ⟨[]⟩⟩
noncomputable def o425 (P : Params) : Obj := ⟨(.type PySem.W.SL.s7174869446012820540x8), .none, (.func ⟨s166, s166, fPar (dS 19), .stmts (fBody (dS 19)), fScope (dS 19), 3, [], .none, .none, .none, (.str s122 867), .none, (.ref 424), .none, 0⟩), ⟨[]⟩⟩
noncomputable def o426 (P : Params) : Obj := ⟨(.type PySem.W.SL.s2766695959194262286x5), .none, (.seq ⟨[]⟩ 0), ⟨[]⟩⟩
noncomputable def o427 (P : Params) : Obj := ⟨.none, .none, (.fields ⟨[]⟩), ⟨[]⟩⟩
noncomputable def o428 (P : Params) : Obj := ⟨(.type PySem.W.SL.s2766695959194262286x5), .none, (.seq ⟨[(.str s152 964), (.str s153 965), (.str s158 966), (.str s159 967), (.str s171 968), (.str s172 969)]⟩ 0), ⟨[]⟩⟩
noncomputable def o429 (P : Params) : Obj := ⟨(.type PySem.W.SL.s2766695959194262286x5), .none, (.seq ⟨[]⟩ 0), ⟨[]⟩⟩
noncomputable def o430 (P : Params) : Obj := ⟨.none, .none, (.func ⟨s170, s170, fPar (dS 20), .stmts (fBody (dS 20)), fScope (dS 20), 0, [], .none, .none, .none, .none, .none, .none, .none, 0⟩), ⟨[]⟩⟩
noncomputable def o431 (P : Params) : Obj := ⟨(.type PySem.W.SL.s5856160107412720595x4), .none, (.fields ⟨[(.str s170 961), (.str s170 962), (.str s191 963), (.int (.ofNat 498) 0), (.int (.ofNat 4) 0), (.int (.ofNat 0) 0), (.int (.ofNat 0) 0), (.int (.ofNat 3) 0), (.ref 426), (.bool true), (.int (.ofNat 181) 0), (.ref 427), .none, (.ref 428), (.ref 429), (.ref 430), (.int (.ofNat 970) 0), (.int (.ofNat 498) 0), (.str s191 971)]⟩), ⟨[]⟩⟩
noncomputable def o432 (P : Params) : Obj := ⟨(.type PySem.W.SL.s7174869446012820540x8), .none, (.func ⟨s170, s170, fPar (dS 20), .stmts (fBody (dS 20)), fScope (dS 20), 3, [], .none, .none, .none, (.str s122 867), .none, (.ref 431), .none, 0⟩), ⟨[]⟩⟩
noncomputable def o433 (P : Params) : Obj := ⟨(.type PySem.W.SL.s2766695959194262286x5), .none, (.seq ⟨[]⟩ 0), ⟨[]⟩⟩
noncomputable def o434 (P : Params) : Obj := ⟨.none, .none, (.fields ⟨[]⟩), ⟨[]⟩⟩
noncomputable def o435 (P : Params) : Obj := ⟨(.type PySem.W.SL.s2766695959194262286x5), .none, (.seq ⟨[(.str s175 976), (.str s148 977), (.str s152 978), (.str s151 979), (.str s149 980), (.str s153 981), (.str s158 982), (.str s159 983)]⟩ 0), ⟨[]⟩⟩
noncomputable def o436 (P : Params) : Obj := ⟨(.type PySem.W.SL.s2766695959194262286x5), .none, (.seq ⟨[]⟩ 0), ⟨[]⟩⟩
noncomputable def o437 (P : Params) : Obj := ⟨.none, .none, (.func ⟨s174, s174, fPar (dS 21), .stmts (fBody (dS 21)), fScope (dS 21), 0, [], .none, .none, .none, .none, .none, .none, .none, 0⟩), ⟨[]⟩⟩
noncomputable def o438 (P : Params) : Obj := ⟨(.type PySem.W.SL.s5856160107412720595x4), .none, (.fields ⟨[(.str s174 973), (.str s174 974), (.str s191 975), (.int (.ofNat 510) 0), (.int (.ofNat 1) 0), (.int (.ofNat 0) 0), (.int (.ofNat 0) 0), (.int (.ofNat 3) 0), (.ref 433), (.bool true), (.int (.ofNat 181) 0), (.ref 434), .none, (.ref 435), (.ref 436), (.ref 437), (.int (.ofNat 984) 0), (.int (.ofNat 510) 0), (.str s191 985)]⟩), ⟨[]⟩⟩
noncomputable def o439 (P : Params) : Obj := ⟨(.type PySem.W.SL.s7174869446012820540x8), .none, (.func ⟨s174, s174, fPar (dS 21), .stmts (fBody (dS 21)), fScope (dS 21), 3, [], .none, .none, .none, (.str s122 867), .none, (.ref 438), .none, 0⟩), ⟨[]⟩⟩
noncomputable def o440 (P : Params) : Obj := ⟨(.type PySem.W.SL.s2766695959194262286x5), .none, (.seq ⟨[]⟩ 0), ⟨[]⟩⟩
noncomputable def o441 (P : Params) : Obj := ⟨.none, .none, (.fields ⟨[]⟩), ⟨[]⟩⟩
noncomputable def o442 (P : Params) : Obj := ⟨(.type PySem.W.SL.s2766695959194262286x5), .none, (.seq ⟨[(.str s177 990), (.str s148 991)]⟩ 0), ⟨[]⟩⟩
noncomputable def o443 (P : Params) : Obj := ⟨(.type PySem.W.SL.s2766695959194262286x5), .none, (.seq ⟨[]⟩ 0), ⟨[]⟩⟩
noncomputable def o444 (P : Params) : Obj := ⟨.none, .none, (.func ⟨s176, s176, fPar (dS 22), .stmts (fBody (dS 22)), fScope (dS 22), 0, [], .none, .none, .none, .none, .none, .none, .none, 0⟩), ⟨[]⟩⟩
noncomputable def o445 (P : Params) : Obj := ⟨(.type PySem.W.SL.s5856160107412720595x4), .none, (.fields ⟨[(.str s176 987), (.str s176 988), (.str s191 989), (.int (.ofNat 521) 0), (.int (.ofNat 2) 0), (.int (.ofNat 0) 0), (.int (.ofNat 0) 0), (.int (.ofNat 3) 0), (.ref 440), (.bool true), (.int (.ofNat 181) 0), (.ref 441), .none, (.ref 442), (.ref 443), (.ref 444), (.int (.ofNat 992) 0), (.int (.ofNat 521) 0), (.str s191 993)]⟩), ⟨[]⟩⟩
noncomputable def o446 (P : Params) : Obj := ⟨(.type PySem.W.SL.s7174869446012820540x8), .none, (.func ⟨s176, s176, fPar (dS 22), .stmts (fBody (dS 22)), fScope (dS 22), 3, [], .none, .none, .none, (.str s122 867), .none, (.ref 445), .none, 0⟩), ⟨[]⟩⟩
noncomputable def o447 (P : Params) : Obj := ⟨(.type PySem.W.SL.s2766695959194262286x5), .none, (.seq ⟨[]⟩ 0), ⟨[]⟩⟩
noncomputable def o448 (P : Params) : Obj := ⟨.none, .none, (.fields ⟨[]⟩), ⟨[]⟩⟩
noncomputable def o449 (P : Params) : Obj := ⟨(.type PySem.W.SL.s2766695959194262286x5), .none, (.seq ⟨[(.str s177 998), (.str s175 999), (.str s148 1000), (.str s152 1001), (.str s151 1002), (.str s149 1003), (.str s153 1004), (.str s158 1005), (.str s159 1006)]⟩ 0), ⟨[]⟩⟩
noncomputable def o450 (P : Params) : Obj := ⟨(.type PySem.W.SL.s2766695959194262286x5), .none, (.seq ⟨[]⟩ 0), ⟨[]⟩⟩
noncomputable def o451 (P : Params) : Obj := ⟨.none, .none, (.func ⟨s178, s178, fPar (dS 23), .stmts (fBody (dS 23)), fScope (dS 23), 0, [], .none, .none, .none, .none, .none, .none, .none, 0⟩), ⟨[]⟩⟩
noncomputable def o452 (P : Params) : Obj := ⟨(.type PySem.W.SL.s5856160107412720595x4), .none, (.fields ⟨[(.str s178 995), (.str s178 996), (.str s191 997), (.int (.ofNat 531) 0), (.int (.ofNat 2) 0), (.int (.ofNat 0) 0), (.int (.ofNat 0) 0), (.int (.ofNat 3) 0), (.ref 447), (.bool true), (.int (.ofNat 181) 0), (.ref 448), .none, (.ref 449), (.ref 450), (.ref 451), (.int (.ofNat 1007) 0), (.int (.ofNat 531) 0), (.str s191 1008)]⟩), ⟨[]⟩⟩
noncomputable def o453 (P : Params) : Obj := ⟨(.type PySem.W.SL.s7174869446012820540x8), .none, (.func ⟨s178, s178, fPar (dS 23), .stmts (fBody (dS 23)), fScope (dS 23), 3, [], .none, .none, .none, (.str s122 867), .none, (.ref 452), .none, 0⟩), ⟨[]⟩⟩
noncomputable def o454 (P : Params) : Obj := ⟨(.type PySem.W.SL.s2766695959194262286x5), .none, (.seq ⟨[]⟩ 0), ⟨[]⟩⟩
noncomputable def o455 (P : Params) : Obj := ⟨.none, .none, (.fields ⟨[]⟩), ⟨[]⟩⟩
noncomputable def o456 (P : Params) : Obj := ⟨(.type PySem.W.SL.s2766695959194262286x5), .none, (.seq ⟨[(.str s177 1013), (.str s175 1014), (.str s148 1015), (.str s152 1016), (.str s151 1017), (.str s149 1018), (.str s153 1019), (.str s158 1020), (.str s159 1021), (.str s180 1022), (.str s181 1023), (.str s162 1024), (.str s182 1025), (.str s183 1026), (.str s184 1027)]⟩ 0), ⟨[]⟩⟩
noncomputable def o457 (P : Params) : Obj := ⟨(.type PySem.W.SL.s2766695959194262286x5), .none, (.seq ⟨[]⟩ 0), ⟨[]⟩⟩
noncomputable def o458 (P : Params) : Obj := ⟨.none, .none, (.func ⟨s179, s179, fPar (dS 24), .stmts (fBody (dS 24)), fScope (dS 24), 0, [], .none, .none, .none, .none, .none, .none, .none, 0⟩), ⟨[]⟩⟩
noncomputable def o459 (P : Params) : Obj := ⟨(.type PySem.W.SL.s5856160107412720595x4), .none, (.fields ⟨[(.str s179 1010), (.str s179 1011), (.str s191 1012), (.int (.ofNat 542) 0), (.int (.ofNat 2) 0), (.int (.ofNat 0) 0), (.int (.ofNat 0) 0), (.int (.ofNat 3) 0), (.ref 454), (.bool true), (.int (.ofNat 181) 0), (.ref 455), .none, (.ref 456), (.ref 457), (.ref 458), (.int (.ofNat 1028) 0), (.int (.ofNat 542) 0), (.str s191 1029)]⟩), ⟨[]⟩⟩
noncomputable def o460 (P : Params) : Obj := ⟨(.type PySem.W.SL.s7174869446012820540x8), .none, (.func ⟨s179, s179, fPar (dS 24), .stmts (fBody (dS 24)), fScope (dS 24), 3, [], .none, .none, .none, (.str s122 867), .none, (.ref 459), .none, 0⟩), ⟨[]⟩⟩
noncomputable def o461 (P : Params) : Obj := ⟨(.type PySem.W.SL.s2766695959194262286x5), .none, (.seq ⟨[]⟩ 0), ⟨[]⟩⟩
noncomputable def o462 (P : Params) : Obj := ⟨.none, .none, (.fields ⟨[]⟩), ⟨[]⟩⟩
noncomputable def o463 (P : Params) : Obj := ⟨(.type PySem.W.SL.s2766695959194262286x5), .none, (.seq ⟨[(.str s138 1034), (.str s145 1035), (.str s186 1036), (.str s187 1037), (.str s188 1038), (.str s1 1039), (.str s189 1040), (.str s190 1041)]⟩ 0), ⟨[]⟩⟩
noncomputable def o464 (P : Params) : Obj := ⟨(.type PySem.W.SL.s2766695959194262286x5), .none, (.seq ⟨[]⟩ 0), ⟨[]⟩⟩
noncomputable def o465 (P : Params) : Obj := ⟨.none, .none, (.func ⟨s185, s185, fPar (dS 25), .stmts (fBody (dS 25)), fScope (dS 25), 0, [], .none, .none, .none, .none, .none, .none, .none, 0⟩), ⟨[]⟩⟩
noncomputable def o466 (P : Params) : Obj := ⟨(.type PySem.W.SL.s5856160107412720595x4), .none, (.fields ⟨[(.str s185 1031), (.str s185 1032), (.str s191 1033), (.int (.ofNat 554) 0), (.int (.ofNat 1) 0), (.int (.ofNat 0) 0), (.int (.ofNat 0) 0), (.int (.ofNat 3) 0), (.ref 461), (.bool true), (.int (.ofNat 181) 0), (.ref 462), .none, (.ref 463), (.ref 464), (.ref 465), (.int (.ofNat 1042) 0), (.int (.ofNat 554) 0), (.str s191 1043)]⟩), ⟨[]⟩⟩
noncomputable def o467 (P : Params) : Obj := ⟨(.type PySem.W.SL.s7174869446012820540x8), .none, (.func ⟨s185, s185, fPar (dS 25), .stmts (fBody (dS 25)), fScope (dS 25), 3, [], .none, .none, .none, (.str s122 867), .none, (.ref 466), .none, 0⟩), ⟨[]⟩⟩
noncomputable def T_a (P : Params) (S : Obj) : BT := (.node (o0 P) (.node (o1 P) (.node (o3 P) (.node (o7 P) .nil .nil) (.node (o11 P) .nil .nil)) (.node (o5 P) (.node (o9 P) .nil .nil) (.node (o13 P) .nil .nil))) (.node (o2 P) (.node (o4 P) (.node (o8 P) .nil .nil) (.node (o12 P) .nil .nil)) (.node (o6 P) (.node (o10 P) .nil .nil) (.node (o14 P) .nil .nil))))
noncomputable def T_p1 (P : Params) (S : Obj) : BT := (.node (o0 P) (.node (o1 P) (.node (o3v1 P) (.node (o7 P) (.node (o15 P) .nil .nil) .nil) (.node (o11 P) (.node (o19 P) .nil .nil) .nil)) (.node (o5 P) (.node (o9 P) (.node (o17 P) .nil .nil) .nil) (.node (o13 P) (.node (o21 P) .nil .nil) .nil))) (.node (o2 P) (.node (o4 P) (.node (o8 P) (.node (o16 P) .nil .nil) .nil) (.node (o12v1 P) (.node (o20 P) .nil .nil) .nil)) (.node (o6 P) (.node (o10 P) (.node (o18 P) .nil .nil) .nil) (.node (o14 P) .nil .nil))))
noncomputable def T_p2 (P : Params) (S : Obj) : BT := (.node (o0 P) (.node (o1 P) (.node (o3v2 P) (.node (o7 P) (.node (o15 P) (.node (o31 P) (.node (o63 P) (.node (o127 P) .nil .nil) (.node (o191 P) .nil .nil)) (.node (o95 P) (.node (o159 P) .nil .nil) .nil)) (.node (o47 P) (.node (o79 P) (.node (o143 P) .nil .nil) .nil) (.node (o111 P) (.node (o175 P) .nil .nil) .nil))) (.node (o23 P) (.node (o39 P) (.node (o71 P) (.node (o135 P) .nil .nil) (.node (o199 P) .nil .nil)) (.node (o103 P) (.node (o167 P) .nil .nil) .nil)) (.node (o55 P) (.node (o87 P) (.node (o151 P) .nil .nil) .nil) (.node (o119 P) (.node (o183 P) .nil .nil) .nil)))) (.node (o11 P) (.node (o19 P) (.node (o35 P) (.node (o67 P) (.node (o131 P) .nil .nil) (.node (o195 P) .nil .nil)) (.node (o99 P) (.node (o163 P) .nil .nil) .nil)) (.node (o51 P) (.node (o83 P) (.node (o147 P) .nil .nil) .nil) (.node (o115 P) (.node (o179 P) .nil .nil) .nil))) (.node (o27 P) (.node (o43 P) (.node (o75 P) (.node (o139 P) .nil .nil) (.node (o203 P) .nil .nil)) (.node (o107 P) (.node (o171 P) .nil .nil) .nil)) (.node (o59 P) (.node (o91 P) (.node (o155 P) .nil .nil) .nil) (.node (o123 P) (.node (o187 P) .nil .nil) .nil))))) (.node (o5 P) (.node (o9 P) (.node (o17 P) (.node (o33 P) (.node (o65 P) (.node (o129 P) .nil .nil) (.node (o193 P) .nil .nil)) (.node (o97 P) (.node (o161 P) .nil .nil) .nil)) (.node (o49 P) (.node (o81 P) (.node (o145 P) .nil .nil) .nil) (.node (o113 P) (.node (o177 P) .nil .nil) .nil))) (.node (o25 P) (.node (o41 P) (.node (o73 P) (.node (o137 P) .nil .nil) (.node (o201 P) .nil .nil)) (.node (o105 P) (.node (o169 P) .nil .nil) .nil)) (.node (o57 P) (.node (o89 P) (.node (o153 P) .nil .nil) .nil) (.node (o121 P) (.node (o185 P) .nil .nil) .nil)))) (.node (o13 P) (.node (o21 P) (.node (o37 P) (.node (o69 P) (.node (o133 P) .nil .nil) (.node (o197 P) .nil .nil)) (.node (o101 P) (.node (o165 P) .nil .nil) .nil)) (.node (o53 P) (.node (o85 P) (.node (o149 P) .nil .nil) .nil) (.node (o117 P) (.node (o181 P) .nil .nil) .nil))) (.node (o29 P) (.node (o45 P) (.node (o77 P) (.node (o141 P) .nil .nil) .nil) (.node (o109 P) (.node (o173 P) .nil .nil) .nil)) (.node (o61 P) (.node (o93 P) (.node (o157 P) .nil .nil) .nil) (.node (o125 P) (.node (o189 P) .nil .nil) .nil)))))) (.node (o2 P) (.node (o4 P) (.node (o8 P) (.node (o16 P) (.node (o32 P) (.node (o64 P) (.node (o128 P) .nil .nil) (.node (o192 P) .nil .nil)) (.node (o96 P) (.node (o160 P) .nil .nil) .nil)) (.node (o48 P) (.node (o80 P) (.node (o144 P) .nil .nil) .nil) (.node (o112 P) (.node (o176 P) .nil .nil) .nil))) (.node (o24 P) (.node (o40 P) (.node (o72 P) (.node (o136 P) .nil .nil) (.node (o200 P) .nil .nil)) (.node (o104 P) (.node (o168 P) .nil .nil) .nil)) (.node (o56 P) (.node (o88 P) (.node (o152 P) .nil .nil) .nil) (.node (o120 P) (.node (o184 P) .nil .nil) .nil)))) (.node (o12v2 P) (.node (o20 P) (.node (o36 P) (.node (o68 P) (.node (o132 P) .nil .nil) (.node (o196 P) .nil .nil)) (.node (o100 P) (.node (o164 P) .nil .nil) .nil)) (.node (o52 P) (.node (o84 P) (.node (o148 P) .nil .nil) .nil) (.node (o116 P) (.node (o180 P) .nil .nil) .nil))) (.node (o28 P) (.node (o44 P) (.node (o76 P) (.node (o140 P) .nil .nil) .nil) (.node (o108 P) (.node (o172 P) .nil .nil) .nil)) (.node (o60 P) (.node (o92 P) (.node (o156 P) .nil .nil) .nil) (.node (o124 P) (.node (o188 P) .nil .nil) .nil))))) (.node (o6 P) (.node (o10 P) (.node (o18 P) (.node (o34 P) (.node (o66 P) (.node (o130 P) .nil .nil) (.node (o194 P) .nil .nil)) (.node (o98 P) (.node (o162 P) .nil .nil) .nil)) (.node (o50 P) (.node (o82 P) (.node (o146 P) .nil .nil) .nil) (.node (o114 P) (.node (o178 P) .nil .nil) .nil))) (.node (o26 P) (.node (o42 P) (.node (o74 P) (.node (o138 P) .nil .nil) (.node (o202 P) .nil .nil)) (.node (o106 P) (.node (o170 P) .nil .nil) .nil)) (.node (o58 P) (.node (o90 P) (.node (o154 P) .nil .nil) .nil) (.node (o122 P) (.node (o186 P) .nil .nil) .nil)))) (.node (o14 P) (.node (o22 P) (.node (o38 P) (.node (o70 P) (.node (o134 P) .nil .nil) (.node (o198 P) .nil .nil)) (.node (o102 P) (.node (o166 P) .nil .nil) .nil)) (.node (o54 P) (.node (o86 P) (.node (o150 P) .nil .nil) .nil) (.node (o118 P) (.node (o182 P) .nil .nil) .nil))) (.node (o30 P) (.node (o46 P) (.node (o78 P) (.node (o142 P) .nil .nil) .nil) (.node (o110 P) (.node (o174 P) .nil .nil) .nil)) (.node (o62 P) (.node (o94 P) (.node (o158 P) .nil .nil) .nil) (.node (o126 P) (.node (o190 P) .nil .nil) .nil)))))))
noncomputable def T_p5 (P : Params) (S : Obj) : BT := (.node (o0 P) (.node (o1 P) (.node (o3v3 P) (.node (o7 P) (.node (o15 P) (.node (o31 P) (.node (o63 P) (.node (o127 P) .nil .nil) (.node (o191 P) .nil .nil)) (.node (o95 P) (.node (o159 P) .nil .nil) (.node (o223 P) .nil .nil))) (.node (o47 P) (.node (o79 P) (.node (o143 P) .nil .nil) (.node (o207 P) .nil .nil)) (.node (o111 P) (.node (o175 P) .nil .nil) .nil))) (.node (o23 P) (.node (o39 P) (.node (o71 P) (.node (o135 P) .nil .nil) (.node (o199 P) .nil .nil)) (.node (o103 P) (.node (o167 P) .nil .nil) .nil)) (.node (o55 P) (.node (o87 P) (.node (o151 P) .nil .nil) (.node (o215 P) .nil .nil)) (.node (o119 P) (.node (o183 P) .nil .nil) .nil)))) (.node (o11 P) (.node (o19 P) (.node (o35 P) (.node (o67 P) (.node (o131 P) .nil .nil) (.node (o195 P) .nil .nil)) (.node (o99 P) (.node (o163 P) .nil .nil) .nil)) (.node (o51 P) (.node (o83 P) (.node (o147 P) .nil .nil) (.node (o211 P) .nil .nil)) (.node (o115 P) (.node (o179 P) .nil .nil) .nil))) (.node (o27 P) (.node (o43 P) (.node (o75 P) (.node (o139 P) .nil .nil) (.node (o203 P) .nil .nil)) (.node (o107 P) (.node (o171 P) .nil .nil) .nil)) (.node (o59 P) (.node (o91 P) (.node (o155 P) .nil .nil) (.node (o219 P) .nil .nil)) (.node (o123 P) (.node (o187 P) .nil .nil) .nil))))) (.node (o5 P) (.node (o9 P) (.node (o17 P) (.node (o33 P) (.node (o65 P) (.node (o129 P) .nil .nil) (.node (o193 P) .nil .nil)) (.node (o97 P) (.node (o161 P) .nil .nil) .nil)) (.node (o49 P) (.node (o81 P) (.node (o145 P) .nil .nil) (.node (o209 P) .nil .nil)) (.node (o113 P) (.node (o177 P) .nil .nil) .nil))) (.node (o25 P) (.node (o41 P) (.node (o73 P) (.node (o137 P) .nil .nil) (.node (o201 P) .nil .nil)) (.node (o105 P) (.node (o169 P) .nil .nil) .nil)) (.node (o57 P) (.node (o89 P) (.node (o153 P) .nil .nil) (.node (o217 P) .nil .nil)) (.node (o121 P) (.node (o185 P) .nil .nil) .nil)))) (.node (o13 P) (.node (o21 P) (.node (o37 P) (.node (o69 P) (.node (o133 P) .nil .nil) (.node (o197 P) .nil .nil)) (.node (o101 P) (.node (o165 P) .nil .nil) .nil)) (.node (o53 P) (.node (o85 P) (.node (o149 P) .nil .nil) (.node (o213 P) .nil .nil)) (.node (o117 P) (.node (o181 P) .nil .nil) .nil))) (.node (o29 P) (.node (o45 P) (.node (o77 P) (.node (o141 P) .nil .nil) (.node (o205 P) .nil .nil)) (.node (o109 P) (.node (o173 P) .nil .nil) .nil)) (.node (o61 P) (.node (o93 P) (.node (o157 P) .nil .nil) (.node (o221 P) .nil .nil)) (.node (o125 P) (.node (o189 P) .nil .nil) .nil)))))) (.node (o2 P) (.node (o4 P) (.node (o8 P) (.node (o16 P) (.node (o32 P) (.node (o64 P) (.node (o128 P) .nil .nil) (.node (o192 P) .nil .nil)) (.node (o96 P) (.node (o160 P) .nil .nil) (.node (o224 P) .nil .nil))) (.node (o48 P) (.node (o80 P) (.node (o144 P) .nil .nil) (.node (o208 P) .nil .nil)) (.node (o112 P) (.node (o176 P) .nil .nil) .nil))) (.node (o24 P) (.node (o40 P) (.node (o72 P) (.node (o136 P) .nil .nil) (.node (o200 P) .nil .nil)) (.node (o104 P) (.node (o168 P) .nil .nil) .nil)) (.node (o56 P) (.node (o88 P) (.node (o152 P) .nil .nil) (.node (o216 P) .nil .nil)) (.node (o120 P) (.node (o184 P) .nil .nil) .nil)))) (.node (o12v3 P) (.node (o20 P) (.node (o36 P) (.node (o68 P) (.node (o132 P) .nil .nil) (.node (o196 P) .nil .nil)) (.node (o100 P) (.node (o164 P) .nil .nil) .nil)) (.node (o52 P) (.node (o84 P) (.node (o148 P) .nil .nil) (.node (o212 P) .nil .nil)) (.node (o116 P) (.node (o180 P) .nil .nil) .nil))) (.node (o28 P) (.node (o44 P) (.node (o76 P) (.node (o140 P) .nil .nil) (.node (o204 P) .nil .nil)) (.node (o108 P) (.node (o172 P) .nil .nil) .nil)) (.node (o60 P) (.node (o92 P) (.node (o156 P) .nil .nil) (.node (o220 P) .nil .nil)) (.node (o124 P) (.node (o188 P) .nil .nil) .nil))))) (.node (o6 P) (.node (o10 P) (.node (o18 P) (.node (o34 P) (.node (o66 P) (.node (o130 P) .nil .nil) (.node (o194 P) .nil .nil)) (.node (o98 P) (.node (o162 P) .nil .nil) .nil)) (.node (o50 P) (.node (o82 P) (.node (o146 P) .nil .nil) (.node (o210 P) .nil .nil)) (.node (o114 P) (.node (o178 P) .nil .nil) .nil))) (.node (o26 P) (.node (o42 P) (.node (o74 P) (.node (o138 P) .nil .nil) (.node (o202 P) .nil .nil)) (.node (o106 P) (.node (o170 P) .nil .nil) .nil)) (.node (o58 P) (.node (o90 P) (.node (o154 P) .nil .nil) (.node (o218 P) .nil .nil)) (.node (o122 P) (.node (o186 P) .nil .nil) .nil)))) (.node (o14 P) (.node (o22 P) (.node (o38 P) (.node (o70 P) (.node (o134 P) .nil .nil) (.node (o198 P) .nil .nil)) (.node (o102 P) (.node (o166 P) .nil .nil) .nil)) (.node (o54 P) (.node (o86 P) (.node (o150 P) .nil .nil) (.node (o214 P) .nil .nil)) (.node (o118 P) (.node (o182 P) .nil .nil) .nil))) (.node (o30 P) (.node (o46 P) (.node (o78 P) (.node (o142 P) .nil .nil) (.node (o206 P) .nil .nil)) (.node (o110 P) (.node (o174 P) .nil .nil) .nil)) (.node (o62 P) (.node (o94 P) (.node (o158 P) .nil .nil) (.node (o222 P) .nil .nil)) (.node (o126 P) (.node (o190 P) .nil .nil) .nil)))))))
noncomputable def T_c0 (P : Params) (S : Obj) : BT := (.node (o0 P) (.node (o1 P) (.node (o3v3 P) (.node (o7 P) (.node (o15 P) (.node (o31 P) (.node (o63 P) (.node (o127 P) .nil .nil) (.node (o191 P) .nil .nil)) (.node (o95 P) (.node (o159 P) .nil .nil) (.node (o223 P) .nil .nil))) (.node (o47 P) (.node (o79 P) (.node (o143 P) .nil .nil) (.node (o207 P) .nil .nil)) (.node (o111 P) (.node (o175 P) .nil .nil) .nil))) (.node (o23 P) (.node (o39 P) (.node (o71 P) (.node (o135 P) .nil .nil) (.node (o199 P) .nil .nil)) (.node (o103 P) (.node (o167 P) .nil .nil) (.node (o231 P) .nil .nil))) (.node (o55 P) (.node (o87 P) (.node (o151 P) .nil .nil) (.node (o215 P) .nil .nil)) (.node (o119 P) (.node (o183 P) .nil .nil) .nil)))) (.node (o11 P) (.node (o19 P) (.node (o35 P) (.node (o67 P) (.node (o131 P) .nil .nil) (.node (o195 P) .nil .nil)) (.node (o99 P) (.node (o163 P) .nil .nil) (.node (o227 P) .nil .nil))) (.node (o51 P) (.node (o83 P) (.node (o147 P) .nil .nil) (.node (o211 P) .nil .nil)) (.node (o115 P) (.node (o179 P) .nil .nil) .nil))) (.node (o27 P) (.node (o43 P) (.node (o75 P) (.node (o139 P) .nil .nil) (.node (o203 P) .nil .nil)) (.node (o107 P) (.node (o171 P) .nil .nil) .nil)) (.node (o59 P) (.node (o91 P) (.node (o155 P) .nil .nil) (.node (o219 P) .nil .nil)) (.node (o123 P) (.node (o187 P) .nil .nil) .nil))))) (.node (o5 P) (.node (o9 P) (.node (o17 P) (.node (o33 P) (.node (o65 P) (.node (o129 P) .nil .nil) (.node (o193 P) .nil .nil)) (.node (o97 P) (.node (o161 P) .nil .nil) (.node (o225 P) .nil .nil))) (.node (o49 P) (.node (o81 P) (.node (o145 P) .nil .nil) (.node (o209 P) .nil .nil)) (.node (o113 P) (.node (o177 P) .nil .nil) .nil))) (.node (o25 P) (.node (o41 P) (.node (o73 P) (.node (o137 P) .nil .nil) (.node (o201 P) .nil .nil)) (.node (o105 P) (.node (o169 P) .nil .nil) .nil)) (.node (o57 P) (.node (o89 P) (.node (o153 P) .nil .nil) (.node (o217 P) .nil .nil)) (.node (o121 P) (.node (o185 P) .nil .nil) .nil)))) (.node (o13 P) (.node (o21 P) (.node (o37 P) (.node (o69 P) (.node (o133 P) .nil .nil) (.node (o197 P) .nil .nil)) (.node (o101 P) (.node (o165 P) .nil .nil) (.node (o229 P) .nil .nil))) (.node (o53 P) (.node (o85 P) (.node (o149 P) .nil .nil) (.node (o213 P) .nil .nil)) (.node (o117 P) (.node (o181 P) .nil .nil) .nil))) (.node (o29 P) (.node (o45 P) (.node (o77 P) (.node (o141 P) .nil .nil) (.node (o205 P) .nil .nil)) (.node (o109 P) (.node (o173 P) .nil .nil) .nil)) (.node (o61 P) (.node (o93 P) (.node (o157 P) .nil .nil) (.node (o221 P) .nil .nil)) (.node (o125 P) (.node (o189 P) .nil .nil) .nil)))))) (.node (o2 P) (.node (o4 P) (.node (o8 P) (.node (o16 P) (.node (o32 P) (.node (o64 P) (.node (o128 P) .nil .nil) (.node (o192 P) .nil .nil)) (.node (o96 P) (.node (o160 P) .nil .nil) (.node (o224 P) .nil .nil))) (.node (o48 P) (.node (o80 P) (.node (o144 P) .nil .nil) (.node (o208 P) .nil .nil)) (.node (o112 P) (.node (o176 P) .nil .nil) .nil))) (.node (o24 P) (.node (o40 P) (.node (o72 P) (.node (o136 P) .nil .nil) (.node (o200 P) .nil .nil)) (.node (o104 P) (.node (o168 P) .nil .nil) .nil)) (.node (o56 P) (.node (o88 P) (.node (o152 P) .nil .nil) (.node (o216 P) .nil .nil)) (.node (o120 P) (.node (o184 P) .nil .nil) .nil)))) (.node (o12v4 P) (.node (o20 P) (.node (o36 P) (.node (o68 P) (.node (o132 P) .nil .nil) (.node (o196 P) .nil .nil)) (.node (o100 P) (.node (o164 P) .nil .nil) (.node (o228 P) .nil .nil))) (.node (o52 P) (.node (o84 P) (.node (o148 P) .nil .nil) (.node (o212 P) .nil .nil)) (.node (o116 P) (.node (o180 P) .nil .nil) .nil))) (.node (o28 P) (.node (o44 P) (.node (o76 P) (.node (o140 P) .nil .nil) (.node (o204 P) .nil .nil)) (.node (o108 P) (.node (o172 P) .nil .nil) .nil)) (.node (o60 P) (.node (o92 P) (.node (o156 P) .nil .nil) (.node (o220 P) .nil .nil)) (.node (o124 P) (.node (o188 P) .nil .nil) .nil))))) (.node (o6 P) (.node (o10 P) (.node (o18 P) (.node (o34 P) (.node (o66 P) (.node (o130 P) .nil .nil) (.node (o194 P) .nil .nil)) (.node (o98 P) (.node (o162 P) .nil .nil) (.node (o226 P) .nil .nil))) (.node (o50 P) (.node (o82 P) (.node (o146 P) .nil .nil) (.node (o210 P) .nil .nil)) (.node (o114 P) (.node (o178 P) .nil .nil) .nil))) (.node (o26 P) (.node (o42 P) (.node (o74 P) (.node (o138 P) .nil .nil) (.node (o202 P) .nil .nil)) (.node (o106 P) (.node (o170 P) .nil .nil) .nil)) (.node (o58 P) (.node (o90 P) (.node (o154 P) .nil .nil) (.node (o218 P) .nil .nil)) (.node (o122 P) (.node (o186 P) .nil .nil) .nil)))) (.node (o14 P) (.node (o22 P) (.node (o38 P) (.node (o70 P) (.node (o134 P) .nil .nil) (.node (o198 P) .nil .nil)) (.node (o102 P) (.node (o166 P) .nil .nil) (.node (o230 P) .nil .nil))) (.node (o54 P) (.node (o86 P) (.node (o150 P) .nil .nil) (.node (o214 P) .nil .nil)) (.node (o118 P) (.node (o182 P) .nil .nil) .nil))) (.node (o30 P) (.node (o46 P) (.node (o78 P) (.node (o142 P) .nil .nil) (.node (o206 P) .nil .nil)) (.node (o110 P) (.node (o174 P) .nil .nil) .nil)) (.node (o62 P) (.node (o94 P) (.node (o158 P) .nil .nil) (.node (o222 P) .nil .nil)) (.node (o126 P) (.node (o190 P) .nil .nil) .nil)))))))
noncomputable def T_l202 (P : Params) (S : Obj) : BT := (.node (o0 P) (.node (o1 P) (.node (o3v3 P) (.node (o7 P) (.node (o15 P) (.node (o31 P) (.node (o63 P) (.node (o127 P) .nil .nil) (.node (o191 P) .nil .nil)) (.node (o95 P) (.node (o159 P) .nil .nil) (.node (o223 P) .nil .nil))) (.node (o47 P) (.node (o79 P) (.node (o143 P) .nil .nil) (.node (o207 P) .nil .nil)) (.node (o111 P) (.node (o175 P) .nil .nil) .nil))) (.node (o23 P) (.node (o39 P) (.node (o71 P) (.node (o135 P) .nil .nil) (.node (o199 P) .nil .nil)) (.node (o103 P) (.node (o167 P) .nil .nil) (.node (o231 P) .nil .nil))) (.node (o55 P) (.node (o87 P) (.node (o151 P) .nil .nil) (.node (o215 P) .nil .nil)) (.node (o119 P) (.node (o183 P) .nil .nil) .nil)))) (.node (o11 P) (.node (o19 P) (.node (o35 P) (.node (o67 P) (.node (o131 P) .nil .nil) (.node (o195 P) .nil .nil)) (.node (o99 P) (.node (o163 P) .nil .nil) (.node (o227v1 P) .nil .nil))) (.node (o51 P) (.node (o83 P) (.node (o147 P) .nil .nil) (.node (o211 P) .nil .nil)) (.node (o115 P) (.node (o179 P) .nil .nil) .nil))) (.node (o27 P) (.node (o43 P) (.node (o75 P) (.node (o139 P) .nil .nil) (.node (o203 P) .nil .nil)) (.node (o107 P) (.node (o171 P) .nil .nil) .nil)) (.node (o59 P) (.node (o91 P) (.node (o155 P) .nil .nil) (.node (o219 P) .nil .nil)) (.node (o123 P) (.node (o187 P) .nil .nil) .nil))))) (.node (o5 P) (.node (o9 P) (.node (o17 P) (.node (o33 P) (.node (o65 P) (.node (o129 P) .nil .nil) (.node (o193 P) .nil .nil)) (.node (o97 P) (.node (o161 P) .nil .nil) (.node (o225 P) .nil .nil))) (.node (o49 P) (.node (o81 P) (.node (o145 P) .nil .nil) (.node (o209 P) .nil .nil)) (.node (o113 P) (.node (o177 P) .nil .nil) .nil))) (.node (o25 P) (.node (o41 P) (.node (o73 P) (.node (o137 P) .nil .nil) (.node (o201 P) .nil .nil)) (.node (o105 P) (.node (o169 P) .nil .nil) .nil)) (.node (o57 P) (.node (o89 P) (.node (o153 P) .nil .nil) (.node (o217 P) .nil .nil)) (.node (o121 P) (.node (o185 P) .nil .nil) .nil)))) (.node (o13 P) (.node (o21 P) (.node (o37 P) (.node (o69 P) (.node (o133 P) .nil .nil) (.node (o197 P) .nil .nil)) (.node (o101 P) (.node (o165 P) .nil .nil) (.node (o229 P) .nil .nil))) (.node (o53 P) (.node (o85 P) (.node (o149 P) .nil .nil) (.node (o213 P) .nil .nil)) (.node (o117 P) (.node (o181 P) .nil .nil) .nil))) (.node (o29 P) (.node (o45 P) (.node (o77 P) (.node (o141 P) .nil .nil) (.node (o205 P) .nil .nil)) (.node (o109 P) (.node (o173 P) .nil .nil) .nil)) (.node (o61 P) (.node (o93 P) (.node (o157 P) .nil .nil) (.node (o221 P) .nil .nil)) (.node (o125 P) (.node (o189 P) .nil .nil) .nil)))))) (.node (o2 P) (.node (o4 P) (.node (o8 P) (.node (o16 P) (.node (o32 P) (.node (o64 P) (.node (o128 P) .nil .nil) (.node (o192 P) .nil .nil)) (.node (o96 P) (.node (o160 P) .nil .nil) (.node (o224 P) .nil .nil))) (.node (o48 P) (.node (o80 P) (.node (o144 P) .nil .nil) (.node (o208 P) .nil .nil)) (.node (o112 P) (.node (o176 P) .nil .nil) .nil))) (.node (o24 P) (.node (o40 P) (.node (o72 P) (.node (o136 P) .nil .nil) (.node (o200 P) .nil .nil)) (.node (o104 P) (.node (o168 P) .nil .nil) (.node S .nil .nil))) (.node (o56 P) (.node (o88 P) (.node (o152 P) .nil .nil) (.node (o216 P) .nil .nil)) (.node (o120 P) (.node (o184 P) .nil .nil) .nil)))) (.node (o12v4 P) (.node (o20 P) (.node (o36 P) (.node (o68 P) (.node (o132 P) .nil .nil) (.node (o196 P) .nil .nil)) (.node (o100 P) (.node (o164 P) .nil .nil) (.node (o228 P) .nil .nil))) (.node (o52 P) (.node (o84 P) (.node (o148 P) .nil .nil) (.node (o212 P) .nil .nil)) (.node (o116 P) (.node (o180 P) .nil .nil) .nil))) (.node (o28 P) (.node (o44 P) (.node (o76 P) (.node (o140 P) .nil .nil) (.node (o204 P) .nil .nil)) (.node (o108 P) (.node (o172 P) .nil .nil) .nil)) (.node (o60 P) (.node (o92 P) (.node (o156 P) .nil .nil) (.node (o220 P) .nil .nil)) (.node (o124 P) (.node (o188 P) .nil .nil) .nil))))) (.node (o6 P) (.node (o10 P) (.node (o18 P) (.node (o34 P) (.node (o66 P) (.node (o130 P) .nil .nil) (.node (o194 P) .nil .nil)) (.node (o98 P) (.node (o162 P) .nil .nil) (.node (o226 P) .nil .nil))) (.node (o50 P) (.node (o82 P) (.node (o146 P) .nil .nil) (.node (o210 P) .nil .nil)) (.node (o114 P) (.node (o178 P) .nil .nil) .nil))) (.node (o26 P) (.node (o42 P) (.node (o74 P) (.node (o138 P) .nil .nil) (.node (o202 P) .nil .nil)) (.node (o106 P) (.node (o170 P) .nil .nil) .nil)) (.node (o58 P) (.node (o90 P) (.node (o154 P) .nil .nil) (.node (o218 P) .nil .nil)) (.node (o122 P) (.node (o186 P) .nil .nil) .nil)))) (.node (o14 P) (.node (o22 P) (.node (o38 P) (.node (o70 P) (.node (o134 P) .nil .nil) (.node (o198 P) .nil .nil)) (.node (o102 P) (.node (o166 P) .nil .nil) (.node (o230 P) .nil .nil))) (.node (o54 P) (.node (o86 P) (.node (o150 P) .nil .nil) (.node (o214 P) .nil .nil)) (.node (o118 P) (.node (o182 P) .nil .nil) .nil))) (.node (o30 P) (.node (o46 P) (.node (o78 P) (.node (o142 P) .nil .nil) (.node (o206 P) .nil .nil)) (.node (o110 P) (.node (o174 P) .nil .nil) .nil)) (.node (o62 P) (.node (o94 P) (.node (o158 P) .nil .nil) (.node (o222 P) .nil .nil)) (.node (o126 P) (.node (o190 P) .nil .nil) .nil)))))))
noncomputable def T_l426 (P : Params) (S : Obj) : BT := (.node (o0 P) (.node (o1 P) (.node (o3v3 P) (.node (o7 P) (.node (o15 P) (.node (o31 P) (.node (o63 P) (.node (o127 P) (.node (o255 P) .nil .nil) .nil) (.node (o191 P) .nil .nil)) (.node (o95 P) (.node (o159 P) .nil .nil) (.node (o223 P) .nil .nil))) (.node (o47 P) (.node (o79 P) (.node (o143 P) (.node (o271 P) .nil .nil) .nil) (.node (o207 P) .nil .nil)) (.node (o111 P) (.node (o175 P) .nil .nil) (.node (o239 P) .nil .nil)))) (.node (o23 P) (.node (o39 P) (.node (o71 P) (.node (o135 P) (.node (o263 P) .nil .nil) .nil) (.node (o199 P) .nil .nil)) (.node (o103 P) (.node (o167 P) .nil .nil) (.node (o231 P) .nil .nil))) (.node (o55 P) (.node (o87 P) (.node (o151 P) .nil .nil) (.node (o215 P) .nil .nil)) (.node (o119 P) (.node (o183 P) .nil .nil) (.node (o247 P) .nil .nil))))) (.node (o11 P) (.node (o19 P) (.node (o35 P) (.node (o67 P) (.node (o131 P) (.node (o259 P) .nil .nil) .nil) (.node (o195 P) .nil .nil)) (.node (o99 P) (.node (o163 P) .nil .nil) (.node (o227v2 P) .nil .nil))) (.node (o51 P) (.node (o83 P) (.node (o147 P) .nil .nil) (.node (o211 P) .nil .nil)) (.node (o115 P) (.node (o179 P) .nil .nil) (.node (o243 P) .nil .nil)))) (.node (o27 P) (.node (o43 P) (.node (o75 P) (.node (o139 P) (.node (o267 P) .nil .nil) .nil) (.node (o203 P) .nil .nil)) (.node (o107 P) (.node (o171 P) .nil .nil) (.node (o235 P) .nil .nil))) (.node (o59 P) (.node (o91 P) (.node (o155 P) .nil .nil) (.node (o219 P) .nil .nil)) (.node (o123 P) (.node (o187 P) .nil .nil) (.node (o251 P) .nil .nil)))))) (.node (o5 P) (.node (o9 P) (.node (o17 P) (.node (o33 P) (.node (o65 P) (.node (o129 P) (.node (o257 P) .nil .nil) .nil) (.node (o193 P) .nil .nil)) (.node (o97 P) (.node (o161 P) .nil .nil) (.node (o225 P) .nil .nil))) (.node (o49 P) (.node (o81 P) (.node (o145 P) (.node (o273 P) .nil .nil) .nil) (.node (o209 P) .nil .nil)) (.node (o113 P) (.node (o177 P) .nil .nil) (.node (o241 P) .nil .nil)))) (.node (o25 P) (.node (o41 P) (.node (o73 P) (.node (o137 P) (.node (o265 P) .nil .nil) .nil) (.node (o201 P) .nil .nil)) (.node (o105 P) (.node (o169 P) .nil .nil) (.node (o233 P) .nil .nil))) (.node (o57 P) (.node (o89 P) (.node (o153 P) .nil .nil) (.node (o217 P) .nil .nil)) (.node (o121 P) (.node (o185 P) .nil .nil) (.node (o249 P) .nil .nil))))) (.node (o13 P) (.node (o21 P) (.node (o37 P) (.node (o69 P) (.node (o133 P) (.node (o261 P) .nil .nil) .nil) (.node (o197 P) .nil .nil)) (.node (o101 P) (.node (o165 P) .nil .nil) (.node (o229v1 P) .nil .nil))) (.node (o53 P) (.node (o85 P) (.node (o149 P) .nil .nil) (.node (o213 P) .nil .nil)) (.node (o117 P) (.node (o181 P) .nil .nil) (.node (o245 P) .nil .nil)))) (.node (o29 P) (.node (o45 P) (.node (o77 P) (.node (o141 P) (.node (o269 P) .nil .nil) .nil) (.node (o205 P) .nil .nil)) (.node (o109 P) (.node (o173 P) .nil .nil) (.node (o237 P) .nil .nil))) (.node (o61 P) (.node (o93 P) (.node (o157 P) .nil .nil) (.node (o221 P) .nil .nil)) (.node (o125 P) (.node (o189 P) .nil .nil) (.node (o253 P) .nil .nil))))))) (.node (o2 P) (.node (o4 P) (.node (o8 P) (.node (o16 P) (.node (o32 P) (.node (o64 P) (.node (o128 P) (.node (o256 P) .nil .nil) .nil) (.node (o192 P) .nil .nil)) (.node (o96 P) (.node (o160 P) .nil .nil) (.node (o224 P) .nil .nil))) (.node (o48 P) (.node (o80 P) (.node (o144 P) (.node (o272 P) .nil .nil) .nil) (.node (o208 P) .nil .nil)) (.node (o112 P) (.node (o176 P) .nil .nil) (.node (o240 P) .nil .nil)))) (.node (o24 P) (.node (o40 P) (.node (o72 P) (.node (o136 P) (.node (o264 P) .nil .nil) .nil) (.node (o200 P) .nil .nil)) (.node (o104 P) (.node (o168 P) .nil .nil) (.node S .nil .nil))) (.node (o56 P) (.node (o88 P) (.node (o152 P) .nil .nil) (.node (o216 P) .nil .nil)) (.node (o120 P) (.node (o184 P) .nil .nil) (.node (o248 P) .nil .nil))))) (.node (o12v4 P) (.node (o20 P) (.node (o36 P) (.node (o68 P) (.node (o132 P) (.node (o260 P) .nil .nil) .nil) (.node (o196 P) .nil .nil)) (.node (o100 P) (.node (o164 P) .nil .nil) (.node (o228 P) .nil .nil))) (.node (o52 P) (.node (o84 P) (.node (o148 P) .nil .nil) (.node (o212 P) .nil .nil)) (.node (o116 P) (.node (o180 P) .nil .nil) (.node (o244 P) .nil .nil)))) (.node (o28 P) (.node (o44 P) (.node (o76 P) (.node (o140 P) (.node (o268 P) .nil .nil) .nil) (.node (o204 P) .nil .nil)) (.node (o108 P) (.node (o172 P) .nil .nil) (.node (o236 P) .nil .nil))) (.node (o60 P) (.node (o92 P) (.node (o156 P) .nil .nil) (.node (o220 P) .nil .nil)) (.node (o124 P) (.node (o188 P) .nil .nil) (.node (o252 P) .nil .nil)))))) (.node (o6 P) (.node (o10 P) (.node (o18 P) (.node (o34 P) (.node (o66 P) (.node (o130 P) (.node (o258 P) .nil .nil) .nil) (.node (o194 P) .nil .nil)) (.node (o98 P) (.node (o162 P) .nil .nil) (.node (o226 P) .nil .nil))) (.node (o50 P) (.node (o82 P) (.node (o146 P) (.node (o274 P) .nil .nil) .nil) (.node (o210 P) .nil .nil)) (.node (o114 P) (.node (o178 P) .nil .nil) (.node (o242 P) .nil .nil)))) (.node (o26 P) (.node (o42 P) (.node (o74 P) (.node (o138 P) (.node (o266 P) .nil .nil) .nil) (.node (o202 P) .nil .nil)) (.node (o106 P) (.node (o170 P) .nil .nil) (.node (o234 P) .nil .nil))) (.node (o58 P) (.node (o90 P) (.node (o154 P) .nil .nil) (.node (o218 P) .nil .nil)) (.node (o122 P) (.node (o186 P) .nil .nil) (.node (o250 P) .nil .nil))))) (.node (o14 P) (.node (o22 P) (.node (o38 P) (.node (o70 P) (.node (o134 P) (.node (o262 P) .nil .nil) .nil) (.node (o198 P) .nil .nil)) (.node (o102 P) (.node (o166 P) .nil .nil) (.node (o230 P) .nil .nil))) (.node (o54 P) (.node (o86 P) (.node (o150 P) .nil .nil) (.node (o214 P) .nil .nil)) (.node (o118 P) (.node (o182 P) .nil .nil) (.node (o246 P) .nil .nil)))) (.node (o30 P) (.node (o46 P) (.node (o78 P) (.node (o142 P) (.node (o270 P) .nil .nil) .nil) (.node (o206 P) .nil .nil)) (.node (o110 P) (.node (o174 P) .nil .nil) (.node (o238 P) .nil .nil))) (.node (o62 P) (.node (o94 P) (.node (o158 P) .nil .nil) (.node (o222 P) .nil .nil)) (.node (o126 P) (.node (o190 P) .nil .nil) (.node (o254 P) .nil .nil))))))))
noncomputable def T_l427 (P : Params) (S : Obj) : BT := (.node (o0 P) (.node (o1 P) (.node (o3v3 P) (.node (o7 P) (.node (o15 P) (.node (o31 P) (.node (o63 P) (.node (o127 P) (.node (o255 P) .nil .nil) .nil) (.node (o191 P) .nil .nil)) (.node (o95 P) (.node (o159 P) .nil .nil) (.node (o223 P) .nil .nil))) (.node (o47 P) (.node (o79 P) (.node (o143 P) (.node (o271 P) .nil .nil) .nil) (.node (o207 P) .nil .nil)) (.node (o111 P) (.node (o175 P) .nil .nil) (.node (o239 P) .nil .nil)))) (.node (o23 P) (.node (o39 P) (.node (o71 P) (.node (o135 P) (.node (o263 P) .nil .nil) .nil) (.node (o199 P) .nil .nil)) (.node (o103 P) (.node (o167 P) .nil .nil) (.node (o231 P) .nil .nil))) (.node (o55 P) (.node (o87 P) (.node (o151 P) (.node (o279 P) .nil .nil) .nil) (.node (o215 P) .nil .nil)) (.node (o119 P) (.node (o183 P) .nil .nil) (.node (o247 P) .nil .nil))))) (.node (o11 P) (.node (o19 P) (.node (o35 P) (.node (o67 P) (.node (o131 P) (.node (o259 P) .nil .nil) .nil) (.node (o195 P) .nil .nil)) (.node (o99 P) (.node (o163 P) .nil .nil) (.node (o227v3 P) .nil .nil))) (.node (o51 P) (.node (o83 P) (.node (o147 P) (.node (o275 P) .nil .nil) .nil) (.node (o211 P) .nil .nil)) (.node (o115 P) (.node (o179 P) .nil .nil) (.node (o243 P) .nil .nil)))) (.node (o27 P) (.node (o43 P) (.node (o75 P) (.node (o139 P) (.node (o267 P) .nil .nil) .nil) (.node (o203 P) .nil .nil)) (.node (o107 P) (.node (o171 P) .nil .nil) (.node (o235 P) .nil .nil))) (.node (o59 P) (.node (o91 P) (.node (o155 P) (.node (o283 P) .nil .nil) .nil) (.node (o219 P) .nil .nil)) (.node (o123 P) (.node (o187 P) .nil .nil) (.node (o251 P) .nil .nil)))))) (.node (o5 P) (.node (o9 P) (.node (o17 P) (.node (o33 P) (.node (o65 P) (.node (o129 P) (.node (o257 P) .nil .nil) .nil) (.node (o193 P) .nil .nil)) (.node (o97 P) (.node (o161 P) .nil .nil) (.node (o225 P) .nil .nil))) (.node (o49 P) (.node (o81 P) (.node (o145 P) (.node (o273 P) .nil .nil) .nil) (.node (o209 P) .nil .nil)) (.node (o113 P) (.node (o177 P) .nil .nil) (.node (o241 P) .nil .nil)))) (.node (o25 P) (.node (o41 P) (.node (o73 P) (.node (o137 P) (.node (o265 P) .nil .nil) .nil) (.node (o201 P) .nil .nil)) (.node (o105 P) (.node (o169 P) .nil .nil) (.node (o233 P) .nil .nil))) (.node (o57 P) (.node (o89 P) (.node (o153 P) (.node (o281 P) .nil .nil) .nil) (.node (o217 P) .nil .nil)) (.node (o121 P) (.node (o185 P) .nil .nil) (.node (o249 P) .nil .nil))))) (.node (o13 P) (.node (o21 P) (.node (o37 P) (.node (o69 P) (.node (o133 P) (.node (o261 P) .nil .nil) .nil) (.node (o197 P) .nil .nil)) (.node (o101 P) (.node (o165 P) .nil .nil) (.node (o229v1 P) .nil .nil))) (.node (o53 P) (.node (o85 P) (.node (o149 P) (.node (o277 P) .nil .nil) .nil) (.node (o213 P) .nil .nil)) (.node (o117 P) (.node (o181 P) .nil .nil) (.node (o245 P) .nil .nil)))) (.node (o29 P) (.node (o45 P) (.node (o77 P) (.node (o141 P) (.node (o269 P) .nil .nil) .nil) (.node (o205 P) .nil .nil)) (.node (o109 P) (.node (o173 P) .nil .nil) (.node (o237 P) .nil .nil))) (.node (o61 P) (.node (o93 P) (.node (o157 P) .nil .nil) (.node (o221 P) .nil .nil)) (.node (o125 P) (.node (o189 P) .nil .nil) (.node (o253 P) .nil .nil))))))) (.node (o2 P) (.node (o4 P) (.node (o8 P) (.node (o16 P) (.node (o32 P) (.node (o64 P) (.node (o128 P) (.node (o256 P) .nil .nil) .nil) (.node (o192 P) .nil .nil)) (.node (o96 P) (.node (o160 P) .nil .nil) (.node (o224 P) .nil .nil))) (.node (o48 P) (.node (o80 P) (.node (o144 P) (.node (o272 P) .nil .nil) .nil) (.node (o208 P) .nil .nil)) (.node (o112 P) (.node (o176 P) .nil .nil) (.node (o240 P) .nil .nil)))) (.node (o24 P) (.node (o40 P) (.node (o72 P) (.node (o136 P) (.node (o264 P) .nil .nil) .nil) (.node (o200 P) .nil .nil)) (.node (o104 P) (.node (o168 P) .nil .nil) (.node S .nil .nil))) (.node (o56 P) (.node (o88 P) (.node (o152 P) (.node (o280 P) .nil .nil) .nil) (.node (o216 P) .nil .nil)) (.node (o120 P) (.node (o184 P) .nil .nil) (.node (o248 P) .nil .nil))))) (.node (o12v4 P) (.node (o20 P) (.node (o36 P) (.node (o68 P) (.node (o132 P) (.node (o260 P) .nil .nil) .nil) (.node (o196 P) .nil .nil)) (.node (o100 P) (.node (o164 P) .nil .nil) (.node (o228 P) .nil .nil))) (.node (o52 P) (.node (o84 P) (.node (o148 P) (.node (o276 P) .nil .nil) .nil) (.node (o212 P) .nil .nil)) (.node (o116 P) (.node (o180 P) .nil .nil) (.node (o244 P) .nil .nil)))) (.node (o28 P) (.node (o44 P) (.node (o76 P) (.node (o140 P) (.node (o268 P) .nil .nil) .nil) (.node (o204 P) .nil .nil)) (.node (o108 P) (.node (o172 P) .nil .nil) (.node (o236 P) .nil .nil))) (.node (o60 P) (.node (o92 P) (.node (o156 P) (.node (o284 P) .nil .nil) .nil) (.node (o220 P) .nil .nil)) (.node (o124 P) (.node (o188 P) .nil .nil) (.node (o252 P) .nil .nil)))))) (.node (o6 P) (.node (o10 P) (.node (o18 P) (.node (o34 P) (.node (o66 P) (.node (o130 P) (.node (o258 P) .nil .nil) .nil) (.node (o194 P) .nil .nil)) (.node (o98 P) (.node (o162 P) .nil .nil) (.node (o226 P) .nil .nil))) (.node (o50 P) (.node (o82 P) (.node (o146 P) (.node (o274 P) .nil .nil) .nil) (.node (o210 P) .nil .nil)) (.node (o114 P) (.node (o178 P) .nil .nil) (.node (o242 P) .nil .nil)))) (.node (o26 P) (.node (o42 P) (.node (o74 P) (.node (o138 P) (.node (o266 P) .nil .nil) .nil) (.node (o202 P) .nil .nil)) (.node (o106 P) (.node (o170 P) .nil .nil) (.node (o234 P) .nil .nil))) (.node (o58 P) (.node (o90 P) (.node (o154 P) (.node (o282 P) .nil .nil) .nil) (.node (o218 P) .nil .nil)) (.node (o122 P) (.node (o186 P) .nil .nil) (.node (o250 P) .nil .nil))))) (.node (o14 P) (.node (o22 P) (.node (o38 P) (.node (o70 P) (.node (o134 P) (.node (o262 P) .nil .nil) .nil) (.node (o198 P) .nil .nil)) (.node (o102 P) (.node (o166 P) .nil .nil) (.node (o230 P) .nil .nil))) (.node (o54 P) (.node (o86 P) (.node (o150 P) (.node (o278 P) .nil .nil) .nil) (.node (o214 P) .nil .nil)) (.node (o118 P) (.node (o182 P) .nil .nil) (.node (o246 P) .nil .nil)))) (.node (o30 P) (.node (o46 P) (.node (o78 P) (.node (o142 P) (.node (o270 P) .nil .nil) .nil) (.node (o206 P) .nil .nil)) (.node (o110 P) (.node (o174 P) .nil .nil) (.node (o238 P) .nil .nil))) (.node (o62 P) (.node (o94 P) (.node (o158 P) .nil .nil) (.node (o222 P) .nil .nil)) (.node (o126 P) (.node (o190 P) .nil .nil) (.node (o254 P) .nil .nil))))))))
noncomputable def T_l428 (P : Params) (S : Obj) : BT := (.node (o0 P) (.node (o1 P) (.node (o3v3 P) (.node (o7 P) (.node (o15 P) (.node (o31 P) (.node (o63 P) (.node (o127 P) (.node (o255 P) .nil .nil) .nil) (.node (o191 P) .nil .nil)) (.node (o95 P) (.node (o159 P) (.node (o287 P) .nil .nil) .nil) (.node (o223 P) .nil .nil))) (.node (o47 P) (.node (o79 P) (.node (o143 P) (.node (o271 P) .nil .nil) .nil) (.node (o207 P) .nil .nil)) (.node (o111 P) (.node (o175 P) .nil .nil) (.node (o239 P) .nil .nil)))) (.node (o23 P) (.node (o39 P) (.node (o71 P) (.node (o135 P) (.node (o263 P) .nil .nil) .nil) (.node (o199 P) .nil .nil)) (.node (o103 P) (.node (o167 P) .nil .nil) (.node (o231 P) .nil .nil))) (.node (o55 P) (.node (o87 P) (.node (o151 P) (.node (o279 P) .nil .nil) .nil) (.node (o215 P) .nil .nil)) (.node (o119 P) (.node (o183 P) .nil .nil) (.node (o247 P) .nil .nil))))) (.node (o11 P) (.node (o19 P) (.node (o35 P) (.node (o67 P) (.node (o131 P) (.node (o259 P) .nil .nil) .nil) (.node (o195 P) .nil .nil)) (.node (o99 P) (.node (o163 P) (.node (o291 P) .nil .nil) .nil) (.node (o227v4 P) .nil .nil))) (.node (o51 P) (.node (o83 P) (.node (o147 P) (.node (o275 P) .nil .nil) .nil) (.node (o211 P) .nil .nil)) (.node (o115 P) (.node (o179 P) .nil .nil) (.node (o243 P) .nil .nil)))) (.node (o27 P) (.node (o43 P) (.node (o75 P) (.node (o139 P) (.node (o267 P) .nil .nil) .nil) (.node (o203 P) .nil .nil)) (.node (o107 P) (.node (o171 P) .nil .nil) (.node (o235 P) .nil .nil))) (.node (o59 P) (.node (o91 P) (.node (o155 P) (.node (o283 P) .nil .nil) .nil) (.node (o219 P) .nil .nil)) (.node (o123 P) (.node (o187 P) .nil .nil) (.node (o251 P) .nil .nil)))))) (.node (o5 P) (.node (o9 P) (.node (o17 P) (.node (o33 P) (.node (o65 P) (.node (o129 P) (.node (o257 P) .nil .nil) .nil) (.node (o193 P) .nil .nil)) (.node (o97 P) (.node (o161 P) (.node (o289 P) .nil .nil) .nil) (.node (o225 P) .nil .nil))) (.node (o49 P) (.node (o81 P) (.node (o145 P) (.node (o273 P) .nil .nil) .nil) (.node (o209 P) .nil .nil)) (.node (o113 P) (.node (o177 P) .nil .nil) (.node (o241 P) .nil .nil)))) (.node (o25 P) (.node (o41 P) (.node (o73 P) (.node (o137 P) (.node (o265 P) .nil .nil) .nil) (.node (o201 P) .nil .nil)) (.node (o105 P) (.node (o169 P) .nil .nil) (.node (o233 P) .nil .nil))) (.node (o57 P) (.node (o89 P) (.node (o153 P) (.node (o281 P) .nil .nil) .nil) (.node (o217 P) .nil .nil)) (.node (o121 P) (.node (o185 P) .nil .nil) (.node (o249 P) .nil .nil))))) (.node (o13 P) (.node (o21 P) (.node (o37 P) (.node (o69 P) (.node (o133 P) (.node (o261 P) .nil .nil) .nil) (.node (o197 P) .nil .nil)) (.node (o101 P) (.node (o165 P) (.node (o293 P) .nil .nil) .nil) (.node (o229v1 P) .nil .nil))) (.node (o53 P) (.node (o85 P) (.node (o149 P) (.node (o277 P) .nil .nil) .nil) (.node (o213 P) .nil .nil)) (.node (o117 P) (.node (o181 P) .nil .nil) (.node (o245 P) .nil .nil)))) (.node (o29 P) (.node (o45 P) (.node (o77 P) (.node (o141 P) (.node (o269 P) .nil .nil) .nil) (.node (o205 P) .nil .nil)) (.node (o109 P) (.node (o173 P) .nil .nil) (.node (o237 P) .nil .nil))) (.node (o61 P) (.node (o93 P) (.node (o157 P) (.node (o285 P) .nil .nil) .nil) (.node (o221 P) .nil .nil)) (.node (o125 P) (.node (o189 P) .nil .nil) (.node (o253 P) .nil .nil))))))) (.node (o2 P) (.node (o4 P) (.node (o8 P) (.node (o16 P) (.node (o32 P) (.node (o64 P) (.node (o128 P) (.node (o256 P) .nil .nil) .nil) (.node (o192 P) .nil .nil)) (.node (o96 P) (.node (o160 P) (.node (o288 P) .nil .nil) .nil) (.node (o224 P) .nil .nil))) (.node (o48 P) (.node (o80 P) (.node (o144 P) (.node (o272 P) .nil .nil) .nil) (.node (o208 P) .nil .nil)) (.node (o112 P) (.node (o176 P) .nil .nil) (.node (o240 P) .nil .nil)))) (.node (o24 P) (.node (o40 P) (.node (o72 P) (.node (o136 P) (.node (o264 P) .nil .nil) .nil) (.node (o200 P) .nil .nil)) (.node (o104 P) (.node (o168 P) .nil .nil) (.node S .nil .nil))) (.node (o56 P) (.node (o88 P) (.node (o152 P) (.node (o280 P) .nil .nil) .nil) (.node (o216 P) .nil .nil)) (.node (o120 P) (.node (o184 P) .nil .nil) (.node (o248 P) .nil .nil))))) (.node (o12v4 P) (.node (o20 P) (.node (o36 P) (.node (o68 P) (.node (o132 P) (.node (o260 P) .nil .nil) .nil) (.node (o196 P) .nil .nil)) (.node (o100 P) (.node (o164 P) (.node (o292 P) .nil .nil) .nil) (.node (o228 P) .nil .nil))) (.node (o52 P) (.node (o84 P) (.node (o148 P) (.node (o276 P) .nil .nil) .nil) (.node (o212 P) .nil .nil)) (.node (o116 P) (.node (o180 P) .nil .nil) (.node (o244 P) .nil .nil)))) (.node (o28 P) (.node (o44 P) (.node (o76 P) (.node (o140 P) (.node (o268 P) .nil .nil) .nil) (.node (o204 P) .nil .nil)) (.node (o108 P) (.node (o172 P) .nil .nil) (.node (o236 P) .nil .nil))) (.node (o60 P) (.node (o92 P) (.node (o156 P) (.node (o284 P) .nil .nil) .nil) (.node (o220 P) .nil .nil)) (.node (o124 P) (.node (o188 P) .nil .nil) (.node (o252 P) .nil .nil)))))) (.node (o6 P) (.node (o10 P) (.node (o18 P) (.node (o34 P) (.node (o66 P) (.node (o130 P) (.node (o258 P) .nil .nil) .nil) (.node (o194 P) .nil .nil)) (.node (o98 P) (.node (o162 P) (.node (o290 P) .nil .nil) .nil) (.node (o226 P) .nil .nil))) (.node (o50 P) (.node (o82 P) (.node (o146 P) (.node (o274 P) .nil .nil) .nil) (.node (o210 P) .nil .nil)) (.node (o114 P) (.node (o178 P) .nil .nil) (.node (o242 P) .nil .nil)))) (.node (o26 P) (.node (o42 P) (.node (o74 P) (.node (o138 P) (.node (o266 P) .nil .nil) .nil) (.node (o202 P) .nil .nil)) (.node (o106 P) (.node (o170 P) .nil .nil) (.node (o234 P) .nil .nil))) (.node (o58 P) (.node (o90 P) (.node (o154 P) (.node (o282 P) .nil .nil) .nil) (.node (o218 P) .nil .nil)) (.node (o122 P) (.node (o186 P) .nil .nil) (.node (o250 P) .nil .nil))))) (.node (o14 P) (.node (o22 P) (.node (o38 P) (.node (o70 P) (.node (o134 P) (.node (o262 P) .nil .nil) .nil) (.node (o198 P) .nil .nil)) (.node (o102 P) (.node (o166 P) (.node (o294 P) .nil .nil) .nil) (.node (o230 P) .nil .nil))) (.node (o54 P) (.node (o86 P) (.node (o150 P) (.node (o278 P) .nil .nil) .nil) (.node (o214 P) .nil .nil)) (.node (o118 P) (.node (o182 P) .nil .nil) (.node (o246 P) .nil .nil)))) (.node (o30 P) (.node (o46 P) (.node (o78 P) (.node (o142 P) (.node (o270 P) .nil .nil) .nil) (.node (o206 P) .nil .nil)) (.node (o110 P) (.node (o174 P) .nil .nil) (.node (o238 P) .nil .nil))) (.node (o62 P) (.node (o94 P) (.node (o158 P) (.node (o286 P) .nil .nil) .nil) (.node (o222 P) .nil .nil)) (.node (o126 P) (.node (o190 P) .nil .nil) (.node (o254 P) .nil .nil))))))))
noncomputable def T_l429 (P : Params) (S : Obj) : BT := (.node (o0 P) (.node (o1 P) (.node (o3v3 P) (.node (o7 P) (.node (o15 P) (.node (o31 P) (.node (o63 P) (.node (o127 P) (.node (o255 P) .nil .nil) .nil) (.node (o191 P) .nil .nil)) (.node (o95 P) (.node (o159 P) (.node (o287 P) .nil .nil) .nil) (.node (o223 P) .nil .nil))) (.node (o47 P) (.node (o79 P) (.node (o143 P) (.node (o271 P) .nil .nil) .nil) (.node (o207 P) .nil .nil)) (.node (o111 P) (.node (o175 P) .nil .nil) (.node (o239 P) .nil .nil)))) (.node (o23 P) (.node (o39 P) (.node (o71 P) (.node (o135 P) (.node (o263 P) .nil .nil) .nil) (.node (o199 P) .nil .nil)) (.node (o103 P) (.node (o167 P) (.node (o295 P) .nil .nil) .nil) (.node (o231 P) .nil .nil))) (.node (o55 P) (.node (o87 P) (.node (o151 P) (.node (o279 P) .nil .nil) .nil) (.node (o215 P) .nil .nil)) (.node (o119 P) (.node (o183 P) .nil .nil) (.node (o247 P) .nil .nil))))) (.node (o11 P) (.node (o19 P) (.node (o35 P) (.node (o67 P) (.node (o131 P) (.node (o259 P) .nil .nil) .nil) (.node (o195 P) .nil .nil)) (.node (o99 P) (.node (o163 P) (.node (o291 P) .nil .nil) .nil) (.node (o227v5 P) .nil .nil))) (.node (o51 P) (.node (o83 P) (.node (o147 P) (.node (o275 P) .nil .nil) .nil) (.node (o211 P) .nil .nil)) (.node (o115 P) (.node (o179 P) .nil .nil) (.node (o243 P) .nil .nil)))) (.node (o27 P) (.node (o43 P) (.node (o75 P) (.node (o139 P) (.node (o267 P) .nil .nil) .nil) (.node (o203 P) .nil .nil)) (.node (o107 P) (.node (o171 P) (.node (o299 P) .nil .nil) .nil) (.node (o235 P) .nil .nil))) (.node (o59 P) (.node (o91 P) (.node (o155 P) (.node (o283 P) .nil .nil) .nil) (.node (o219 P) .nil .nil)) (.node (o123 P) (.node (o187 P) .nil .nil) (.node (o251 P) .nil .nil)))))) (.node (o5 P) (.node (o9 P) (.node (o17 P) (.node (o33 P) (.node (o65 P) (.node (o129 P) (.node (o257 P) .nil .nil) .nil) (.node (o193 P) .nil .nil)) (.node (o97 P) (.node (o161 P) (.node (o289 P) .nil .nil) .nil) (.node (o225 P) .nil .nil))) (.node (o49 P) (.node (o81 P) (.node (o145 P) (.node (o273 P) .nil .nil) .nil) (.node (o209 P) .nil .nil)) (.node (o113 P) (.node (o177 P) .nil .nil) (.node (o241 P) .nil .nil)))) (.node (o25 P) (.node (o41 P) (.node (o73 P) (.node (o137 P) (.node (o265 P) .nil .nil) .nil) (.node (o201 P) .nil .nil)) (.node (o105 P) (.node (o169 P) (.node (o297 P) .nil .nil) .nil) (.node (o233 P) .nil .nil))) (.node (o57 P) (.node (o89 P) (.node (o153 P) (.node (o281 P) .nil .nil) .nil) (.node (o217 P) .nil .nil)) (.node (o121 P) (.node (o185 P) .nil .nil) (.node (o249 P) .nil .nil))))) (.node (o13 P) (.node (o21 P) (.node (o37 P) (.node (o69 P) (.node (o133 P) (.node (o261 P) .nil .nil) .nil) (.node (o197 P) .nil .nil)) (.node (o101 P) (.node (o165 P) (.node (o293 P) .nil .nil) .nil) (.node (o229v1 P) .nil .nil))) (.node (o53 P) (.node (o85 P) (.node (o149 P) (.node (o277 P) .nil .nil) .nil) (.node (o213 P) .nil .nil)) (.node (o117 P) (.node (o181 P) .nil .nil) (.node (o245 P) .nil .nil)))) (.node (o29 P) (.node (o45 P) (.node (o77 P) (.node (o141 P) (.node (o269 P) .nil .nil) .nil) (.node (o205 P) .nil .nil)) (.node (o109 P) (.node (o173 P) (.node (o301 P) .nil .nil) .nil) (.node (o237 P) .nil .nil))) (.node (o61 P) (.node (o93 P) (.node (o157 P) (.node (o285 P) .nil .nil) .nil) (.node (o221 P) .nil .nil)) (.node (o125 P) (.node (o189 P) .nil .nil) (.node (o253 P) .nil .nil))))))) (.node (o2 P) (.node (o4 P) (.node (o8 P) (.node (o16 P) (.node (o32 P) (.node (o64 P) (.node (o128 P) (.node (o256 P) .nil .nil) .nil) (.node (o192 P) .nil .nil)) (.node (o96 P) (.node (o160 P) (.node (o288 P) .nil .nil) .nil) (.node (o224 P) .nil .nil))) (.node (o48 P) (.node (o80 P) (.node (o144 P) (.node (o272 P) .nil .nil) .nil) (.node (o208 P) .nil .nil)) (.node (o112 P) (.node (o176 P) .nil .nil) (.node (o240 P) .nil .nil)))) (.node (o24 P) (.node (o40 P) (.node (o72 P) (.node (o136 P) (.node (o264 P) .nil .nil) .nil) (.node (o200 P) .nil .nil)) (.node (o104 P) (.node (o168 P) (.node (o296 P) .nil .nil) .nil) (.node S .nil .nil))) (.node (o56 P) (.node (o88 P) (.node (o152 P) (.node (o280 P) .nil .nil) .nil) (.node (o216 P) .nil .nil)) (.node (o120 P) (.node (o184 P) .nil .nil) (.node (o248 P) .nil .nil))))) (.node (o12v4 P) (.node (o20 P) (.node (o36 P) (.node (o68 P) (.node (o132 P) (.node (o260 P) .nil .nil) .nil) (.node (o196 P) .nil .nil)) (.node (o100 P) (.node (o164 P) (.node (o292 P) .nil .nil) .nil) (.node (o228 P) .nil .nil))) (.node (o52 P) (.node (o84 P) (.node (o148 P) (.node (o276 P) .nil .nil) .nil) (.node (o212 P) .nil .nil)) (.node (o116 P) (.node (o180 P) .nil .nil) (.node (o244 P) .nil .nil)))) (.node (o28 P) (.node (o44 P) (.node (o76 P) (.node (o140 P) (.node (o268 P) .nil .nil) .nil) (.node (o204 P) .nil .nil)) (.node (o108 P) (.node (o172 P) (.node (o300 P) .nil .nil) .nil) (.node (o236 P) .nil .nil))) (.node (o60 P) (.node (o92 P) (.node (o156 P) (.node (o284 P) .nil .nil) .nil) (.node (o220 P) .nil .nil)) (.node (o124 P) (.node (o188 P) .nil .nil) (.node (o252 P) .nil .nil)))))) (.node (o6 P) (.node (o10 P) (.node (o18 P) (.node (o34 P) (.node (o66 P) (.node (o130 P) (.node (o258 P) .nil .nil) .nil) (.node (o194 P) .nil .nil)) (.node (o98 P) (.node (o162 P) (.node (o290 P) .nil .nil) .nil) (.node (o226 P) .nil .nil))) (.node (o50 P) (.node (o82 P) (.node (o146 P) (.node (o274 P) .nil .nil) .nil) (.node (o210 P) .nil .nil)) (.node (o114 P) (.node (o178 P) .nil .nil) (.node (o242 P) .nil .nil)))) (.node (o26 P) (.node (o42 P) (.node (o74 P) (.node (o138 P) (.node (o266 P) .nil .nil) .nil) (.node (o202 P) .nil .nil)) (.node (o106 P) (.node (o170 P) (.node (o298 P) .nil .nil) .nil) (.node (o234 P) .nil .nil))) (.node (o58 P) (.node (o90 P) (.node (o154 P) (.node (o282 P) .nil .nil) .nil) (.node (o218 P) .nil .nil)) (.node (o122 P) (.node (o186 P) .nil .nil) (.node (o250 P) .nil .nil))))) (.node (o14 P) (.node (o22 P) (.node (o38 P) (.node (o70 P) (.node (o134 P) (.node (o262 P) .nil .nil) .nil) (.node (o198 P) .nil .nil)) (.node (o102 P) (.node (o166 P) (.node (o294 P) .nil .nil) .nil) (.node (o230 P) .nil .nil))) (.node (o54 P) (.node (o86 P) (.node (o150 P) (.node (o278 P) .nil .nil) .nil) (.node (o214 P) .nil .nil)) (.node (o118 P) (.node (o182 P) .nil .nil) (.node (o246 P) .nil .nil)))) (.node (o30 P) (.node (o46 P) (.node (o78 P) (.node (o142 P) (.node (o270 P) .nil .nil) .nil) (.node (o206 P) .nil .nil)) (.node (o110 P) (.node (o174 P) .nil .nil) (.node (o238 P) .nil .nil))) (.node (o62 P) (.node (o94 P) (.node (o158 P) (.node (o286 P) .nil .nil) .nil) (.node (o222 P) .nil .nil)) (.node (o126 P) (.node (o190 P) .nil .nil) (.node (o254 P) .nil .nil))))))))
noncomputable def T_l430 (P : Params) (S : Obj) : BT := (.node (o0 P) (.node (o1 P) (.node (o3v3 P) (.node (o7 P) (.node (o15 P) (.node (o31 P) (.node (o63 P) (.node (o127 P) (.node (o255 P) .nil .nil) .nil) (.node (o191 P) (.node (o319 P) .nil .nil) .nil)) (.node (o95 P) (.node (o159 P) (.node (o287 P) .nil .nil) .nil) (.node (o223 P) .nil .nil))) (.node (o47 P) (.node (o79 P) (.node (o143 P) (.node (o271 P) .nil .nil) .nil) (.node (o207 P) .nil .nil)) (.node (o111 P) (.node (o175 P) (.node (o303 P) .nil .nil) .nil) (.node (o239 P) .nil .nil)))) (.node (o23 P) (.node (o39 P) (.node (o71 P) (.node (o135 P) (.node (o263 P) .nil .nil) .nil) (.node (o199 P) (.node (o327 P) .nil .nil) .nil)) (.node (o103 P) (.node (o167 P) (.node (o295 P) .nil .nil) .nil) (.node (o231 P) .nil .nil))) (.node (o55 P) (.node (o87 P) (.node (o151 P) (.node (o279 P) .nil .nil) .nil) (.node (o215 P) .nil .nil)) (.node (o119 P) (.node (o183 P) (.node (o311 P) .nil .nil) .nil) (.node (o247 P) .nil .nil))))) (.node (o11 P) (.node (o19 P) (.node (o35 P) (.node (o67 P) (.node (o131 P) (.node (o259 P) .nil .nil) .nil) (.node (o195 P) (.node (o323 P) .nil .nil) .nil)) (.node (o99 P) (.node (o163 P) (.node (o291 P) .nil .nil) .nil) (.node (o227v6 P) .nil .nil))) (.node (o51 P) (.node (o83 P) (.node (o147 P) (.node (o275 P) .nil .nil) .nil) (.node (o211 P) .nil .nil)) (.node (o115 P) (.node (o179 P) (.node (o307 P) .nil .nil) .nil) (.node (o243 P) .nil .nil)))) (.node (o27 P) (.node (o43 P) (.node (o75 P) (.node (o139 P) (.node (o267 P) .nil .nil) .nil) (.node (o203 P) (.node (o331 P) .nil .nil) .nil)) (.node (o107 P) (.node (o171 P) (.node (o299 P) .nil .nil) .nil) (.node (o235 P) .nil .nil))) (.node (o59 P) (.node (o91 P) (.node (o155 P) (.node (o283 P) .nil .nil) .nil) (.node (o219 P) .nil .nil)) (.node (o123 P) (.node (o187 P) (.node (o315 P) .nil .nil) .nil) (.node (o251 P) .nil .nil)))))) (.node (o5 P) (.node (o9 P) (.node (o17 P) (.node (o33 P) (.node (o65 P) (.node (o129 P) (.node (o257 P) .nil .nil) .nil) (.node (o193 P) (.node (o321 P) .nil .nil) .nil)) (.node (o97 P) (.node (o161 P) (.node (o289 P) .nil .nil) .nil) (.node (o225 P) .nil .nil))) (.node (o49 P) (.node (o81 P) (.node (o145 P) (.node (o273 P) .nil .nil) .nil) (.node (o209 P) .nil .nil)) (.node (o113 P) (.node (o177 P) (.node (o305 P) .nil .nil) .nil) (.node (o241 P) .nil .nil)))) (.node (o25 P) (.node (o41 P) (.node (o73 P) (.node (o137 P) (.node (o265 P) .nil .nil) .nil) (.node (o201 P) (.node (o329 P) .nil .nil) .nil)) (.node (o105 P) (.node (o169 P) (.node (o297 P) .nil .nil) .nil) (.node (o233 P) .nil .nil))) (.node (o57 P) (.node (o89 P) (.node (o153 P) (.node (o281 P) .nil .nil) .nil) (.node (o217 P) .nil .nil)) (.node (o121 P) (.node (o185 P) (.node (o313 P) .nil .nil) .nil) (.node (o249 P) .nil .nil))))) (.node (o13 P) (.node (o21 P) (.node (o37 P) (.node (o69 P) (.node (o133 P) (.node (o261 P) .nil .nil) .nil) (.node (o197 P) (.node (o325 P) .nil .nil) .nil)) (.node (o101 P) (.node (o165 P) (.node (o293 P) .nil .nil) .nil) (.node (o229v1 P) .nil .nil))) (.node (o53 P) (.node (o85 P) (.node (o149 P) (.node (o277 P) .nil .nil) .nil) (.node (o213 P) .nil .nil)) (.node (o117 P) (.node (o181 P) (.node (o309 P) .nil .nil) .nil) (.node (o245 P) .nil .nil)))) (.node (o29 P) (.node (o45 P) (.node (o77 P) (.node (o141 P) (.node (o269 P) .nil .nil) .nil) (.node (o205 P) .nil .nil)) (.node (o109 P) (.node (o173 P) (.node (o301 P) .nil .nil) .nil) (.node (o237 P) .nil .nil))) (.node (o61 P) (.node (o93 P) (.node (o157 P) (.node (o285 P) .nil .nil) .nil) (.node (o221 P) .nil .nil)) (.node (o125 P) (.node (o189 P) (.node (o317 P) .nil .nil) .nil) (.node (o253 P) .nil .nil))))))) (.node (o2 P) (.node (o4 P) (.node (o8 P) (.node (o16 P) (.node (o32 P) (.node (o64 P) (.node (o128 P) (.node (o256 P) .nil .nil) .nil) (.node (o192 P) (.node (o320 P) .nil .nil) .nil)) (.node (o96 P) (.node (o160 P) (.node (o288 P) .nil .nil) .nil) (.node (o224 P) .nil .nil))) (.node (o48 P) (.node (o80 P) (.node (o144 P) (.node (o272 P) .nil .nil) .nil) (.node (o208 P) .nil .nil)) (.node (o112 P) (.node (o176 P) (.node (o304 P) .nil .nil) .nil) (.node (o240 P) .nil .nil)))) (.node (o24 P) (.node (o40 P) (.node (o72 P) (.node (o136 P) (.node (o264 P) .nil .nil) .nil) (.node (o200 P) (.node (o328 P) .nil .nil) .nil)) (.node (o104 P) (.node (o168 P) (.node (o296 P) .nil .nil) .nil) (.node S .nil .nil))) (.node (o56 P) (.node (o88 P) (.node (o152 P) (.node (o280 P) .nil .nil) .nil) (.node (o216 P) .nil .nil)) (.node (o120 P) (.node (o184 P) (.node (o312 P) .nil .nil) .nil) (.node (o248 P) .nil .nil))))) (.node (o12v4 P) (.node (o20 P) (.node (o36 P) (.node (o68 P) (.node (o132 P) (.node (o260 P) .nil .nil) .nil) (.node (o196 P) (.node (o324 P) .nil .nil) .nil)) (.node (o100 P) (.node (o164 P) (.node (o292 P) .nil .nil) .nil) (.node (o228 P) .nil .nil))) (.node (o52 P) (.node (o84 P) (.node (o148 P) (.node (o276 P) .nil .nil) .nil) (.node (o212 P) .nil .nil)) (.node (o116 P) (.node (o180 P) (.node (o308 P) .nil .nil) .nil) (.node (o244 P) .nil .nil)))) (.node (o28 P) (.node (o44 P) (.node (o76 P) (.node (o140 P) (.node (o268 P) .nil .nil) .nil) (.node (o204 P) (.node (o332 P) .nil .nil) .nil)) (.node (o108 P) (.node (o172 P) (.node (o300 P) .nil .nil) .nil) (.node (o236 P) .nil .nil))) (.node (o60 P) (.node (o92 P) (.node (o156 P) (.node (o284 P) .nil .nil) .nil) (.node (o220 P) .nil .nil)) (.node (o124 P) (.node (o188 P) (.node (o316 P) .nil .nil) .nil) (.node (o252 P) .nil .nil)))))) (.node (o6 P) (.node (o10 P) (.node (o18 P) (.node (o34 P) (.node (o66 P) (.node (o130 P) (.node (o258 P) .nil .nil) .nil) (.node (o194 P) (.node (o322 P) .nil .nil) .nil)) (.node (o98 P) (.node (o162 P) (.node (o290 P) .nil .nil) .nil) (.node (o226 P) .nil .nil))) (.node (o50 P) (.node (o82 P) (.node (o146 P) (.node (o274 P) .nil .nil) .nil) (.node (o210 P) .nil .nil)) (.node (o114 P) (.node (o178 P) (.node (o306 P) .nil .nil) .nil) (.node (o242 P) .nil .nil)))) (.node (o26 P) (.node (o42 P) (.node (o74 P) (.node (o138 P) (.node (o266 P) .nil .nil) .nil) (.node (o202 P) (.node (o330 P) .nil .nil) .nil)) (.node (o106 P) (.node (o170 P) (.node (o298 P) .nil .nil) .nil) (.node (o234 P) .nil .nil))) (.node (o58 P) (.node (o90 P) (.node (o154 P) (.node (o282 P) .nil .nil) .nil) (.node (o218 P) .nil .nil)) (.node (o122 P) (.node (o186 P) (.node (o314 P) .nil .nil) .nil) (.node (o250 P) .nil .nil))))) (.node (o14 P) (.node (o22 P) (.node (o38 P) (.node (o70 P) (.node (o134 P) (.node (o262 P) .nil .nil) .nil) (.node (o198 P) (.node (o326 P) .nil .nil) .nil)) (.node (o102 P) (.node (o166 P) (.node (o294 P) .nil .nil) .nil) (.node (o230 P) .nil .nil))) (.node (o54 P) (.node (o86 P) (.node (o150 P) (.node (o278 P) .nil .nil) .nil) (.node (o214 P) .nil .nil)) (.node (o118 P) (.node (o182 P) (.node (o310 P) .nil .nil) .nil) (.node (o246 P) .nil .nil)))) (.node (o30 P) (.node (o46 P) (.node (o78 P) (.node (o142 P) (.node (o270 P) .nil .nil) .nil) (.node (o206 P) .nil .nil)) (.node (o110 P) (.node (o174 P) (.node (o302 P) .nil .nil) .nil) (.node (o238 P) .nil .nil))) (.node (o62 P) (.node (o94 P) (.node (o158 P) (.node (o286 P) .nil .nil) .nil) (.node (o222 P) .nil .nil)) (.node (o126 P) (.node (o190 P) (.node (o318 P) .nil .nil) .nil) (.node (o254 P) .nil .nil))))))))
noncomputable def T_p6 (P : Params) (S : Obj) : BT := (.node (o0 P) (.node (o1 P) (.node (o3v4 P) (.node (o7 P) (.node (o15 P) (.node (o31 P) (.node (o63 P) (.node (o127 P) (.node (o255 P) .nil .nil) .nil) (.node (o191 P) (.node (o319 P) .nil .nil) .nil)) (.node (o95 P) (.node (o159 P) (.node (o287 P) .nil .nil) .nil) (.node (o223 P) .nil .nil))) (.node (o47 P) (.node (o79 P) (.node (o143 P) (.node (o271 P) .nil .nil) .nil) (.node (o207 P) (.node (o335 P) .nil .nil) .nil)) (.node (o111 P) (.node (o175 P) (.node (o303 P) .nil .nil) .nil) (.node (o239 P) .nil .nil)))) (.node (o23 P) (.node (o39 P) (.node (o71 P) (.node (o135 P) (.node (o263 P) .nil .nil) .nil) (.node (o199v1 P) (.node (o327 P) .nil .nil) .nil)) (.node (o103 P) (.node (o167 P) (.node (o295 P) .nil .nil) .nil) (.node (o231 P) .nil .nil))) (.node (o55 P) (.node (o87 P) (.node (o151 P) (.node (o279 P) .nil .nil) .nil) (.node (o215 P) (.node (o343 P) .nil .nil) .nil)) (.node (o119 P) (.node (o183 P) (.node (o311 P) .nil .nil) .nil) (.node (o247 P) .nil .nil))))) (.node (o11 P) (.node (o19 P) (.node (o35 P) (.node (o67 P) (.node (o131 P) (.node (o259 P) .nil .nil) .nil) (.node (o195 P) (.node (o323 P) .nil .nil) .nil)) (.node (o99 P) (.node (o163 P) (.node (o291 P) .nil .nil) .nil) (.node (o227v7 P) .nil .nil))) (.node (o51 P) (.node (o83 P) (.node (o147 P) (.node (o275 P) .nil .nil) .nil) (.node (o211 P) (.node (o339 P) .nil .nil) .nil)) (.node (o115 P) (.node (o179 P) (.node (o307 P) .nil .nil) .nil) (.node (o243 P) .nil .nil)))) (.node (o27 P) (.node (o43 P) (.node (o75 P) (.node (o139 P) (.node (o267 P) .nil .nil) .nil) (.node (o203 P) (.node (o331 P) .nil .nil) .nil)) (.node (o107 P) (.node (o171 P) (.node (o299 P) .nil .nil) .nil) (.node (o235 P) .nil .nil))) (.node (o59 P) (.node (o91 P) (.node (o155 P) (.node (o283 P) .nil .nil) .nil) (.node (o219 P) .nil .nil)) (.node (o123 P) (.node (o187 P) (.node (o315 P) .nil .nil) .nil) (.node (o251 P) .nil .nil)))))) (.node (o5 P) (.node (o9 P) (.node (o17 P) (.node (o33 P) (.node (o65 P) (.node (o129 P) (.node (o257 P) .nil .nil) .nil) (.node (o193 P) (.node (o321 P) .nil .nil) .nil)) (.node (o97 P) (.node (o161 P) (.node (o289 P) .nil .nil) .nil) (.node (o225 P) .nil .nil))) (.node (o49 P) (.node (o81 P) (.node (o145 P) (.node (o273 P) .nil .nil) .nil) (.node (o209 P) (.node (o337 P) .nil .nil) .nil)) (.node (o113 P) (.node (o177 P) (.node (o305 P) .nil .nil) .nil) (.node (o241 P) .nil .nil)))) (.node (o25 P) (.node (o41 P) (.node (o73 P) (.node (o137 P) (.node (o265 P) .nil .nil) .nil) (.node (o201 P) (.node (o329 P) .nil .nil) .nil)) (.node (o105 P) (.node (o169 P) (.node (o297 P) .nil .nil) .nil) (.node (o233 P) .nil .nil))) (.node (o57 P) (.node (o89 P) (.node (o153 P) (.node (o281 P) .nil .nil) .nil) (.node (o217 P) .nil .nil)) (.node (o121 P) (.node (o185 P) (.node (o313 P) .nil .nil) .nil) (.node (o249 P) .nil .nil))))) (.node (o13 P) (.node (o21 P) (.node (o37 P) (.node (o69 P) (.node (o133 P) (.node (o261 P) .nil .nil) .nil) (.node (o197 P) (.node (o325 P) .nil .nil) .nil)) (.node (o101 P) (.node (o165 P) (.node (o293 P) .nil .nil) .nil) (.node (o229v1 P) .nil .nil))) (.node (o53 P) (.node (o85 P) (.node (o149 P) (.node (o277 P) .nil .nil) .nil) (.node (o213 P) (.node (o341 P) .nil .nil) .nil)) (.node (o117 P) (.node (o181 P) (.node (o309 P) .nil .nil) .nil) (.node (o245 P) .nil .nil)))) (.node (o29 P) (.node (o45 P) (.node (o77 P) (.node (o141 P) (.node (o269 P) .nil .nil) .nil) (.node (o205 P) (.node (o333 P) .nil .nil) .nil)) (.node (o109 P) (.node (o173 P) (.node (o301 P) .nil .nil) .nil) (.node (o237 P) .nil .nil))) (.node (o61 P) (.node (o93 P) (.node (o157 P) (.node (o285 P) .nil .nil) .nil) (.node (o221 P) .nil .nil)) (.node (o125 P) (.node (o189 P) (.node (o317 P) .nil .nil) .nil) (.node (o253 P) .nil .nil))))))) (.node (o2 P) (.node (o4 P) (.node (o8 P) (.node (o16 P) (.node (o32 P) (.node (o64 P) (.node (o128 P) (.node (o256 P) .nil .nil) .nil) (.node (o192 P) (.node (o320 P) .nil .nil) .nil)) (.node (o96 P) (.node (o160 P) (.node (o288 P) .nil .nil) .nil) (.node (o224 P) .nil .nil))) (.node (o48 P) (.node (o80 P) (.node (o144 P) (.node (o272 P) .nil .nil) .nil) (.node (o208 P) (.node (o336 P) .nil .nil) .nil)) (.node (o112 P) (.node (o176 P) (.node (o304 P) .nil .nil) .nil) (.node (o240 P) .nil .nil)))) (.node (o24 P) (.node (o40 P) (.node (o72 P) (.node (o136 P) (.node (o264 P) .nil .nil) .nil) (.node (o200 P) (.node (o328 P) .nil .nil) .nil)) (.node (o104 P) (.node (o168 P) (.node (o296 P) .nil .nil) .nil) (.node S .nil .nil))) (.node (o56 P) (.node (o88 P) (.node (o152 P) (.node (o280 P) .nil .nil) .nil) (.node (o216 P) (.node (o344 P) .nil .nil) .nil)) (.node (o120 P) (.node (o184 P) (.node (o312 P) .nil .nil) .nil) (.node (o248 P) .nil .nil))))) (.node (o12v4 P) (.node (o20 P) (.node (o36 P) (.node (o68 P) (.node (o132 P) (.node (o260 P) .nil .nil) .nil) (.node (o196 P) (.node (o324 P) .nil .nil) .nil)) (.node (o100 P) (.node (o164 P) (.node (o292 P) .nil .nil) .nil) (.node (o228 P) .nil .nil))) (.node (o52 P) (.node (o84 P) (.node (o148 P) (.node (o276 P) .nil .nil) .nil) (.node (o212 P) (.node (o340 P) .nil .nil) .nil)) (.node (o116 P) (.node (o180 P) (.node (o308 P) .nil .nil) .nil) (.node (o244 P) .nil .nil)))) (.node (o28 P) (.node (o44 P) (.node (o76 P) (.node (o140 P) (.node (o268 P) .nil .nil) .nil) (.node (o204 P) (.node (o332 P) .nil .nil) .nil)) (.node (o108 P) (.node (o172 P) (.node (o300 P) .nil .nil) .nil) (.node (o236 P) .nil .nil))) (.node (o60 P) (.node (o92 P) (.node (o156 P) (.node (o284 P) .nil .nil) .nil) (.node (o220 P) .nil .nil)) (.node (o124 P) (.node (o188 P) (.node (o316 P) .nil .nil) .nil) (.node (o252 P) .nil .nil)))))) (.node (o6 P) (.node (o10 P) (.node (o18 P) (.node (o34 P) (.node (o66 P) (.node (o130 P) (.node (o258 P) .nil .nil) .nil) (.node (o194 P) (.node (o322 P) .nil .nil) .nil)) (.node (o98 P) (.node (o162 P) (.node (o290 P) .nil .nil) .nil) (.node (o226 P) .nil .nil))) (.node (o50 P) (.node (o82 P) (.node (o146 P) (.node (o274 P) .nil .nil) .nil) (.node (o210 P) (.node (o338 P) .nil .nil) .nil)) (.node (o114 P) (.node (o178 P) (.node (o306 P) .nil .nil) .nil) (.node (o242 P) .nil .nil)))) (.node (o26 P) (.node (o42 P) (.node (o74 P) (.node (o138 P) (.node (o266 P) .nil .nil) .nil) (.node (o202 P) (.node (o330 P) .nil .nil) .nil)) (.node (o106 P) (.node (o170 P) (.node (o298 P) .nil .nil) .nil) (.node (o234 P) .nil .nil))) (.node (o58 P) (.node (o90 P) (.node (o154 P) (.node (o282 P) .nil .nil) .nil) (.node (o218 P) .nil .nil)) (.node (o122 P) (.node (o186 P) (.node (o314 P) .nil .nil) .nil) (.node (o250 P) .nil .nil))))) (.node (o14 P) (.node (o22 P) (.node (o38 P) (.node (o70 P) (.node (o134 P) (.node (o262 P) .nil .nil) .nil) (.node (o198 P) (.node (o326 P) .nil .nil) .nil)) (.node (o102 P) (.node (o166 P) (.node (o294 P) .nil .nil) .nil) (.node (o230 P) .nil .nil))) (.node (o54 P) (.node (o86 P) (.node (o150 P) (.node (o278 P) .nil .nil) .nil) (.node (o214 P) (.node (o342 P) .nil .nil) .nil)) (.node (o118 P) (.node (o182 P) (.node (o310 P) .nil .nil) .nil) (.node (o246 P) .nil .nil)))) (.node (o30 P) (.node (o46 P) (.node (o78 P) (.node (o142 P) (.node (o270 P) .nil .nil) .nil) (.node (o206 P) (.node (o334 P) .nil .nil) .nil)) (.node (o110 P) (.node (o174 P) (.node (o302 P) .nil .nil) .nil) (.node (o238 P) .nil .nil))) (.node (o62 P) (.node (o94 P) (.node (o158 P) (.node (o286 P) .nil .nil) .nil) (.node (o222 P) .nil .nil)) (.node (o126 P) (.node (o190 P) (.node (o318 P) .nil .nil) .nil) (.node (o254 P) .nil .nil))))))))
noncomputable def T_p25 (P : Params) (S : Obj) : BT := (.node (o0 P) (.node (o1 P) (.node (o3v5 P) (.node (o7 P) (.node (o15 P) (.node (o31 P) (.node (o63 P) (.node (o127 P) (.node (o255 P) .nil .nil) (.node (o383 P) .nil .nil)) (.node (o191 P) (.node (o319 P) .nil .nil) (.node (o447 P) .nil .nil))) (.node (o95 P) (.node (o159 P) (.node (o287 P) .nil .nil) (.node (o415 P) .nil .nil)) (.node (o223 P) (.node (o351 P) .nil .nil) .nil))) (.node (o47 P) (.node (o79 P) (.node (o143 P) (.node (o271 P) .nil .nil) (.node (o399 P) .nil .nil)) (.node (o207 P) (.node (o335 P) .nil .nil) (.node (o463 P) .nil .nil))) (.node (o111 P) (.node (o175 P) (.node (o303 P) .nil .nil) (.node (o431 P) .nil .nil)) (.node (o239 P) (.node (o367 P) .nil .nil) .nil)))) (.node (o23 P) (.node (o39 P) (.node (o71 P) (.node (o135 P) (.node (o263 P) .nil .nil) (.node (o391 P) .nil .nil)) (.node (o199v1 P) (.node (o327 P) .nil .nil) (.node (o455 P) .nil .nil))) (.node (o103 P) (.node (o167 P) (.node (o295 P) .nil .nil) (.node (o423 P) .nil .nil)) (.node (o231 P) (.node (o359 P) .nil .nil) .nil))) (.node (o55 P) (.node (o87 P) (.node (o151 P) (.node (o279 P) .nil .nil) (.node (o407 P) .nil .nil)) (.node (o215 P) (.node (o343 P) .nil .nil) .nil)) (.node (o119 P) (.node (o183 P) (.node (o311 P) .nil .nil) (.node (o439 P) .nil .nil)) (.node (o247 P) (.node (o375 P) .nil .nil) .nil))))) (.node (o11 P) (.node (o19 P) (.node (o35 P) (.node (o67 P) (.node (o131 P) (.node (o259 P) .nil .nil) (.node (o387 P) .nil .nil)) (.node (o195 P) (.node (o323 P) .nil .nil) (.node (o451 P) .nil .nil))) (.node (o99 P) (.node (o163 P) (.node (o291 P) .nil .nil) (.node (o419 P) .nil .nil)) (.node (o227v7 P) (.node (o355 P) .nil .nil) .nil))) (.node (o51 P) (.node (o83 P) (.node (o147 P) (.node (o275 P) .nil .nil) (.node (o403 P) .nil .nil)) (.node (o211 P) (.node (o339 P) .nil .nil) (.node (o467 P) .nil .nil))) (.node (o115 P) (.node (o179 P) (.node (o307 P) .nil .nil) (.node (o435 P) .nil .nil)) (.node (o243 P) (.node (o371 P) .nil .nil) .nil)))) (.node (o27 P) (.node (o43 P) (.node (o75 P) (.node (o139 P) (.node (o267 P) .nil .nil) (.node (o395 P) .nil .nil)) (.node (o203 P) (.node (o331 P) .nil .nil) (.node (o459 P) .nil .nil))) (.node (o107 P) (.node (o171 P) (.node (o299 P) .nil .nil) (.node (o427 P) .nil .nil)) (.node (o235 P) (.node (o363 P) .nil .nil) .nil))) (.node (o59 P) (.node (o91 P) (.node (o155 P) (.node (o283 P) .nil .nil) (.node (o411 P) .nil .nil)) (.node (o219 P) (.node (o347 P) .nil .nil) .nil)) (.node (o123 P) (.node (o187 P) (.node (o315 P) .nil .nil) (.node (o443 P) .nil .nil)) (.node (o251 P) (.node (o379 P) .nil .nil) .nil)))))) (.node (o5 P) (.node (o9 P) (.node (o17 P) (.node (o33 P) (.node (o65 P) (.node (o129 P) (.node (o257 P) .nil .nil) (.node (o385 P) .nil .nil)) (.node (o193 P) (.node (o321 P) .nil .nil) (.node (o449 P) .nil .nil))) (.node (o97 P) (.node (o161 P) (.node (o289 P) .nil .nil) (.node (o417 P) .nil .nil)) (.node (o225 P) (.node (o353 P) .nil .nil) .nil))) (.node (o49 P) (.node (o81 P) (.node (o145 P) (.node (o273 P) .nil .nil) (.node (o401 P) .nil .nil)) (.node (o209 P) (.node (o337 P) .nil .nil) (.node (o465 P) .nil .nil))) (.node (o113 P) (.node (o177 P) (.node (o305 P) .nil .nil) (.node (o433 P) .nil .nil)) (.node (o241 P) (.node (o369 P) .nil .nil) .nil)))) (.node (o25 P) (.node (o41 P) (.node (o73 P) (.node (o137 P) (.node (o265 P) .nil .nil) (.node (o393 P) .nil .nil)) (.node (o201 P) (.node (o329 P) .nil .nil) (.node (o457 P) .nil .nil))) (.node (o105 P) (.node (o169 P) (.node (o297 P) .nil .nil) (.node (o425 P) .nil .nil)) (.node (o233 P) (.node (o361 P) .nil .nil) .nil))) (.node (o57 P) (.node (o89 P) (.node (o153 P) (.node (o281 P) .nil .nil) (.node (o409 P) .nil .nil)) (.node (o217 P) (.node (o345 P) .nil .nil) .nil)) (.node (o121 P) (.node (o185 P) (.node (o313 P) .nil .nil) (.node (o441 P) .nil .nil)) (.node (o249 P) (.node (o377 P) .nil .nil) .nil))))) (.node (o13 P) (.node (o21 P) (.node (o37 P) (.node (o69 P) (.node (o133 P) (.node (o261 P) .nil .nil) (.node (o389 P) .nil .nil)) (.node (o197 P) (.node (o325 P) .nil .nil) (.node (o453 P) .nil .nil))) (.node (o101 P) (.node (o165 P) (.node (o293 P) .nil .nil) (.node (o421 P) .nil .nil)) (.node (o229v1 P) (.node (o357 P) .nil .nil) .nil))) (.node (o53 P) (.node (o85 P) (.node (o149 P) (.node (o277 P) .nil .nil) (.node (o405 P) .nil .nil)) (.node (o213 P) (.node (o341 P) .nil .nil) .nil)) (.node (o117 P) (.node (o181 P) (.node (o309 P) .nil .nil) (.node (o437 P) .nil .nil)) (.node (o245 P) (.node (o373 P) .nil .nil) .nil)))) (.node (o29 P) (.node (o45 P) (.node (o77 P) (.node (o141 P) (.node (o269 P) .nil .nil) (.node (o397 P) .nil .nil)) (.node (o205 P) (.node (o333 P) .nil .nil) (.node (o461 P) .nil .nil))) (.node (o109 P) (.node (o173 P) (.node (o301 P) .nil .nil) (.node (o429 P) .nil .nil)) (.node (o237 P) (.node (o365 P) .nil .nil) .nil))) (.node (o61 P) (.node (o93 P) (.node (o157 P) (.node (o285 P) .nil .nil) (.node (o413 P) .nil .nil)) (.node (o221 P) (.node (o349 P) .nil .nil) .nil)) (.node (o125 P) (.node (o189 P) (.node (o317 P) .nil .nil) (.node (o445 P) .nil .nil)) (.node (o253 P) (.node (o381 P) .nil .nil) .nil))))))) (.node (o2v1 P) (.node (o4 P) (.node (o8 P) (.node (o16 P) (.node (o32 P) (.node (o64 P) (.node (o128 P) (.node (o256 P) .nil .nil) (.node (o384 P) .nil .nil)) (.node (o192 P) (.node (o320 P) .nil .nil) (.node (o448 P) .nil .nil))) (.node (o96 P) (.node (o160 P) (.node (o288 P) .nil .nil) (.node (o416 P) .nil .nil)) (.node (o224 P) (.node (o352 P) .nil .nil) .nil))) (.node (o48 P) (.node (o80 P) (.node (o144 P) (.node (o272 P) .nil .nil) (.node (o400 P) .nil .nil)) (.node (o208 P) (.node (o336 P) .nil .nil) (.node (o464 P) .nil .nil))) (.node (o112 P) (.node (o176 P) (.node (o304 P) .nil .nil) (.node (o432 P) .nil .nil)) (.node (o240 P) (.node (o368 P) .nil .nil) .nil)))) (.node (o24 P) (.node (o40 P) (.node (o72 P) (.node (o136 P) (.node (o264 P) .nil .nil) (.node (o392 P) .nil .nil)) (.node (o200 P) (.node (o328 P) .nil .nil) (.node (o456 P) .nil .nil))) (.node (o104 P) (.node (o168 P) (.node (o296 P) .nil .nil) (.node (o424 P) .nil .nil)) (.node S (.node (o360 P) .nil .nil) .nil))) (.node (o56 P) (.node (o88 P) (.node (o152 P) (.node (o280 P) .nil .nil) (.node (o408 P) .nil .nil)) (.node (o216 P) (.node (o344 P) .nil .nil) .nil)) (.node (o120 P) (.node (o184 P) (.node (o312 P) .nil .nil) (.node (o440 P) .nil .nil)) (.node (o248 P) (.node (o376 P) .nil .nil) .nil))))) (.node (o12v5 P) (.node (o20 P) (.node (o36 P) (.node (o68 P) (.node (o132 P) (.node (o260 P) .nil .nil) (.node (o388 P) .nil .nil)) (.node (o196 P) (.node (o324 P) .nil .nil) (.node (o452 P) .nil .nil))) (.node (o100 P) (.node (o164 P) (.node (o292 P) .nil .nil) (.node (o420 P) .nil .nil)) (.node (o228 P) (.node (o356 P) .nil .nil) .nil))) (.node (o52 P) (.node (o84 P) (.node (o148 P) (.node (o276 P) .nil .nil) (.node (o404 P) .nil .nil)) (.node (o212 P) (.node (o340 P) .nil .nil) .nil)) (.node (o116 P) (.node (o180 P) (.node (o308 P) .nil .nil) (.node (o436 P) .nil .nil)) (.node (o244 P) (.node (o372 P) .nil .nil) .nil)))) (.node (o28 P) (.node (o44 P) (.node (o76 P) (.node (o140 P) (.node (o268 P) .nil .nil) (.node (o396 P) .nil .nil)) (.node (o204 P) (.node (o332 P) .nil .nil) (.node (o460 P) .nil .nil))) (.node (o108 P) (.node (o172 P) (.node (o300 P) .nil .nil) (.node (o428 P) .nil .nil)) (.node (o236 P) (.node (o364 P) .nil .nil) .nil))) (.node (o60 P) (.node (o92 P) (.node (o156 P) (.node (o284 P) .nil .nil) (.node (o412 P) .nil .nil)) (.node (o220 P) (.node (o348 P) .nil .nil) .nil)) (.node (o124 P) (.node (o188 P) (.node (o316 P) .nil .nil) (.node (o444 P) .nil .nil)) (.node (o252 P) (.node (o380 P) .nil .nil) .nil)))))) (.node (o6 P) (.node (o10 P) (.node (o18 P) (.node (o34 P) (.node (o66 P) (.node (o130 P) (.node (o258 P) .nil .nil) (.node (o386 P) .nil .nil)) (.node (o194 P) (.node (o322 P) .nil .nil) (.node (o450 P) .nil .nil))) (.node (o98 P) (.node (o162 P) (.node (o290 P) .nil .nil) (.node (o418 P) .nil .nil)) (.node (o226 P) (.node (o354 P) .nil .nil) .nil))) (.node (o50 P) (.node (o82 P) (.node (o146 P) (.node (o274 P) .nil .nil) (.node (o402 P) .nil .nil)) (.node (o210 P) (.node (o338 P) .nil .nil) (.node (o466 P) .nil .nil))) (.node (o114 P) (.node (o178 P) (.node (o306 P) .nil .nil) (.node (o434 P) .nil .nil)) (.node (o242 P) (.node (o370 P) .nil .nil) .nil)))) (.node (o26 P) (.node (o42 P) (.node (o74 P) (.node (o138 P) (.node (o266 P) .nil .nil) (.node (o394 P) .nil .nil)) (.node (o202 P) (.node (o330 P) .nil .nil) (.node (o458 P) .nil .nil))) (.node (o106 P) (.node (o170 P) (.node (o298 P) .nil .nil) (.node (o426 P) .nil .nil)) (.node (o234 P) (.node (o362 P) .nil .nil) .nil))) (.node (o58 P) (.node (o90 P) (.node (o154 P) (.node (o282 P) .nil .nil) (.node (o410 P) .nil .nil)) (.node (o218 P) (.node (o346 P) .nil .nil) .nil)) (.node (o122 P) (.node (o186 P) (.node (o314 P) .nil .nil) (.node (o442 P) .nil .nil)) (.node (o250 P) (.node (o378 P) .nil .nil) .nil))))) (.node (o14 P) (.node (o22 P) (.node (o38 P) (.node (o70 P) (.node (o134 P) (.node (o262 P) .nil .nil) (.node (o390 P) .nil .nil)) (.node (o198 P) (.node (o326 P) .nil .nil) (.node (o454 P) .nil .nil))) (.node (o102 P) (.node (o166 P) (.node (o294 P) .nil .nil) (.node (o422 P) .nil .nil)) (.node (o230 P) (.node (o358 P) .nil .nil) .nil))) (.node (o54 P) (.node (o86 P) (.node (o150 P) (.node (o278 P) .nil .nil) (.node (o406 P) .nil .nil)) (.node (o214 P) (.node (o342 P) .nil .nil) .nil)) (.node (o118 P) (.node (o182 P) (.node (o310 P) .nil .nil) (.node (o438 P) .nil .nil)) (.node (o246 P) (.node (o374 P) .nil .nil) .nil)))) (.node (o30 P) (.node (o46 P) (.node (o78 P) (.node (o142 P) (.node (o270 P) .nil .nil) (.node (o398 P) .nil .nil)) (.node (o206 P) (.node (o334 P) .nil .nil) (.node (o462 P) .nil .nil))) (.node (o110 P) (.node (o174 P) (.node (o302 P) .nil .nil) (.node (o430 P) .nil .nil)) (.node (o238 P) (.node (o366 P) .nil .nil) .nil))) (.node (o62 P) (.node (o94 P) (.node (o158 P) (.node (o286 P) .nil .nil) (.node (o414 P) .nil .nil)) (.node (o222 P) (.node (o350 P) .nil .nil) .nil)) (.node (o126 P) (.node (o190 P) (.node (o318 P) .nil .nil) (.node (o446 P) .nil .nil)) (.node (o254 P) (.node (o382 P) .nil .nil) .nil))))))))
noncomputable def T_f (P : Params) (S : Obj) : BT := (.node (o0 P) (.node (o1 P) (.node (o3v5 P) (.node (o7 P) (.node (o15 P) (.node (o31 P) (.node (o63 P) (.node (o127 P) (.node (o255 P) .nil .nil) (.node (o383 P) .nil .nil)) (.node (o191 P) (.node (o319 P) .nil .nil) (.node (o447 P) .nil .nil))) (.node (o95 P) (.node (o159 P) (.node (o287 P) .nil .nil) (.node (o415 P) .nil .nil)) (.node (o223 P) (.node (o351 P) .nil .nil) .nil))) (.node (o47 P) (.node (o79 P) (.node (o143 P) (.node (o271 P) .nil .nil) (.node (o399 P) .nil .nil)) (.node (o207 P) (.node (o335 P) .nil .nil) (.node (o463 P) .nil .nil))) (.node (o111 P) (.node (o175 P) (.node (o303 P) .nil .nil) (.node (o431 P) .nil .nil)) (.node (o239 P) (.node (o367 P) .nil .nil) .nil)))) (.node (o23 P) (.node (o39 P) (.node (o71 P) (.node (o135 P) (.node (o263 P) .nil .nil) (.node (o391 P) .nil .nil)) (.node (o199v1 P) (.node (o327 P) .nil .nil) (.node (o455 P) .nil .nil))) (.node (o103 P) (.node (o167 P) (.node (o295 P) .nil .nil) (.node (o423 P) .nil .nil)) (.node (o231 P) (.node (o359 P) .nil .nil) .nil))) (.node (o55 P) (.node (o87 P) (.node (o151 P) (.node (o279 P) .nil .nil) (.node (o407 P) .nil .nil)) (.node (o215 P) (.node (o343 P) .nil .nil) .nil)) (.node (o119 P) (.node (o183 P) (.node (o311 P) .nil .nil) (.node (o439 P) .nil .nil)) (.node (o247 P) (.node (o375 P) .nil .nil) .nil))))) (.node (o11 P) (.node (o19 P) (.node (o35 P) (.node (o67 P) (.node (o131 P) (.node (o259 P) .nil .nil) (.node (o387 P) .nil .nil)) (.node (o195 P) (.node (o323 P) .nil .nil) (.node (o451 P) .nil .nil))) (.node (o99 P) (.node (o163 P) (.node (o291 P) .nil .nil) (.node (o419 P) .nil .nil)) (.node (o227v7 P) (.node (o355 P) .nil .nil) .nil))) (.node (o51 P) (.node (o83 P) (.node (o147 P) (.node (o275 P) .nil .nil) (.node (o403 P) .nil .nil)) (.node (o211 P) (.node (o339 P) .nil .nil) (.node (o467 P) .nil .nil))) (.node (o115 P) (.node (o179 P) (.node (o307 P) .nil .nil) (.node (o435 P) .nil .nil)) (.node (o243 P) (.node (o371 P) .nil .nil) .nil)))) (.node (o27 P) (.node (o43 P) (.node (o75 P) (.node (o139 P) (.node (o267 P) .nil .nil) (.node (o395 P) .nil .nil)) (.node (o203 P) (.node (o331 P) .nil .nil) (.node (o459 P) .nil .nil))) (.node (o107 P) (.node (o171 P) (.node (o299 P) .nil .nil) (.node (o427 P) .nil .nil)) (.node (o235 P) (.node (o363 P) .nil .nil) .nil))) (.node (o59 P) (.node (o91 P) (.node (o155 P) (.node (o283 P) .nil .nil) (.node (o411 P) .nil .nil)) (.node (o219 P) (.node (o347 P) .nil .nil) .nil)) (.node (o123 P) (.node (o187 P) (.node (o315 P) .nil .nil) (.node (o443 P) .nil .nil)) (.node (o251 P) (.node (o379 P) .nil .nil) .nil)))))) (.node (o5 P) (.node (o9 P) (.node (o17 P) (.node (o33 P) (.node (o65 P) (.node (o129 P) (.node (o257 P) .nil .nil) (.node (o385 P) .nil .nil)) (.node (o193 P) (.node (o321 P) .nil .nil) (.node (o449 P) .nil .nil))) (.node (o97 P) (.node (o161 P) (.node (o289 P) .nil .nil) (.node (o417 P) .nil .nil)) (.node (o225 P) (.node (o353 P) .nil .nil) .nil))) (.node (o49 P) (.node (o81 P) (.node (o145 P) (.node (o273 P) .nil .nil) (.node (o401 P) .nil .nil)) (.node (o209 P) (.node (o337 P) .nil .nil) (.node (o465 P) .nil .nil))) (.node (o113 P) (.node (o177 P) (.node (o305 P) .nil .nil) (.node (o433 P) .nil .nil)) (.node (o241 P) (.node (o369 P) .nil .nil) .nil)))) (.node (o25 P) (.node (o41 P) (.node (o73 P) (.node (o137 P) (.node (o265 P) .nil .nil) (.node (o393 P) .nil .nil)) (.node (o201 P) (.node (o329 P) .nil .nil) (.node (o457 P) .nil .nil))) (.node (o105 P) (.node (o169 P) (.node (o297 P) .nil .nil) (.node (o425 P) .nil .nil)) (.node (o233 P) (.node (o361 P) .nil .nil) .nil))) (.node (o57 P) (.node (o89 P) (.node (o153 P) (.node (o281 P) .nil .nil) (.node (o409 P) .nil .nil)) (.node (o217 P) (.node (o345 P) .nil .nil) .nil)) (.node (o121 P) (.node (o185 P) (.node (o313 P) .nil .nil) (.node (o441 P) .nil .nil)) (.node (o249 P) (.node (o377 P) .nil .nil) .nil))))) (.node (o13 P) (.node (o21 P) (.node (o37 P) (.node (o69 P) (.node (o133 P) (.node (o261 P) .nil .nil) (.node (o389 P) .nil .nil)) (.node (o197 P) (.node (o325 P) .nil .nil) (.node (o453 P) .nil .nil))) (.node (o101 P) (.node (o165 P) (.node (o293 P) .nil .nil) (.node (o421 P) .nil .nil)) (.node (o229v1 P) (.node (o357 P) .nil .nil) .nil))) (.node (o53 P) (.node (o85 P) (.node (o149 P) (.node (o277 P) .nil .nil) (.node (o405 P) .nil .nil)) (.node (o213 P) (.node (o341 P) .nil .nil) .nil)) (.node (o117 P) (.node (o181 P) (.node (o309 P) .nil .nil) (.node (o437 P) .nil .nil)) (.node (o245 P) (.node (o373 P) .nil .nil) .nil)))) (.node (o29 P) (.node (o45 P) (.node (o77 P) (.node (o141 P) (.node (o269 P) .nil .nil) (.node (o397 P) .nil .nil)) (.node (o205 P) (.node (o333 P) .nil .nil) (.node (o461 P) .nil .nil))) (.node (o109 P) (.node (o173 P) (.node (o301 P) .nil .nil) (.node (o429 P) .nil .nil)) (.node (o237 P) (.node (o365 P) .nil .nil) .nil))) (.node (o61 P) (.node (o93 P) (.node (o157 P) (.node (o285 P) .nil .nil) (.node (o413 P) .nil .nil)) (.node (o221 P) (.node (o349 P) .nil .nil) .nil)) (.node (o125 P) (.node (o189 P) (.node (o317 P) .nil .nil) (.node (o445 P) .nil .nil)) (.node (o253 P) (.node (o381 P) .nil .nil) .nil))))))) (.node (o2v1 P) (.node (o4 P) (.node (o8 P) (.node (o16 P) (.node (o32 P) (.node (o64 P) (.node (o128 P) (.node (o256 P) .nil .nil) (.node (o384 P) .nil .nil)) (.node (o192 P) (.node (o320 P) .nil .nil) (.node (o448 P) .nil .nil))) (.node (o96 P) (.node (o160 P) (.node (o288 P) .nil .nil) (.node (o416 P) .nil .nil)) (.node (o224 P) (.node (o352 P) .nil .nil) .nil))) (.node (o48 P) (.node (o80 P) (.node (o144 P) (.node (o272 P) .nil .nil) (.node (o400 P) .nil .nil)) (.node (o208 P) (.node (o336 P) .nil .nil) (.node (o464 P) .nil .nil))) (.node (o112 P) (.node (o176 P) (.node (o304 P) .nil .nil) (.node (o432 P) .nil .nil)) (.node (o240 P) (.node (o368 P) .nil .nil) .nil)))) (.node (o24 P) (.node (o40 P) (.node (o72 P) (.node (o136 P) (.node (o264 P) .nil .nil) (.node (o392 P) .nil .nil)) (.node (o200 P) (.node (o328 P) .nil .nil) (.node (o456 P) .nil .nil))) (.node (o104 P) (.node (o168 P) (.node (o296 P) .nil .nil) (.node (o424 P) .nil .nil)) (.node S (.node (o360 P) .nil .nil) .nil))) (.node (o56 P) (.node (o88 P) (.node (o152 P) (.node (o280 P) .nil .nil) (.node (o408 P) .nil .nil)) (.node (o216 P) (.node (o344 P) .nil .nil) .nil)) (.node (o120 P) (.node (o184 P) (.node (o312 P) .nil .nil) (.node (o440 P) .nil .nil)) (.node (o248 P) (.node (o376 P) .nil .nil) .nil))))) (.node (o12v5 P) (.node (o20 P) (.node (o36 P) (.node (o68 P) (.node (o132 P) (.node (o260 P) .nil .nil) (.node (o388 P) .nil .nil)) (.node (o196 P) (.node (o324 P) .nil .nil) (.node (o452 P) .nil .nil))) (.node (o100 P) (.node (o164 P) (.node (o292 P) .nil .nil) (.node (o420 P) .nil .nil)) (.node (o228 P) (.node (o356 P) .nil .nil) .nil))) (.node (o52 P) (.node (o84 P) (.node (o148 P) (.node (o276 P) .nil .nil) (.node (o404 P) .nil .nil)) (.node (o212 P) (.node (o340 P) .nil .nil) .nil)) (.node (o116 P) (.node (o180 P) (.node (o308 P) .nil .nil) (.node (o436 P) .nil .nil)) (.node (o244 P) (.node (o372 P) .nil .nil) .nil)))) (.node (o28 P) (.node (o44 P) (.node (o76 P) (.node (o140 P) (.node (o268 P) .nil .nil) (.node (o396 P) .nil .nil)) (.node (o204 P) (.node (o332 P) .nil .nil) (.node (o460 P) .nil .nil))) (.node (o108 P) (.node (o172 P) (.node (o300 P) .nil .nil) (.node (o428 P) .nil .nil)) (.node (o236 P) (.node (o364 P) .nil .nil) .nil))) (.node (o60 P) (.node (o92 P) (.node (o156 P) (.node (o284 P) .nil .nil) (.node (o412 P) .nil .nil)) (.node (o220 P) (.node (o348 P) .nil .nil) .nil)) (.node (o124 P) (.node (o188 P) (.node (o316 P) .nil .nil) (.node (o444 P) .nil .nil)) (.node (o252 P) (.node (o380 P) .nil .nil) .nil)))))) (.node (o6 P) (.node (o10 P) (.node (o18 P) (.node (o34 P) (.node (o66 P) (.node (o130 P) (.node (o258 P) .nil .nil) (.node (o386 P) .nil .nil)) (.node (o194 P) (.node (o322 P) .nil .nil) (.node (o450 P) .nil .nil))) (.node (o98 P) (.node (o162 P) (.node (o290 P) .nil .nil) (.node (o418 P) .nil .nil)) (.node (o226 P) (.node (o354 P) .nil .nil) .nil))) (.node (o50 P) (.node (o82 P) (.node (o146 P) (.node (o274 P) .nil .nil) (.node (o402 P) .nil .nil)) (.node (o210 P) (.node (o338 P) .nil .nil) (.node (o466 P) .nil .nil))) (.node (o114 P) (.node (o178 P) (.node (o306 P) .nil .nil) (.node (o434 P) .nil .nil)) (.node (o242 P) (.node (o370 P) .nil .nil) .nil)))) (.node (o26 P) (.node (o42 P) (.node (o74 P) (.node (o138 P) (.node (o266 P) .nil .nil) (.node (o394 P) .nil .nil)) (.node (o202 P) (.node (o330 P) .nil .nil) (.node (o458 P) .nil .nil))) (.node (o106 P) (.node (o170 P) (.node (o298 P) .nil .nil) (.node (o426 P) .nil .nil)) (.node (o234 P) (.node (o362 P) .nil .nil) .nil))) (.node (o58 P) (.node (o90 P) (.node (o154 P) (.node (o282 P) .nil .nil) (.node (o410 P) .nil .nil)) (.node (o218 P) (.node (o346 P) .nil .nil) .nil)) (.node (o122 P) (.node (o186 P) (.node (o314 P) .nil .nil) (.node (o442 P) .nil .nil)) (.node (o250 P) (.node (o378 P) .nil .nil) .nil))))) (.node (o14 P) (.node (o22 P) (.node (o38 P) (.node (o70 P) (.node (o134 P) (.node (o262 P) .nil .nil) (.node (o390 P) .nil .nil)) (.node (o198 P) (.node (o326 P) .nil .nil) (.node (o454 P) .nil .nil))) (.node (o102 P) (.node (o166 P) (.node (o294 P) .nil .nil) (.node (o422 P) .nil .nil)) (.node (o230 P) (.node (o358 P) .nil .nil) .nil))) (.node (o54 P) (.node (o86 P) (.node (o150 P) (.node (o278 P) .nil .nil) (.node (o406 P) .nil .nil)) (.node (o214 P) (.node (o342 P) .nil .nil) .nil)) (.node (o118 P) (.node (o182 P) (.node (o310 P) .nil .nil) (.node (o438 P) .nil .nil)) (.node (o246 P) (.node (o374 P) .nil .nil) .nil)))) (.node (o30 P) (.node (o46 P) (.node (o78 P) (.node (o142 P) (.node (o270 P) .nil .nil) (.node (o398 P) .nil .nil)) (.node (o206 P) (.node (o334 P) .nil .nil) (.node (o462 P) .nil .nil))) (.node (o110 P) (.node (o174 P) (.node (o302 P) .nil .nil) (.node (o430 P) .nil .nil)) (.node (o238 P) (.node (o366 P) .nil .nil) .nil))) (.node (o62 P) (.node (o94 P) (.node (o158 P) (.node (o286 P) .nil .nil) (.node (o414 P) .nil .nil)) (.node (o222 P) (.node (o350 P) .nil .nil) .nil)) (.node (o126 P) (.node (o190 P) (.node (o318 P) .nil .nil) (.node (o446 P) .nil .nil)) (.node (o254 P) (.node (o382 P) .nil .nil) .nil))))))))
end Mine

end

-- HeadT1
section
open PySem PySem.W PyProof.Rows
set_option Elab.async false
set_option maxRecDepth 100000
set_option maxHeartbeats 0
namespace Mine
noncomputable def env0 : Env := { scope := pwN.main.scope, locals := mainNs, globals := mainNs, cells := [], code := .ref 13, frame := some 14 }
noncomputable def body0 : List Stmt := pwN.main.body
noncomputable def cE : Code := .body body0 env0
noncomputable def q0 : Pos := ⟨0,0,0,0⟩
noncomputable def B0 : List Frame := [topFrame q0]
noncomputable def sts1 : List Stmt := [dS 0, dS 1]
noncomputable def sts2 : List Stmt := [dS 2]
noncomputable def sts3 : List Stmt := [dS 3, dS 4, dS 5]
noncomputable def life0 : Life := {}
noncomputable def St (T : BT) (n toks : Nat) (os : OsState) : SharedT := ⟨T, n, life0, #[], {}, toks, os⟩
theorem hTb : treeTable = PySem.W.Fast.tw14364793385576792824 := PySem.W.Fast.te14364793385576792824
theorem hRun : @segRunT = @PySem.W.Fast.tw10110043849684766642 := PySem.W.Fast.te10110043849684766642
theorem p1 (w : World) (os : OsState) (S : Obj) : segRunT treeTable pwN w 11 (some (.ref 6)) 1 40 (St (T_a w.params S) 15 187 os) (piecesOf sts1 env0 cE q0 B0) =
    some (.next, St (T_p1 w.params S) 22 196 os, cE, ⟨4,0,4,8⟩) := by
  rw [hTb, hRun]
  kernel_rfl
end Mine

end

-- HeadT2
section
open PySem PySem.W PyProof.Rows
set_option Elab.async false
set_option maxRecDepth 100000
set_option maxHeartbeats 0
namespace Mine
theorem p3 (w : World) (os : OsState) (S : Obj) : segRunT treeTable pwN w 11 (some (.ref 6)) 1 300 (St (T_p2 w.params S) 204 438 os) (piecesOf sts3 env0 cE ⟨5,0,191,17⟩ B0) =
    some (.next, St (T_p5 w.params S) 225 475 os, cE, ⟨199,0,199,8⟩) := by
  rw [hTb, hRun]
  kernel_rfl
end Mine

end

-- HeadT3
section
open PySem PySem.W PyProof.Rows
set_option Elab.async false
set_option maxRecDepth 100000
set_option maxHeartbeats 0
namespace Mine
theorem p2 (w : World) (os : OsState) (S : Obj) : segRunT treeTable pwN w 11 (some (.ref 6)) 1 1000 (St (T_p1 w.params S) 22 196 os) (piecesOf sts2 env0 cE ⟨4,0,4,8⟩ B0) =
    some (.next, St (T_p2 w.params S) 204 438 os, cE, ⟨5,0,191,17⟩) := by
  rw [hTb, hRun]
  kernel_rfl
end Mine

end

-- HeadT4
section
open PySem PySem.W PyProof.Rows
set_option Elab.async false
set_option maxRecDepth 100000
set_option maxHeartbeats 0
namespace Mine
noncomputable def tbQ : String → Option Builtin := PySem.W.Fast.tw14364793385576792824
theorem tbQ_eq : treeTable = tbQ := PySem.W.Fast.te14364793385576792824
noncomputable def goQ := @PySem.W.Fast.tw10295753902157049106
theorem goQ_eq : @segGoT = goQ := PySem.W.Fast.te10295753902157049106
noncomputable def denQ := @PySem.W.Fast.tw11892475500146522536
theorem denQ_eq : @denote = denQ := PySem.W.Fast.te11892475500146522536
noncomputable def exsQ := @PySem.W.Fast.tw12563942051412417395
theorem exsQ_eq : @execs = exsQ := PySem.W.Fast.te12563942051412417395
noncomputable def lvQ := @PySem.W.Fast.tw9442747609961115081
theorem lvQ_eq : @leaving = lvQ := PySem.W.Fast.te9442747609961115081
noncomputable def rest5 : List Stmt := [dS 6, dS 7, dS 8, dS 9, dS 10, dS 11, dS 12, dS 13, dS 14, dS 15, dS 16, dS 17, dS 18, dS 19, dS 20, dS 21, dS 22, dS 23, dS 24, dS 25]
noncomputable def rest6 : List Stmt := [dS 7, dS 8, dS 9, dS 10, dS 11, dS 12, dS 13, dS 14, dS 15, dS 16, dS 17, dS 18, dS 19, dS 20, dS 21, dS 22, dS 23, dS 24, dS 25]
noncomputable def cb : List Stmt := cBody (dS 6)
noncomputable def cenv : Env := { scope := cScope (dS 6), locals := 227, globals := 3, cells := [], qual := ⟨⟨[73,110,100,111,110,101,115,105,97,110,83,116,101,109,109,101,114,46]⟩⟩, func := none, code := .ref 230, frame := some 231, builtins := 0 }
noncomputable def cC : Code := .body cb cenv
noncomputable def g64 (w : World) (os : OsState) (S : Obj) : Option (SharedT × Thread) := goQ tbQ pwN w 11 (some (.ref 6)) 0 64 (St (T_p5 w.params S) 225 475 os) (restOf rest5 env0 cE ⟨199,0,199,8⟩ B0)
noncomputable def B1 (w : World) (os : OsState) (S : Obj) : List Frame := match g64 w os S with | some (_, t) => t.stack | none => []
theorem c0 (w : World) (os : OsState) (S : Obj) : segGoT treeTable pwN w 11 (some (.ref 6)) 0 64 (St (T_p5 w.params S) 225 475 os) (restOf rest5 env0 cE ⟨199,0,199,8⟩ B0) =
    some (St (T_c0 w.params S) 232 487 os, ⟨denote treeTable cC, cC, ⟨200,0,430,50⟩, B1 w os S⟩) := by
  rw [denQ_eq, tbQ_eq, goQ_eq]
  kernel_rfl
theorem B1_gen (w : World) (os : OsState) (S : Obj) : splitAtGen (B1 w os S) = none := by kernel_rfl
theorem B1_len (w : World) (os : OsState) (S : Obj) : (B1 w os S).length = 2 := by kernel_rfl
noncomputable def rC (i : Nat) : List Stmt := cb.drop i
noncomputable def cT (i : Nat) (p : Pos) (B : List Frame) : Thread := ⟨(execs (rC i) cenv).wrap doneF (leaveH cenv) id id, cC, p, B⟩
end Mine

end

-- HeadT5
section
open PySem PySem.W PyProof.Rows
set_option Elab.async false
set_option maxRecDepth 100000
set_option maxHeartbeats 0
namespace Mine
noncomputable def setO (es : Array (Int × Value)) (n : Nat) (t : SetTable) : Obj := ⟨.type PySem.W.SL.s3642769012341782148x3, .none, .set es n t, #[]⟩
theorem c1 (w : World) (os : OsState) (es : Array (Int × Value)) (n : Nat) (t : SetTable) (S' : Obj) : segGoT treeTable pwN w 11 (some (.ref 6)) 0 214 (St (T_l202 w.params (setO es n t)) 233 498 os) (cT 1 ⟨201,4,201,11⟩ (B1 w os S')) =
    some (St (T_l426 w.params (setO es n t)) 275 558 os, cT 9 ⟨424,4,425,17⟩ (B1 w os S')) := by
  rw [tbQ_eq, goQ_eq]
  kernel_rfl
theorem c5 (w : World) (os : OsState) (es : Array (Int × Value)) (n : Nat) (t : SetTable) (S' : Obj) : segGoT treeTable pwN w 11 (some (.ref 6)) 0 515 (St (T_l430 w.params (setO es n t)) 333 810 os) (cT 13 ⟨429,4,429,7⟩ (B1 w os S')) =
    some (St (T_p6 w.params (setO es n t)) 345 847 os, restOf rest6 env0 cE ⟨200,0,430,50⟩ B0) := by
  rw [tbQ_eq, goQ_eq]
  kernel_rfl
end Mine

end

-- HeadT6
section
open PySem PySem.W PyProof.Rows
set_option Elab.async false
set_option maxRecDepth 100000
set_option maxHeartbeats 0
namespace Mine
theorem c2 (w : World) (os : OsState) (es : Array (Int × Value)) (n : Nat) (t : SetTable) (S' : Obj) : segGoT treeTable pwN w 11 (some (.ref 6)) 0 521 (St (T_l426 w.params (setO es n t)) 275 558 os) (cT 9 ⟨424,4,425,17⟩ (B1 w os S')) =
    some (St (T_l427 w.params (setO es n t)) 285 601 os, cT 10 ⟨426,4,426,7⟩ (B1 w os S')) := by
  rw [tbQ_eq, goQ_eq]
  kernel_rfl
theorem c3 (w : World) (os : OsState) (es : Array (Int × Value)) (n : Nat) (t : SetTable) (S' : Obj) : segGoT treeTable pwN w 11 (some (.ref 6)) 0 521 (St (T_l427 w.params (setO es n t)) 285 601 os) (cT 10 ⟨426,4,426,7⟩ (B1 w os S')) =
    some (St (T_l428 w.params (setO es n t)) 295 644 os, cT 11 ⟨427,4,427,7⟩ (B1 w os S')) := by
  rw [tbQ_eq, goQ_eq]
  kernel_rfl
theorem c4 (w : World) (os : OsState) (es : Array (Int × Value)) (n : Nat) (t : SetTable) (S' : Obj) : segGoT treeTable pwN w 11 (some (.ref 6)) 0 351 (St (T_l428 w.params (setO es n t)) 295 644 os) (cT 11 ⟨427,4,427,7⟩ (B1 w os S')) =
    some (St (T_l429 w.params (setO es n t)) 302 673 os, cT 12 ⟨428,4,428,7⟩ (B1 w os S')) := by
  rw [tbQ_eq, goQ_eq]
  kernel_rfl
end Mine

end

-- HeadT7
section
open PySem PySem.W PyProof.Rows
set_option Elab.async false
set_option maxRecDepth 100000
set_option maxHeartbeats 0
namespace Mine
theorem c4b (w : World) (os : OsState) (es : Array (Int × Value)) (n : Nat) (t : SetTable) (S' : Obj) : segGoT treeTable pwN w 11 (some (.ref 6)) 0 1691 (St (T_l429 w.params (setO es n t)) 302 673 os) (cT 12 ⟨428,4,428,7⟩ (B1 w os S')) =
    some (St (T_l430 w.params (setO es n t)) 333 810 os, cT 13 ⟨429,4,429,7⟩ (B1 w os S')) := by
  rw [tbQ_eq, goQ_eq]
  kernel_rfl
end Mine

end

-- HeadT8
section
open PySem PySem.W PyProof.Rows
set_option Elab.async false
set_option maxRecDepth 100000
set_option maxHeartbeats 0
namespace Mine
theorem p25 (w : World) (os : OsState) (es : Array (Int × Value)) (n : Nat) (t : SetTable) : segRunT treeTable pwN w 11 (some (.ref 6)) 1 800 (St (T_p6 w.params (setO es n t)) 345 847 os) (piecesOf rest6 env0 cE ⟨200,0,430,50⟩ B0) =
    some (.next, St (T_p25 w.params (setO es n t)) 468 1045 os, cE, ⟨554,0,565,21⟩) := by
  rw [hTb, hRun]
  kernel_rfl
theorem pfin (w : World) (os : OsState) (es : Array (Int × Value)) (n : Nat) (t : SetTable) : segGoT treeTable pwN w 11 (some (.ref 6)) 0 1 (St (T_p25 w.params (setO es n t)) 468 1045 os) (restOf [] env0 cE ⟨554,0,565,21⟩ B0) =
    some (St (T_f w.params (setO es n t)) 468 1045 os, ⟨.pure (.done (.ret .none)), .builtin "claim.caller" {}, q0, []⟩) := by
  rw [tbQ_eq, goQ_eq]
  kernel_rfl
end Mine

end

-- HeadT9
section
open PySem PySem.W PyProof.Rows
set_option Elab.async false
set_option maxRecDepth 100000
set_option maxHeartbeats 0
namespace Mine
theorem ppre (w : World) (os : OsState) (S : Obj) : segGo treeTable pwN w 11 (some (.ref 6)) 0 12 ⟨boot_heap w.params, #[], boot_drawn, boot_toks, os⟩ (topStub pwN) =
    some ((St (T_a w.params S) 15 187 os).abs, ⟨denote treeTable cE, cE, q0, B0⟩) := by
  kernel_rfl
theorem pblock (w : World) (os : OsState) (S : Obj) : segRunT treeTable pwN w 11 (some (.ref 6)) 1 1 (St (T_a w.params S) 15 187 os) (blockOf body0 env0 cE q0 B0) =
    some (.next, St (T_a w.params S) 15 187 os, cE, q0) := by
  kernel_rfl
end Mine

end

-- HeadT10
section
open PySem PySem.W PyProof.Rows
set_option Elab.async false
set_option maxRecDepth 100000
set_option maxHeartbeats 0
namespace Mine
noncomputable def qV : Program := { pwN with main := { pwN.main with body := [dS 25] } }
noncomputable def looseN : List Str := ["_wall", "BaseStemmer", "Among", "IndonesianStemmer", "lab0", "_law_fronts", "_law_after", "_law_closes", "_law_letters", "_law_tape", "_law_next", "_law_case", "_law_is", "_law_first", "_law_second", "_law_off", "_law_suffix", "_law_full", "_law_told", "_law_set", "_law_wrong"]
noncomputable def HF (P : Params) (es : Array (Int × Value)) (n : Nat) (t : SetTable) : Heap := absHeap (T_f P (setO es n t)) 468 life0
noncomputable def SF (P : Params) (es : Array (Int × Value)) (n : Nat) (t : SetTable) (os : OsState) : Shared := ⟨HF P es n t, #[], {}, 1045, os⟩
theorem look1 (P : Params) (es : Array (Int × Value)) (n : Nat) (t : SetTable) : staticsOk (importedModules pwN.main.body) (boot_heap P) (HF P es n t) = true := by kernel_rfl
theorem look2 (P : Params) (es : Array (Int × Value)) (n : Nat) (t : SetTable) : namesBound pwN (HF P es n t) = true := by kernel_rfl
theorem look3 (P : Params) (es : Array (Int × Value)) (n : Nat) (t : SetTable) (os : OsState) : gensDone (SF P es n t os) = true := by kernel_rfl
theorem look4 (P : Params) (es : Array (Int × Value)) (n : Nat) (t : SetTable) : laidKept (boot_heap P) (HF P es n t) = true := by kernel_rfl
theorem look5 (P : Params) (es : Array (Int × Value)) (n : Nat) (t : SetTable) (os : OsState) : openSeen qV looseN (importedModules pwN.main.body) (fun _ => true) true (SF P es n t os) = openGood qV looseN := by
  kernel_rfl
theorem looksize (w : World) : ((boot_heap w.params).isNs mainGlobals && (#[] : Array GenState).size == 0, (boot_heap w.params).objs.size, (boot_heap w.params).nsMap mainGlobals "__annotations__") = (true, 11, some (.ref 6)) := by kernel_rfl
theorem chains : chainsOk qV = true := by kernel_rfl
end Mine

end

-- HeadS1
section
open PySem PySem.W PyProof.Rows
set_option Elab.async false
set_option maxRecDepth 100000
set_option maxHeartbeats 400000
namespace Mine

abbrev an : Option Value := some (.ref 6)
noncomputable def Rch (w : World) (n : Nat) (s : Shared) (t : Thread) (s' : Shared) (t' : Thread) : Prop :=
  ∀ N r, topRun treeTable pwN w 11 an N s' t' = some r → topRun treeTable pwN w 11 an (n + N) s t = some r
theorem Rch.refl {w s t} : Rch w 0 s t s t := fun N r h => by rw [Nat.zero_add]; exact h
theorem Rch.trans {w n m s t s' t' s'' t''} (x : Rch w n s t s' t') (y : Rch w m s' t' s'' t'') : Rch w (n + m) s t s'' t'' := fun N r h => by
  rw [Nat.add_assoc]; exact x _ _ (y _ _ h)
theorem Rch.le {w n m s t s' t'} (x : Rch w n s t s' t') (h : n ≤ m) : Rch w m s t s' t' := fun N r q => by
  have := topRun_mono (m - n) _ _ _ _ (x N r q)
  rw [show n + N + (m - n) = m + N by omega] at this
  exact this
theorem Rch.step {w s t s' t'} (h1 : through t = false) (h2 : stepOk 11 an t = true) (h3 : step (denote treeTable) pwN w s t = .go s' t') : Rch w 1 s t s' t' :=
  fun N r h => by
    rw [Nat.add_comm]
    unfold topRun
    rw [h1, h2, h3]
    exact h
theorem Rch.of_segGo {w : World} : ∀ {n : Nat} {s s' : Shared} {t t' : Thread}, segGo treeTable pwN w 11 an 0 n s t = some (s', t') → Rch w n s t s' t'
  | 0, s, s', t, t', h => by
    obtain ⟨rfl, rfl⟩ : s = s' ∧ t = t' := by simpa [segGo] using h
    exact Rch.refl
  | n + 1, s, s', t, t', h => by
    unfold segGo at h
    cases he : endAt 0 t with
    | some f => rw [he] at h; cases h
    | none =>
      rw [he] at h
      cases hk : stepOk 11 an t with
      | false => rw [hk] at h; cases h
      | true =>
        rw [hk] at h
        cases hs : PySem.step (denote treeTable) pwN w s t with
        | halt o s₂ => rw [hs] at h; cases h
        | go s₂ t₂ =>
          rw [hs] at h
          have ht : through t = false := by
            obtain ⟨cur, code, pos, st⟩ := t
            cases st with
            | cons => rfl
            | nil =>
              unfold through
              dsimp only
              revert he
              cases cur with
              | pure f => cases f <;> simp [endAt]
              | _ => intro _; rfl
          rw [Nat.add_comm]
          exact (Rch.step ht hk hs).trans (Rch.of_segGo h)

noncomputable def isDone : Sem Fin → Bool
  | .pure (.done _) => true
  | _ => false
theorem through_is (cur : Sem Fin) (c : Code) (p : Pos) (B : List Frame) (h : isDone cur = false) : through ⟨cur, c, p, B⟩ = false := by
  unfold through
  cases cur with
  | pure f =>
    cases f with
    | done f => cases h
    | again c => exact Bool.and_false _
  | _ => exact Bool.and_false _
theorem Rch.one {w : World} {s s' : Shared} {cur : Sem Fin} {c : Code} {p : Pos} {B : List Frame} {t' : Thread} (h1 : isDone cur = false) (h2 : stepOk 11 an ⟨cur, c, p, B⟩ = true) (h3 : PySem.step (denote treeTable) pwN w s ⟨cur, c, p, B⟩ = .go s' t') : Rch w 1 s ⟨cur, c, p, B⟩ s' t' :=
  Rch.step (through_is _ _ _ _ h1) h2 h3
section
variable {α β : Type} {w : World} {c : Code} {B : List Frame}

noncomputable def Big (w : World) (c : Code) (B : List Frame) (n : Nat) (m : Sem α) (s : Shared) (a : α) (s' : Shared) : Prop :=
  ∀ (K : α → Sem Fin) (H : Value → Sem Fin) (gd : Bool → Bool) (lv : List Value → List Value) (p : Pos), ∃ p', Rch w n s ⟨m.wrap K H gd lv, c, p, B⟩ s' ⟨K a, c, p', B⟩
noncomputable def BigP (w : World) (c : Code) (B : List Frame) (n : Nat) (m : Sem α) (s : Shared) (a : α) (s' : Shared) (q : Pos) : Prop :=
  ∀ (K : α → Sem Fin) (H : Value → Sem Fin) (gd : Bool → Bool) (lv : List Value → List Value) (p : Pos), Rch w n s ⟨m.wrap K H gd lv, c, p, B⟩ s' ⟨K a, c, q, B⟩
theorem Big.pure {a : α} {s : Shared} : Big w c B 0 (Pure.pure a) s a s := fun _ _ _ _ p => ⟨p, Rch.refl⟩
theorem Big.le {m : Sem α} {s s₁ : Shared} {a : α} {n k : Nat} (x : Big w c B n m s a s₁) (h : n ≤ k) : Big w c B k m s a s₁ := fun K H gd lv p =>
  let ⟨p', r⟩ := x K H gd lv p; ⟨p', r.le h⟩
theorem BigP.le {m : Sem α} {s s₁ : Shared} {a : α} {n k : Nat} {q : Pos} (x : BigP w c B n m s a s₁ q) (h : n ≤ k) : BigP w c B k m s a s₁ q := fun K H gd lv p =>
  (x K H gd lv p).le h
theorem Big.bind {m : Sem α} {f : α → Sem β} {s s₁ s₂ : Shared} {a : α} {b : β} {n k : Nat} (x : Big w c B n m s a s₁) (y : Big w c B k (f a) s₁ b s₂) : Big w c B (n + k) (m >>= f) s b s₂ := fun K H gd lv p => by
  rw [Sem.bind_eq_wrap', Sem.wrap_wrap]
  obtain ⟨p₁, r₁⟩ := x (fun a => (f a).wrap K H gd lv) (fun e => (Sem.raise e : Sem β).wrap K H gd lv) (fun g => gd (id g)) (fun l => lv (id l)) p
  obtain ⟨p₂, r₂⟩ := y K H gd lv p₁
  exact ⟨p₂, r₁.trans r₂⟩
theorem Big.bindP {m : Sem α} {f : α → Sem β} {s s₁ s₂ : Shared} {a : α} {b : β} {q : Pos} {n k : Nat} (x : Big w c B n m s a s₁) (y : BigP w c B k (f a) s₁ b s₂ q) : BigP w c B (n + k) (m >>= f) s b s₂ q := fun K H gd lv p => by
  rw [Sem.bind_eq_wrap', Sem.wrap_wrap]
  obtain ⟨p₁, r₁⟩ := x (fun a => (f a).wrap K H gd lv) (fun e => (Sem.raise e : Sem β).wrap K H gd lv) (fun g => gd (id g)) (fun l => lv (id l)) p
  exact r₁.trans (y K H gd lv p₁)
theorem Big.keep {m : Sem α} {s s₁ : Shared} {a : α} {vs : List Value} {n : Nat} (x : Big w c B n m s a s₁) : Big w c B n (m.keep vs) s a s₁ := fun K H gd lv p => by
  rw [Sem.keep_eq_wrap, Sem.wrap_wrap]
  exact x K _ _ _ p
theorem Big.holding {m : Sem α} {s s₁ : Shared} {a : α} {vs : List Value} {n : Nat} (x : Big w c B n m s a s₁) : Big w c B n (PySem.holding vs m) s a s₁ := by
  unfold PySem.holding
  split
  · exact x
  · exact x.keep

/-- a call-free tree's own run: what it hands on, the state, the steps -/
noncomputable def runS (w : World) : Sem α → Shared → Option (α × Shared × Nat)
  | .pure a, s => some (a, s, 0)
  | .rule _ k, s => (runS w (k ()) s).map fun x => (x.1, x.2.1, x.2.2 + 1)
  | .at _ k, s => (runS w (k ()) s).map fun x => (x.1, x.2.1, x.2.2 + 1)
  | .point _ k, s => (runS w (k ()) s).map fun x => (x.1, x.2.1, x.2.2 + 1)
  | .load a _ k, s => match s.heap.get? a with
    | some o => (runS w (k o) s).map fun x => (x.1, x.2.1, x.2.2 + 1)
    | none => none
  | .update a _ f k, s => if Nat.ble 11 a && (s.heap.get? a).isSome then (runS w (k ()) { s with heap := s.heap.update a f }).map fun x => (x.1, x.2.1, x.2.2 + 1) else none
  | .alloc o k, s => (runS w (k s.heap.objs.size) { s with heap := s.heap.push o }).map fun x => (x.1, x.2.1, x.2.2 + 1)
  | .fresh k, s => (runS w (k s.toks) { s with toks := s.toks + 1 }).map fun x => (x.1, x.2.1, x.2.2 + 1)
  | .ask k, s => (runS w (k ⟨pwN, w.params⟩) s).map fun x => (x.1, x.2.1, x.2.2 + 1)
  | _, _ => none
noncomputable def bindR (x : Option (α × Shared × Nat)) (f : α → Shared → Option (β × Shared × Nat)) : Option (β × Shared × Nat) :=
  x.bind fun x => (f x.1 x.2.1).map fun y => (y.1, y.2.1, y.2.2 + x.2.2)
theorem bindR_up (x : Option (α × Shared × Nat)) (f : α → Shared → Option (β × Shared × Nat)) : bindR (x.map fun x => (x.1, x.2.1, x.2.2 + 1)) f = (bindR x f).map fun x => (x.1, x.2.1, x.2.2 + 1) := by
  cases x with
  | none => rfl
  | some x =>
    obtain ⟨a, s, n⟩ := x
    show (f a s).map _ = ((f a s).map _).map _
    cases f a s with
    | none => rfl
    | some y => rfl
theorem runS_bind (m : Sem α) (f : α → Sem β) : ∀ s, runS w (m >>= f) s = bindR (runS w m s) fun a s => runS w (f a) s := by
  show ∀ s, runS w (m.bind f) s = _
  induction m with
  | pure a =>
    intro s
    show _ = Option.map _ (runS w (f a) s)
    cases h : runS w (f a) s with
    | none => exact h
    | some x => exact h
  | rule _ k ih => intro s; simp only [Sem.bind, runS, bindR_up, ih]
  | «at» _ k ih => intro s; simp only [Sem.bind, runS, bindR_up, ih]
  | point _ k ih => intro s; simp only [Sem.bind, runS, bindR_up, ih]
  | load a q k ih =>
    intro s
    simp only [Sem.bind, runS]
    cases s.heap.get? a with
    | none => rfl
    | some o => simp only [bindR_up, ih]
  | update a q g k ih =>
    intro s
    simp only [Sem.bind, runS]
    split
    · simp only [bindR_up, ih]
    · rfl
  | alloc o k ih => intro s; simp only [Sem.bind, runS, bindR_up, ih]
  | fresh k ih => intro s; simp only [Sem.bind, runS, bindR_up, ih]
  | ask k ih => intro s; simp only [Sem.bind, runS, bindR_up, ih]
  | _ => intro s; rfl
theorem up_some {x : Option (α × Shared × Nat)} {a : α} {s : Shared} {n : Nat} (h : (x.map fun x => (x.1, x.2.1, x.2.2 + 1)) = some (a, s, n)) : ∃ k, x = some (a, s, k) ∧ n = 1 + k := by
  cases x with
  | none => cases h
  | some y =>
    obtain ⟨b, s', k⟩ := y
    simp only [Option.map_some, Option.some.injEq, Prod.mk.injEq] at h
    obtain ⟨rfl, rfl, rfl⟩ := h
    exact ⟨k, rfl, Nat.add_comm ..⟩
theorem Big.of_runS {m : Sem α} : ∀ {s s' : Shared} {a : α} {n : Nat}, runS w m s = some (a, s', n) → Big w c B n m s a s' := by
  induction m with
  | pure a => intro s s' a' n h; cases h; exact Big.pure
  | rule t k ih => intro s s' a n h K H gd lv p; obtain ⟨j, h2, rfl⟩ := up_some h; obtain ⟨q, r⟩ := ih () h2 K H gd lv p; exact ⟨q, (Rch.one rfl rfl rfl).trans r⟩
  | «at» p' k ih => intro s s' a n h K H gd lv p; obtain ⟨j, h2, rfl⟩ := up_some h; obtain ⟨q, r⟩ := ih () h2 K H gd lv p'; exact ⟨q, (Rch.one rfl rfl rfl).trans r⟩
  | point l k ih => intro s s' a n h K H gd lv p; obtain ⟨j, h2, rfl⟩ := up_some h; obtain ⟨q, r⟩ := ih () h2 K H gd lv p; exact ⟨q, (Rch.one rfl rfl rfl).trans r⟩
  | load a q k ih =>
    intro s s' b n h K H gd lv p
    simp only [runS] at h
    cases e : s.heap.get? a with
    | none => rw [e] at h; cases h
    | some o =>
      rw [e] at h
      obtain ⟨j, h2, rfl⟩ := up_some h
      obtain ⟨p', r⟩ := ih o h2 K H gd lv p
      obtain ⟨heap, gens, drawn, toks, os⟩ := s
      refine ⟨p', (Rch.one rfl rfl ?_).trans r⟩
      dsimp only at e
      simp only [Sem.wrap, PySem.step, e]
  | update a q g k ih =>
    intro s s' b n h K H gd lv p
    simp only [runS] at h
    split at h
    · rename_i e
      obtain ⟨e1, e2⟩ := Bool.and_eq_true_iff.mp e
      obtain ⟨j, h2, rfl⟩ := up_some h
      obtain ⟨p', r⟩ := ih () h2 K H gd lv p
      obtain ⟨heap, gens, drawn, toks, os⟩ := s
      refine ⟨p', (Rch.one rfl ?_ ?_).trans r⟩
      · show (true && (Nat.ble 11 a || _ || _ || _)) = true
        rw [e1]; rfl
      · dsimp only at e2
        simp only [Sem.wrap, PySem.step, e2, if_true]
    · cases h
  | alloc o k ih => intro s s' a n h K H gd lv p; obtain ⟨j, h2, rfl⟩ := up_some h; obtain ⟨q, r⟩ := ih _ h2 K H gd lv p; exact ⟨q, (Rch.one rfl rfl rfl).trans r⟩
  | fresh k ih => intro s s' a n h K H gd lv p; obtain ⟨j, h2, rfl⟩ := up_some h; obtain ⟨q, r⟩ := ih _ h2 K H gd lv p; exact ⟨q, (Rch.one rfl rfl rfl).trans r⟩
  | ask k ih => intro s s' a n h K H gd lv p; obtain ⟨j, h2, rfl⟩ := up_some h; obtain ⟨q, r⟩ := ih _ h2 K H gd lv p; exact ⟨q, (Rch.one rfl rfl rfl).trans r⟩
  | _ => intro s s' a n h; cases h

theorem Big.of_seg {m : Sem α} {s s' : Shared} {a : α} {res : α → Flow} {n : Nat} (hB : splitAtGen B = none) (inj : ∀ x, res x = res a → x = a)
    (h : ∀ gd lv p, ∃ p', segRun treeTable pwN w 11 an B.length n s ⟨m.wrap (fun a => .pure (.done (res a))) deadEnd gd lv, c, p, B⟩ = some (res a, s', c, p')) : Big w c B n m s a s' := fun K H gd lv p => by
  obtain ⟨p', h⟩ := h gd lv p
  obtain ⟨a', ha, hN⟩ := seg_top (res := res) (K' := K) (H' := H) (B := B) hB n s ⟨m.wrap (fun a => .pure (.done (res a))) deadEnd gd lv, c, p, B⟩ ⟨m.wrap K H gd lv, c, p, B⟩ _ _ _ _ ⟨rfl, rfl, .inl ⟨rfl, rfl, _, rfl, rfl⟩⟩ h
  obtain rfl := inj _ ha
  exact ⟨p', hN⟩
theorem BigP.of_seg {m : Sem α} {s s' : Shared} {a : α} {res : α → Flow} {n : Nat} {q : Pos} (hB : splitAtGen B = none) (inj : ∀ x, res x = res a → x = a)
    (h : ∀ gd lv p, segRun treeTable pwN w 11 an B.length n s ⟨m.wrap (fun a => .pure (.done (res a))) deadEnd gd lv, c, p, B⟩ = some (res a, s', c, q)) : BigP w c B n m s a s' q := fun K H gd lv p => by
  obtain ⟨a', ha, hN⟩ := seg_top (res := res) (K' := K) (H' := H) (B := B) hB n s ⟨m.wrap (fun a => .pure (.done (res a))) deadEnd gd lv, c, p, B⟩ ⟨m.wrap K H gd lv, c, p, B⟩ _ _ _ _ ⟨rfl, rfl, .inl ⟨rfl, rfl, _, rfl, rfl⟩⟩ (h gd lv p)
  obtain rfl := inj _ ha
  exact hN
end
end Mine

end

-- HeadS2
section
open PySem PySem.W PyProof.Rows
set_option Elab.async false
set_option maxRecDepth 100000
set_option maxHeartbeats 400000
namespace Mine

structure SetInv (L : List (Int × Value)) (es : Array (Int × Value)) (t : SetTable) : Prop where
  perm : es.toList.Perm L
  place : t.place.size = es.size
  fill : t.fill ≤ t.mask

theorem insertAt_perm (es : Array (Int × Value)) (p : Nat) (x : Int × Value) : (SetTable.insertAt es p x).toList.Perm (x :: es.toList) := by
  unfold SetTable.insertAt
  simp only [Array.toList_append, Array.toList_push, Array.toList_extract, List.extract_eq_take_drop, Nat.sub_zero, List.drop_zero, List.append_assoc, List.singleton_append]
  have e : (es.toList.drop p).take (es.size - p) = es.toList.drop p := List.take_of_length_le (by simp)
  rw [e]
  refine (List.perm_middle).trans ?_
  rw [List.take_append_drop]
theorem fits_orStandIn (t : SetTable) (n : Nat) : (t.orStandIn n).fits n = true := by
  unfold SetTable.orStandIn
  split
  · assumption
  · simp [SetTable.fits, SetTable.standIn, SetTable.fill]
    omega
theorem fits_standIn (t : SetTable) (n : Nat) : (t.standIn n).fits n = true := by
  simp [SetTable.fits, SetTable.standIn, SetTable.fill]
  omega
theorem inv_of_fits {L : List (Int × Value)} {es : Array (Int × Value)} {t : SetTable} (h1 : es.toList.Perm L) (h2 : t.fits es.size = true) : SetInv L es t := by
  simp only [SetTable.fits, Bool.and_eq_true, beq_iff_eq, decide_eq_true_eq] at h2
  exact ⟨h1, h2.1, h2.2⟩
theorem layNew_inv {L : List (Int × Value)} {es : Array (Int × Value)} {t : SetTable} (h : Int) (x : Value) (I : SetInv L es t) : SetInv ((h, x) :: L) (layNew t es h x).1 (layNew t es h x).2.1 := by
  unfold layNew
  split
  · rename_i slot wd e
    dsimp only
    exact inv_of_fits ((insertAt_perm es _ _).trans (List.Perm.cons _ I.perm)) (fits_orStandIn _ _)
  · dsimp only
    refine inv_of_fits ?_ (by rw [Array.size_push]; exact fits_standIn _ _)
    rw [Array.toList_push]
    exact (List.perm_append_singleton _ _).trans (List.Perm.cons _ I.perm)
theorem filterMap_map (es : Array (Int × Value)) : ∀ l : List Nat, (∀ i ∈ l, i < es.size) → l.filterMap (es[·]?) = l.map fun i => (es[i]?).getD (0, Value.none)
  | [], _ => rfl
  | i :: l, h => by
    have hi := h i (List.mem_cons_self ..)
    rw [List.filterMap_cons, List.map_cons, filterMap_map es l fun j hj => h j (List.mem_cons_of_mem _ hj)]
    simp [hi]
theorem filterMap_range (es : Array (Int × Value)) : ((List.range es.size).filterMap (es[·]?)) = es.toList := by
  rw [filterMap_map es _ fun i hi => List.mem_range.mp hi]
  apply List.ext_getElem?
  intro i
  rw [List.getElem?_map]
  by_cases hi : i < es.size
  · rw [List.getElem?_range hi]; simp [hi]
  · rw [List.getElem?_eq_none (by simp; omega)]; simp; omega
theorem relay_inv {L : List (Int × Value)} {es : Array (Int × Value)} {t : SetTable} (k : Nat) (I : SetInv L es t) : SetInv L (relayAll t es k).1 (relayAll t es k).2.1 := by
  unfold relayAll
  split
  · rename_i t' order e
    dsimp only
    split
    · rename_i c
      obtain ⟨c1, c2⟩ := Bool.and_eq_true_iff.mp c
      refine inv_of_fits ?_ c2
      refine List.Perm.trans ?_ I.perm
      unfold coversAll at c1
      rw [Array.toList_filterMap]
      rw [← filterMap_range es]
      exact (List.isPerm_iff.mp c1).filterMap _
    · exact inv_of_fits I.perm (fits_standIn _ _)
  · exact inv_of_fits I.perm (fits_standIn _ _)

theorem runS_load {w : World} {s : Shared} {a : Addr} {o : Obj} (h : s.heap.get? a = some o) : runS w (load a) s = some (o, s, 1) := by
  unfold load
  rw [runS, h]
  rfl
theorem runS_update {w : World} {s : Shared} {a : Addr} {o : Obj} {f : Obj → Obj} (hA : Nat.ble 11 a = true) (h : s.heap.get? a = some o) : runS w (update a f) s = some ((), { s with heap := s.heap.update a f }, 1) := by
  unfold update
  rw [runS, h, hA]
  rfl
theorem runS_rule (w : World) (t : String) (s : Shared) : runS w (rule t) s = some ((), s, 1) := rfl
theorem runS_val {α β : Type} {w : World} {m : Sem β} {b : β} {f : β → Sem α} {s s' s'' : Shared} {a : α} {n k : Nat} (h : runS w m s = some (b, s', n)) (h2 : runS w (f b) s' = some (a, s'', k)) : runS w (m >>= f) s = some (a, s'', k + n) := by
  rw [runS_bind, h]
  show (runS w (f b) s').map _ = _
  rw [h2]; rfl
section
variable {w : World} {H : Obj → Heap} {A : Addr} {d : Drawn} {os : OsState} {k : Nat}
  (hget : ∀ es n t, (H (setO es n t)).get? A = some (setO es n t)) (hupd : ∀ o f, (H o).update A f = H (f o)) (hA : Nat.ble 11 A = true)
include hget
theorem runS_state {L : List (Int × Value)} {es : Array (Int × Value)} {n : Nat} {t : SetTable} (I : SetInv L es t) : runS w (setState A) ⟨H (setO es n t), #[], d, k, os⟩ = some ((es, n, t), ⟨H (setO es n t), #[], d, k, os⟩, 1) := by
  unfold setState
  refine runS_val (k := 0) (runS_load (hget es n t)) ?_
  show runS w (if (t.place.size != es.size || decide (t.fill > t.mask)) = true then _ else _) _ = _
  have : (t.place.size != es.size || decide (t.fill > t.mask)) = false := by
    rw [I.place]; simp [I.fill]
  rw [this]
  rfl
include hupd hA
theorem runS_store {es es' : Array (Int × Value)} {n : Nat} {t t' : SetTable} (hs : es'.size ≤ 100) : runS w (storeSet A es' t') ⟨H (setO es n t), #[], d, k, os⟩ = some ((), ⟨H (setO es' (n + 1) t'), #[], d, k, os⟩, 2) := by
  unfold storeSet
  refine runS_val (k := 1) (runS_load (hget es n t)) ?_
  show runS w (if es'.size > sizeLine then _ else update A (Obj.putSet es' t')) _ = _
  rw [if_neg (by unfold sizeLine; omega), runS_update hA (hget es n t)]
  dsimp only
  rw [hupd]
  rfl
theorem runS_add {L : List (Int × Value)} {es : Array (Int × Value)} {n : Nat} {t : SetTable} {x : Str} {tk : Nat} {h : Int} (I : SetInv L es t) (hL : L.length ≤ 10) (hS : ∀ e ∈ L, ∃ y u, e.2 = .str y u ∧ (y == x) = false) :
    ∃ es' n' t' c, SetInv ((h, .str x tk) :: L) es' t' ∧ c ≤ 20 ∧ runS w (setAddHashed A (.str x tk) h) ⟨H (setO es n t), #[], d, k, os⟩ = some (true, ⟨H (setO es' n' t'), #[], d, k, os⟩, c) := by
  have hall : ∀ e ∈ es.toList, ∃ y u, e.2 = .str y u ∧ (y == x) = false := fun e he => hS e (I.perm.mem_iff.mp he)
  have hsz : es.size = L.length := by rw [← Array.length_toList]; exact I.perm.length_eq
  have b1 : byScan (.str x tk) es = true := by
    unfold byScan
    simp only [Bool.and_eq_true, decide_eq_true_eq, Array.all_eq_true_iff_forall_mem]
    refine ⟨⟨rfl, by unfold scanBound; omega⟩, fun e he => ?_⟩
    obtain ⟨y, u, e1, _⟩ := hall e (Array.mem_toList_iff.mpr he)
    rw [e1]; rfl
  have b2 : es.all (fun e => isExactStrKey e.2) = true := by
    rw [Array.all_eq_true_iff_forall_mem]
    intro e he
    obtain ⟨y, u, e1, _⟩ := hall e (Array.mem_toList_iff.mpr he)
    rw [e1]; rfl
  have b3 : es.findIdx? (fun e => e.2.isStr x) = none := by
    rw [Array.findIdx?_eq_none_iff]
    intro e he
    obtain ⟨y, u, e1, e2⟩ := hall e (Array.mem_toList_iff.mpr he)
    rw [e1]; exact e2
  have I1 := layNew_inv h (.str x tk) I
  generalize hlay : layNew t es h (.str x tk) = lay at I1
  obtain ⟨es1, t1, wd, gv⟩ := lay
  dsimp only at I1
  have hsz1 : es1.size = L.length + 1 := by rw [← Array.length_toList]; exact I1.perm.length_eq
  have hscan : runS w (setScan A (.str x tk) h true es) ⟨H (setO es n t), #[], d, k, os⟩ = some (.absent, ⟨H (setO es n t), #[], d, k, os⟩, 0) := by
    unfold setScan
    dsimp only
    rw [if_pos b2]
    unfold setScanStrs
    rw [b3]
    rfl
  have e0 : setAddHashed A (.str x tk) h = setAddHashedIn A (.str x tk) h (99999 + 1) := rfl
  rw [e0, setAddHashedIn]
  have hX : ∃ es' n' t' c, SetInv ((h, .str x tk) :: L) es' t' ∧ c ≤ 12 ∧ runS w (setAddByScan A (.str x tk) h es t) ⟨H (setO es n t), #[], d, k, os⟩ = some (some true, ⟨H (setO es' n' t'), #[], d, k, os⟩, c) := by
    unfold setAddByScan
    have fin : ∀ t2 : SetTable, SetInv ((h, .str x tk) :: L) es1 t2 → ∃ es' n' t' c, SetInv ((h, .str x tk) :: L) es' t' ∧ c ≤ 8 ∧
        runS w (do
          storeSet A es1 t2
          if (!wd && t2.tooFull) = true then
            match relayAll t2 es1 (SetTable.grown es1.size) with
            | (es, t, gave) => do
              (match gave with | true => rule "set.scan.the-table-gave-way" | false => pure ())
              storeSet A es t
              pure (some true)
          else pure (some true)) ⟨H (setO es n t), #[], d, k, os⟩ = some (some true, ⟨H (setO es' n' t'), #[], d, k, os⟩, c) := by
      intro t2 I2
      by_cases hc : (!wd && t2.tooFull) = true
      · have I3 := relay_inv (SetTable.grown es1.size) I2
        generalize hrl : relayAll t2 es1 (SetTable.grown es1.size) = rl at I3
        obtain ⟨es3, t3, gv3⟩ := rl
        dsimp only at I3
        have hs3 : es3.size = L.length + 1 := by rw [← Array.length_toList]; exact I3.perm.length_eq
        have hg : ∃ c, c ≤ 1 ∧ runS w (match gv3 with | true => rule "set.scan.the-table-gave-way" | false => pure ()) ⟨H (setO es1 (n + 1) t2), #[], d, k, os⟩ = some ((), ⟨H (setO es1 (n + 1) t2), #[], d, k, os⟩, c) := by
          cases gv3
          · exact ⟨0, by omega, rfl⟩
          · exact ⟨1, by omega, rfl⟩
        obtain ⟨c, hc1, hg⟩ := hg
        refine ⟨_, n + 1 + 1, _, _, I3, ?_, runS_val (runS_store hget hupd hA (by omega)) (a := some true) (k := 0 + 2 + c) ?_⟩
        · omega
        · rw [if_pos hc]
          exact runS_val hg (runS_val (runS_store hget hupd hA (by omega)) rfl)
      · refine ⟨_, n + 1, _, _, I2, ?_, runS_val (runS_store hget hupd hA (by omega)) (a := some true) (k := 0) ?_⟩
        · omega
        · rw [if_neg hc]; rfl
    have hg : ∃ c, c ≤ 1 ∧ ∀ s, runS w (match gv with | true => rule "set.scan.the-table-gave-way" | false => pure ()) s = some ((), s, c) := by
      cases gv
      · exact ⟨0, by omega, fun _ => rfl⟩
      · exact ⟨1, by omega, fun _ => rfl⟩
    obtain ⟨c0, hc0, hg⟩ := hg
    have tail : ∃ es' n' t' c, SetInv ((h, .str x tk) :: L) es' t' ∧ c ≤ 8 ∧ runS w (do
        let byValue ← if t1.plain = true then hashByValue 8 (.str x tk) else pure true
        let t2 := if byValue = true then t1 else { t1 with plain := false }
        storeSet A es1 t2
        if (!wd && t2.tooFull) = true then
            match relayAll t2 es1 (SetTable.grown es1.size) with
            | (es, t, gave) => do
              (match gave with | true => rule "set.scan.the-table-gave-way" | false => pure ())
              storeSet A es t
              pure (some true)
          else pure (some true)) ⟨H (setO es n t), #[], d, k, os⟩ = some (some true, ⟨H (setO es' n' t'), #[], d, k, os⟩, c) := by
      cases hp : t1.plain with
      | true => exact fin { t1 with plain := false } ⟨I1.perm, I1.place, I1.fill⟩
      | false => exact fin t1 I1
    obtain ⟨es', n', t', c, I', hc, ht⟩ := tail
    refine ⟨es', n', t', c + c0 + 0 + 1, I', by omega, ?_⟩
    refine runS_val (runS_rule w _ _) (runS_val (k := c + c0) hscan ?_)
    dsimp only
    rw [hlay]
    dsimp only
    refine runS_val (hg _) ?_
    revert ht
    cases t1.plain <;> exact id
  obtain ⟨es', n', t', c, I', hc, hX⟩ := hX
  refine ⟨es', n', t', 0 + c + 1, I', by omega, ?_⟩
  refine runS_val (runS_state hget I) ?_
  dsimp only
  rw [if_pos b1]
  exact runS_val hX rfl
end
end Mine

end

-- HeadS3
section
open PySem PySem.W PyProof.Rows
set_option Elab.async false
set_option maxRecDepth 100000
set_option maxHeartbeats 400000
namespace Mine
theorem hash_seg (w : World) : ∀ (h : Heap) (k tk c : Nat) (os : OsState) (gd : Bool → Bool) (lv : List Value → List Value) (p : Pos) (f1 f2 : Frame),
    segRun treeTable pwN w 11 an 2 8 ⟨h, #[], {}, k, os⟩ ⟨(pyHash (.str ⟨⟨[c]⟩⟩ tk)).wrap (fun a => .pure (.done (.ret (.int a 0)))) deadEnd gd lv, cC, p, [f1, f2]⟩ =
      some (.ret (.int (PyData.keyHash w.params ⟨⟨[c]⟩⟩) 0), ⟨h, #[], {}, k + 1, os⟩, cC, p) := by
  refine byRow2 "special-get-raises" (P := fun w => ∀ (h : Heap) (k tk c : Nat) (os : OsState) (gd : Bool → Bool) (lv : List Value → List Value) (p : Pos) (f1 f2 : Frame),
    segRun treeTable pwN w 11 an 2 8 ⟨h, #[], {}, k, os⟩ ⟨(pyHash (.str ⟨⟨[c]⟩⟩ tk)).wrap (fun a => .pure (.done (.ret (.int a 0)))) deadEnd gd lv, cC, p, [f1, f2]⟩ =
      some (.ret (.int (PyData.keyHash w.params ⟨⟨[c]⟩⟩) 0), ⟨h, #[], {}, k + 1, os⟩, cC, p)) ?_ ?_ w
  · intro w h k tk c os gd lv p f1 f2
    kernel_rfl
  · intro w h k tk c os gd lv p f1 f2
    kernel_rfl
end Mine

end

-- HeadS4
section
open PySem PySem.W PyProof.Rows
set_option Elab.async false
set_option maxRecDepth 100000
set_option maxHeartbeats 1000000
namespace Mine
noncomputable def H0 (P : Params) (o : Obj) : Heap := absHeap ((T_c0 P o).ins 232 o) 233 life0
noncomputable def S0 (P : Params) (o : Obj) (k : Nat) (os : OsState) : Shared := ⟨H0 P o, #[], {}, k, os⟩
theorem tget (P : Params) (o o' : Obj) : ((T_c0 P o').ins 232 o).get 232 = some o := by kernel_rfl
theorem tset (P : Params) (o o' : Obj) (f : Obj → Obj) : ((T_c0 P o').ins 232 o).set 232 f = (T_c0 P o').ins 232 (f o) := by kernel_rfl
theorem tsame (P : Params) (o o' : Obj) : T_c0 P o = T_c0 P o' := by kernel_rfl
theorem H0_get (P : Params) (es : Array (Int × Value)) (n : Nat) (t : SetTable) : (H0 P (setO es n t)).get? 232 = some (setO es n t) :=
  abs_get (by decide) (tget P _ _)
theorem H0_upd (P : Params) (o : Obj) (f : Obj → Obj) : (H0 P o).update 232 f = H0 P (f o) := by
  unfold H0
  rw [← absHeap_set (tget P o o), tset, tsame P o (f o)]
noncomputable def vs5 : List Nat := [97, 101, 105, 111, 117]
noncomputable def vStr (c : Nat) : Str := ⟨⟨[c]⟩⟩
noncomputable def stV : Stmt := dM 6 0
noncomputable def elV : List Expr := match stV with | .Assign _ (.Set e _ _) _ => e | _ => []
theorem stV_is : stV = .Assign [.Name ⟨⟨[103, 95, 118, 111, 119, 101, 108]⟩⟩ ⟨201,4,201,11⟩] (.Set elV 0 ⟨201,14,201,39⟩) ⟨201,4,201,39⟩ := by kernel_rfl
theorem elV_is : elV = [.Constant (.str (vStr 97)) 0 ⟨201, 15, 201, 18⟩, .Constant (.str (vStr 101)) 0 ⟨201, 20, 201, 23⟩, .Constant (.str (vStr 105)) 0 ⟨201, 25, 201, 28⟩, .Constant (.str (vStr 111)) 0 ⟨201, 30, 201, 33⟩, .Constant (.str (vStr 117)) 0 ⟨201, 35, 201, 38⟩] := by kernel_rfl

section
variable {w : World} {os : OsState} {f1 f2 : Frame} (hB : splitAtGen [f1, f2] = none)
abbrev BigC (w : World) (f1 f2 : Frame) {α : Type} (n : Nat) (m : Sem α) (s : Shared) (a : α) (s' : Shared) : Prop := Big w cC [f1, f2] n m s a s'
include hB
theorem big_hash (P : Params) (o : Obj) (k tk c : Nat) : BigC w f1 f2 8 (pyHash (.str ⟨⟨[c]⟩⟩ tk)) (S0 P o k os) (PyData.keyHash w.params ⟨⟨[c]⟩⟩) (S0 P o (k + 1) os) :=
  Big.of_seg (res := fun a => .ret (.int a 0)) (n := 8) hB (fun x h => by cases h; rfl) fun gd lv p => ⟨p, hash_seg w _ k tk c os gd lv p f1 f2⟩
theorem big_add {L : List (Int × Value)} {es : Array (Int × Value)} {n : Nat} {t : SetTable} {c tk k : Nat} (I : SetInv L es t) (hL : L.length ≤ 10) (hS : ∀ e ∈ L, ∃ y u, e.2 = .str y u ∧ (y == vStr c) = false) :
    ∃ es' n' t', SetInv ((PyData.keyHash w.params (vStr c), .str (vStr c) tk) :: L) es' t' ∧ BigC w f1 f2 30 (setAdd 232 (.str (vStr c) tk)) (S0 w.params (setO es n t) k os) true (S0 w.params (setO es' n' t') (k + 1) os) := by
  obtain ⟨es', n', t', c, I', hc, h⟩ := runS_add (w := w) (H := H0 w.params) (A := 232) (d := {}) (os := os) (k := k + 1) (H0_get _) (H0_upd _) rfl (tk := tk) (h := PyData.keyHash w.params (vStr c)) I hL hS (n := n)
  refine ⟨es', n', t', I', ?_⟩
  unfold setAdd
  exact Big.holding ((Big.bind (big_hash hB w.params _ k tk _) (Big.of_runS h)).le (by omega))
end
section
variable {w : World} {os : OsState} {f1 f2 : Frame} (hB : splitAtGen [f1, f2] = none)
noncomputable def elS : List (Bool × Sem Value) := (starEach elV cenv).map fun (star, t) => (star, do let v ← t; standAt ⟨201,14,201,39⟩; pure v)
theorem road : displayRoad 0 elV = .unsure := by kernel_rfl
theorem inMain (os : OsState) : runS w (inMainModule cenv) ((St (T_c0 w.params default) 232 487 os).abs) = some (true, (St (T_c0 w.params default) 232 487 os).abs, 2) := by kernel_rfl
theorem newS (os : OsState) : ∃ t, SetInv [] #[] t ∧ runS w (newSet (.type "set")) ((St (T_c0 w.params default) 232 487 os).abs) = some (.ref 232, S0 w.params (setO #[] 0 t) 487 os, 2) := by
  refine ⟨.fresh 0 0 (!w.params.followText "set-order"), ⟨List.Perm.refl _, rfl, Nat.zero_le _⟩, ?_⟩
  kernel_rfl
noncomputable def firstV : List Value := [.str (vStr 97) 487, .str (vStr 101) 488, .str (vStr 105) 489, .str (vStr 111) 490, .str (vStr 117) 491]
theorem allV (o : Obj) (os : OsState) : runS w (evalAll ((elS.take 5).map (·.2))) (S0 w.params o 487 os) = some (firstV, S0 w.params o 492 os, 10) := by kernel_rfl
end
end Mine

end

-- HeadS5
section
open PySem PySem.W PyProof.Rows
set_option Elab.async false
set_option maxRecDepth 100000
set_option maxHeartbeats 1000000
namespace Mine
section
variable {w : World} {os : OsState} {f1 f2 : Frame} (hB : splitAtGen [f1, f2] = none)
noncomputable def SetVow (P : Params) (es : Array (Int × Value)) (t : SetTable) : Prop :=
  SetInv [(PyData.keyHash P (vStr 117), .str (vStr 117) 491), (PyData.keyHash P (vStr 111), .str (vStr 111) 490), (PyData.keyHash P (vStr 105), .str (vStr 105) 489), (PyData.keyHash P (vStr 101), .str (vStr 101) 488), (PyData.keyHash P (vStr 97), .str (vStr 97) 487)] es t
include hB
theorem big_all {es0 : Array (Int × Value)} {t0 : SetTable} (I0 : SetInv [] es0 t0) : ∃ es n t, SetVow w.params es t ∧
    BigC w f1 f2 150 (forIn firstV PUnit.unit fun x _ => do let _ ← setAdd 232 x; pure (ForInStep.yield PUnit.unit)) (S0 w.params (setO es0 0 t0) 492 os) PUnit.unit (S0 w.params (setO es n t) 497 os) := by
  obtain ⟨es1, n1, t1, I1, b1⟩ := big_add (w := w) (os := os) (n := 0) (k := 492) (c := 97) (tk := 487) hB I0 (by decide) (by simp)
  obtain ⟨es2, n2, t2, I2, b2⟩ := big_add (w := w) (os := os) (n := n1) (k := 493) (c := 101) (tk := 488) hB I1 (by simp) (by
    intro e he; simp only [List.mem_cons, List.not_mem_nil, or_false] at he; rcases he with rfl; exact ⟨_, _, rfl, by decide⟩)
  obtain ⟨es3, n3, t3, I3, b3⟩ := big_add (w := w) (os := os) (n := n2) (k := 494) (c := 105) (tk := 489) hB I2 (by simp) (by
    intro e he; simp only [List.mem_cons, List.not_mem_nil, or_false] at he; rcases he with rfl | rfl <;> exact ⟨_, _, rfl, by decide⟩)
  obtain ⟨es4, n4, t4, I4, b4⟩ := big_add (w := w) (os := os) (n := n3) (k := 495) (c := 111) (tk := 490) hB I3 (by simp) (by
    intro e he; simp only [List.mem_cons, List.not_mem_nil, or_false] at he; rcases he with rfl | rfl | rfl <;> exact ⟨_, _, rfl, by decide⟩)
  obtain ⟨es5, n5, t5, I5, b5⟩ := big_add (w := w) (os := os) (n := n4) (k := 496) (c := 117) (tk := 491) hB I4 (by simp) (by
    intro e he; simp only [List.mem_cons, List.not_mem_nil, or_false] at he; rcases he with rfl | rfl | rfl | rfl <;> exact ⟨_, _, rfl, by decide⟩)
  refine ⟨es5, n5, t5, I5, ?_⟩
  unfold firstV
  simp only [List.forIn_cons, List.forIn_nil, pure_bind, bind_assoc]
  exact Big.le (n := 30 + (30 + (30 + (30 + (30 + 0))))) (Big.bind b1 (Big.bind b2 (Big.bind b3 (Big.bind b4 (Big.bind b5 Big.pure))))) (by omega)
theorem big_display : ∃ es n t, SetVow w.params es t ∧ BigC w f1 f2 200 (setDisplay .unsure true elS) ((St (T_c0 w.params default) 232 487 os).abs) (.ref 232) (S0 w.params (setO es n t) 497 os) := by
  obtain ⟨t0, I0, hn⟩ := newS (w := w) os
  obtain ⟨es, n, t, I, hall⟩ := big_all (w := w) (os := os) hB I0
  refine ⟨es, n + 1, { t with led := false }, ⟨I.perm, I.place, I.fill⟩, ?_⟩
  have hsz : es.size ≤ 100 := by
    have := I.perm.length_eq
    rw [Array.length_toList] at this
    simp at this
    omega
  have hun : runS w (do rule "set.display.perhaps-of-constants"; setUnled 232) (S0 w.params (setO es n t) 497 os) = some ((), S0 w.params (setO es (n + 1) { t with led := false }) 497 os, 2 + 1 + 1) := by
    refine runS_val (runS_rule w _ _) ?_
    unfold setUnled
    exact runS_val (runS_state (w := w) (H := H0 w.params) (A := 232) (d := {}) (os := os) (k := 497) (H0_get _) (n := n) I) (runS_store (H0_get _) (H0_upd _) rfl hsz)
  have hn5 : (if elS.length > 30 then 0 else (List.findIdx? (fun x => x.fst) elS).getD elS.length) = 5 := by kernel_rfl
  have hd5 : List.drop 5 elS = [] := by kernel_rfl
  unfold setDisplay
  rw [if_neg (by decide)]
  have inner : BigC w f1 f2 (10 + (150 + 4 + (0 + 0))) (do
      let first ← evalAll (List.map (fun x => x.snd) (List.take 5 elS))
      holding first do
        forIn first PUnit.unit fun x __s => do
          let _ ← setAdd 232 x
          pure (ForInStep.yield PUnit.unit)
        if (DisplayRoad.unsure == DisplayRoad.unsure) = true then do
            rule "set.display.perhaps-of-constants"
            setUnled 232
          else pure ()
      let _ ← (pure PUnit.unit : Sem PUnit)
      pure ()) (S0 w.params (setO #[] 0 t0) 487 os) () (S0 w.params (setO es (n + 1) { t with led := false }) 497 os) := by
    refine Big.bind (Big.of_runS (allV _ os)) (Big.bind (a := ()) (s₁ := S0 w.params (setO es (n + 1) { t with led := false }) 497 os) (Big.holding (Big.bind hall ?_)) (Big.bind (a := PUnit.unit) Big.pure Big.pure))
    rw [if_pos (by decide)]
    exact Big.of_runS hun
  have whole : BigC w f1 f2 (2 + (10 + (150 + 4 + (0 + 0)) + 0)) (do
      let x ← newSet (.type "set")
      match x with
        | .ref s =>
          have nFirst := if elS.length > 30 then 0 else (List.findIdx? (fun x => x.fst) elS).getD elS.length;
          do
          holding [Value.ref s] do
              let first ← evalAll (List.map (fun x => x.snd) (List.take nFirst elS))
              holding first do
                  forIn first PUnit.unit fun x __s => do
                      let _ ← setAdd s x
                      pure (ForInStep.yield PUnit.unit)
                  if (DisplayRoad.unsure == DisplayRoad.unsure) = true then do
                      rule "set.display.perhaps-of-constants"
                      setUnled s
                    else pure ()
              forIn (List.drop nFirst elS) PUnit.unit fun x __s =>
                  match x with
                  | (star, x) => do
                    let v ← x
                    if star = true then do
                        holding [v] (setDisplayStar s v)
                        pure (ForInStep.yield PUnit.unit)
                      else do
                        let _ ← holding [v] (setAdd s v)
                        pure (ForInStep.yield PUnit.unit)
              pure ()
          pure (Value.ref s)
        | x => unsupported "internal:set-display") ((St (T_c0 w.params default) 232 487 os).abs) (.ref 232) (S0 w.params (setO es (n + 1) { t with led := false }) 497 os) := by
    refine Big.bind (Big.of_runS hn) ?_
    dsimp only
    rw [hn5, hd5]
    exact Big.bind (a := ()) (Big.holding inner) Big.pure
  exact whole.le (by omega)
theorem big_eval : ∃ es n t, SetVow w.params es t ∧ BigC w f1 f2 300 (eval (.Set elV 0 ⟨201,14,201,39⟩) cenv) ((St (T_c0 w.params default) 232 487 os).abs) (.ref 232) (S0 w.params (setO es n t) 497 os) := by
  obtain ⟨es, n, t, I, h⟩ := big_display (w := w) (os := os) hB
  refine ⟨es, n, t, I, ?_⟩
  rw [arm_eval_Set, road]
  exact (Big.bind (a := ()) (Big.of_runS (n := 1) (by rfl)) (Big.bind (Big.of_runS (inMain os)) h)).le (by omega)
omit hB in
theorem store_seg (es : Array (Int × Value)) (n : Nat) (t : SetTable) (gd : Bool → Bool) (lv : List Value → List Value) (p : Pos) :
    segRun treeTable pwN w 11 an 2 40 (S0 w.params (setO es n t) 497 os) ⟨((do assignStores cenv (.ref 232) (← swappedStores [.Name ⟨⟨[103, 95, 118, 111, 119, 101, 108]⟩⟩ ⟨201,4,201,11⟩] (.Set elV 0 ⟨201,14,201,39⟩) cenv) ((assignEach [.Name ⟨⟨[103, 95, 118, 111, 119, 101, 108]⟩⟩ ⟨201,4,201,11⟩] cenv).map (·.2))) : Sem Flow).wrap (fun a => .pure (.done (id a))) deadEnd gd lv, cC, p, [f1, f2]⟩ =
      some (.next, (St (T_l202 w.params (setO es n t)) 233 498 os).abs, cC, ⟨201,4,201,11⟩) :=
  segRun_of (s := St ((T_c0 w.params (setO es n t)).ins 232 (setO es n t)) 233 497 os) (s' := St (T_l202 w.params (setO es n t)) 233 498 os) (by kernel_rfl)
theorem big_stmt : ∃ es n t, SetVow w.params es t ∧ BigP w cC [f1, f2] 400 (exec stV cenv) ((St (T_c0 w.params default) 232 487 os).abs) .next ((St (T_l202 w.params (setO es n t)) 233 498 os).abs) ⟨201,4,201,11⟩ := by
  obtain ⟨es, n, t, I, h⟩ := big_eval (w := w) (os := os) hB
  refine ⟨es, n, t, I, ?_⟩
  rw [stV_is, exec_Assign_arm]
  have tail : BigP w cC [f1, f2] (300 + 40) (do
      let v ← eval (.Set elV 0 ⟨201,14,201,39⟩) cenv
      assignStores cenv v (← swappedStores [.Name ⟨⟨[103, 95, 118, 111, 119, 101, 108]⟩⟩ ⟨201,4,201,11⟩] (.Set elV 0 ⟨201,14,201,39⟩) cenv) ((assignEach [.Name ⟨⟨[103, 95, 118, 111, 119, 101, 108]⟩⟩ ⟨201,4,201,11⟩] cenv).map (·.2)))
      ((St (T_c0 w.params default) 232 487 os).abs) .next ((St (T_l202 w.params (setO es n t)) 233 498 os).abs) ⟨201,4,201,11⟩ :=
    Big.bindP h (BigP.of_seg (res := id) hB (fun x h => h) fun gd lv p => store_seg es n t gd lv p)
  exact (Big.bindP (a := ()) (Big.of_runS (n := 1) (by rfl)) (Big.bindP (a := false) (Big.of_runS (n := 0) (by rfl)) tail)).le (by omega)
end
end Mine

end

-- HeadE
section
open PySem PySem.W PyProof.Rows
set_option Elab.async false
set_option maxRecDepth 100000
set_option maxHeartbeats 1000000
namespace Mine
theorem Rch.piece {w : World} {n : Nat} {s s' : Shared} {l rest : List Stmt} {pos p' : Pos} (h : segRun treeTable pwN w 11 an 1 n s (piecesOf l env0 cE pos B0) = some (.next, s', cE, p')) :
    Rch w n s (restOf (l ++ rest) env0 cE pos B0) s' (restOf rest env0 cE p' B0) := fun _ _ k => piece_app h k
theorem Rch.block {w : World} {n : Nat} {s s' : Shared} {pos p' : Pos} (h : segRun treeTable pwN w 11 an 1 n s (blockOf body0 env0 cE pos B0) = some (.next, s', cE, p')) :
    Rch w n s ⟨denote treeTable (.body body0 env0), cE, pos, B0⟩ s' (restOf body0 env0 cE p' B0) := fun _ _ k => piece_block h k
theorem body0_is : body0 = sts1 ++ (sts2 ++ (sts3 ++ rest5)) := by kernel_rfl
theorem cb_is : cb = stV :: rC 1 := by kernel_rfl
theorem blockC (w : World) (os : OsState) : runS w (blockStart cb cenv) ((St (T_c0 w.params default) 232 487 os).abs) = some ((), (St (T_c0 w.params default) 232 487 os).abs, 0) := by kernel_rfl
theorem two_of_len {α : Type} : ∀ {l : List α}, l.length = 2 → ∃ a b, l = [a, b]
  | [a, b], _ => ⟨a, b, rfl⟩
theorem run_all (w : World) (os : OsState) : ∃ es n t, SetVow w.params es t ∧
    topRun treeTable pwN w 11 an 10000 ⟨boot_heap w.params, #[], boot_drawn, boot_toks, os⟩ (topStub pwN) = some (SF w.params es n t os) := by
  have r1 := Rch.of_segGo (ppre w os default)
  have r2 := Rch.block (segRun_of (pblock w os default))
  have r3 := Rch.piece (rest := sts2 ++ (sts3 ++ rest5)) (segRun_of (p1 w os default))
  have r4 := Rch.piece (rest := sts3 ++ rest5) (segRun_of (p2 w os default))
  have r5 := Rch.piece (rest := rest5) (segRun_of (p3 w os default))
  have r6 := Rch.of_segGo (segGo_of (c0 w os default))
  rw [body0_is] at r2
  obtain ⟨f1, f2, hB⟩ := two_of_len (B1_len w os default)
  have hG := B1_gen w os default
  rw [hB] at hG r6
  obtain ⟨es, n, t, V, hst⟩ := big_stmt (w := w) (os := os) hG
  refine ⟨es, n, t, V, ?_⟩
  have r7 : Rch w (0 + 400) ((St (T_c0 w.params default) 232 487 os).abs) ⟨denote treeTable cC, cC, ⟨200,0,430,50⟩, [f1, f2]⟩ ((St (T_l202 w.params (setO es n t)) 233 498 os).abs) (cT 1 ⟨201,4,201,11⟩ [f1, f2]) := by
    have e : denote treeTable cC = (blockStart cb cenv).wrap (fun _ => (execs cb cenv).wrap doneF (leaveH cenv) id id) .raise id id := body_wrap cb
    rw [e]
    obtain ⟨p', b⟩ := Big.of_runS (c := cC) (B := [f1, f2]) (blockC w os) (fun _ => (execs cb cenv).wrap doneF (leaveH cenv) id id) .raise id id ⟨200,0,430,50⟩
    refine b.trans ?_
    have e2 : (execs cb cenv).wrap doneF (leaveH cenv) id id = (exec stV cenv).wrap (fun f => match f with | .next => (execs (rC 1) cenv).wrap doneF (leaveH cenv) id id | f => doneF f) (leaveH cenv) id id := by
      rw [cb_is, execs_cons_wrap]
      exact Sem.wrap_congr _ _ _ (fun f => by cases f <;> rfl) fun _ => rfl
    show Rch w 400 _ ⟨(execs cb cenv).wrap doneF (leaveH cenv) id id, cC, p', [f1, f2]⟩ _ _
    rw [e2]
    exact hst _ _ _ _ _
  have c1' := Rch.of_segGo (segGo_of (c1 w os es n t default))
  have c2' := Rch.of_segGo (segGo_of (c2 w os es n t default))
  have c3' := Rch.of_segGo (segGo_of (c3 w os es n t default))
  have c4' := Rch.of_segGo (segGo_of (c4 w os es n t default))
  have c4b' := Rch.of_segGo (segGo_of (c4b w os es n t default))
  have c5' := Rch.of_segGo (segGo_of (c5 w os es n t default))
  rw [hB] at c1' c2' c3' c4' c4b' c5'
  have r8 := Rch.piece (rest := []) (segRun_of (p25 w os es n t))
  rw [List.append_nil] at r8
  have r9 := Rch.of_segGo (segGo_of (pfin w os es n t))
  have all := r1.trans (r2.trans (r3.trans (r4.trans (r5.trans (r6.trans (r7.trans (c1'.trans (c2'.trans (c3'.trans (c4'.trans (c4b'.trans (c5'.trans (r8.trans r9)))))))))))))
  exact (all.le (m := 9999) (by omega)) 1 _ rfl
noncomputable def YFh (s : Shared) : Option Heap := some s.heap
noncomputable def YAh (w : World) : Option Heap := (openEnds treeTable pwN w 20000).map Shared.heap
theorem opening_is : opening pwN = plainProg pwN.main.scope.names := by kernel_rfl
theorem top_from {tb : String → Option Builtin} {p : Program} {w : World} {N k : Nat} {m : Option Value} {s₀ s₁ : Shared} (h1 : (s₀.heap.isNs mainGlobals && s₀.gens.size == 0) = true) (h2 : s₀.heap.objs.size = k) (h3 : s₀.heap.nsMap mainGlobals "__annotations__" = m)
    (run : topRun tb p w k m N s₀ (topStub p) = some s₁) (l1 : staticsOk (importedModules p.main.body) s₀.heap s₁.heap = true) (l2 : namesBound p s₁.heap = true) (l3 : gensDone s₁ = true) (l4 : laidKept s₀.heap s₁.heap = true) : topFrom tb p w N s₀ = some s₁ := by
  subst h2 h3
  unfold topFrom
  rw [h1, run]
  show (match staticsOk (importedModules p.main.body) s₀.heap s₁.heap && namesBound p s₁.heap && gensDone s₁ && laidKept s₀.heap s₁.heap with | true => some s₁ | false => none) = some s₁
  rw [l1, l2, l3, l4]
  rfl
theorem ends_of {tb : String → Option Builtin} {p : Program} {w : World} {N : Nat} {s₀ : Shared} {r : Option Shared} (e : fencedOpening tb p w N = some s₀) (h : topFrom tb p w N s₀ = r) : openEnds tb p w N = r := by
  unfold openEnds
  rw [e]
  exact h
theorem shared_of {x : Option Shared} {h : Heap} {gs : Array GenState} {d : _} {k : Nat} (e : x.map (fun s => (s.heap, s.gens, s.drawn, s.toks)) = some (h, gs, d, k)) : ∃ os, x = some ⟨h, gs, d, k, os⟩ := by
  obtain ⟨⟨h', gs', d', k', os⟩, e1, e2⟩ := Option.map_eq_some_iff.mp e
  obtain ⟨rfl, rfl, rfl, rfl⟩ : h' = h ∧ gs' = gs ∧ d' = d ∧ k' = k := by simpa using e2
  exact ⟨os, e1⟩
theorem boot_start (w : World) : ∃ os, fencedOpening treeTable pwN w 20000 = some ⟨boot_heap w.params, #[], boot_drawn, boot_toks, os⟩ := shared_of (boot_open (p := pwN) (N := 20000) opening_is (by decide) (fun _ => rfl) w)
theorem ends_all (w : World) : ∃ es n t os, SetVow w.params es t ∧ openEnds treeTable pwN w 20000 = some (SF w.params es n t os) := by
  obtain ⟨os, e⟩ := boot_start w
  obtain ⟨es, n, t, V, run⟩ := run_all w os
  have z := Prod.mk.inj (looksize w)
  have z' := Prod.mk.inj z.2
  exact ⟨es, n, t, os, V, ends_of e (top_from z.1 z'.1 z'.2 (topRun_mono 10000 _ _ _ _ run) (look1 w.params es n t) (look2 w.params es n t) (look3 w.params es n t os) (look4 w.params es n t))⟩
theorem left_all (w : World) : ∃ es n t s, SetVow w.params es t ∧ openEnds treeTable pwN w 20000 = some s ∧ s.heap = HF w.params es n t ∧ openSeen qV looseN (importedModules pwN.main.body) (fun _ => true) true s = openGood qV looseN := by
  obtain ⟨es, n, t, os, V, h⟩ := ends_all w
  exact ⟨es, n, t, SF w.params es n t os, V, h, rfl, look5 w.params es n t os⟩
theorem left_is : LeftO pwN qV looseN (fun _ => true) YFh YAh 20000 := fun w => by
  obtain ⟨es, n, t, s, V, h1, h2, h3⟩ := left_all w
  unfold YAh
  rw [h1]
  exact congrArg some (Prod.ext h3 rfl)
theorem heap_is {w : World} {s : Shared} (h : YFh s = YAh w) : ∃ es n t, SetVow w.params es t ∧ s.heap = HF w.params es n t := by
  obtain ⟨es, n, t, s', V, h1, h2, _⟩ := left_all w
  refine ⟨es, n, t, V, ?_⟩
  unfold YFh YAh at h
  rw [h1] at h
  exact (Option.some.inj h).trans h2
end Mine

end

-- EvTabs
section
open PySem PySem.W PyProof.Rows
set_option Elab.async false
set_option maxRecDepth 100000
set_option maxHeartbeats 0
set_option linter.all false
namespace Mine

structure VT where
  es : Array (Int × Value)
  n : Nat
  t : SetTable
noncomputable def KF (P : Params) (V : VT) : Frag := [(0, o0 P), (2, o2v1 P), (3, o3v5 P), (34, o34 P), (35, o35 P), (41, o41 P), (42, o42 P), (48, o48 P), (49, o49 P), (62, o62 P), (63, o63 P), (90, o90 P), (91, o91 P), (118, o118 P), (119, o119 P), (132, o132 P), (133, o133 P), (139, o139 P), (140, o140 P), (146, o146 P), (147, o147 P), (153, o153 P), (154, o154 P), (160, o160 P), (161, o161 P), (198, o198 P), (199, o199v1 P), (219, o219 P), (220, o220 P), (232, setO V.es V.n V.t), (238, o238 P), (239, o239 P), (245, o245 P), (246, o246 P), (252, o252 P), (253, o253 P), (259, o259 P), (260, o260 P), (266, o266 P), (267, o267 P), (275, o275 P), (276, o276 P), (278, o278 P), (279, o279 P), (281, o281 P), (282, o282 P), (284, o284 P), (285, o285 P), (286, o286 P), (288, o288 P), (289, o289 P), (291, o291 P), (292, o292 P), (294, o294 P), (295, o295 P), (296, o296 P), (298, o298 P), (299, o299 P), (301, o301 P), (302, o302 P), (303, o303 P), (305, o305 P), (306, o306 P), (308, o308 P), (309, o309 P), (311, o311 P), (312, o312 P), (314, o314 P), (315, o315 P), (317, o317 P), (318, o318 P), (320, o320 P), (321, o321 P), (323, o323 P), (324, o324 P), (326, o326 P), (327, o327 P), (329, o329 P), (330, o330 P), (332, o332 P), (333, o333 P), (334, o334 P), (336, o336 P), (337, o337 P), (339, o339 P), (341, o341 P), (342, o342 P), (353, o353 P), (354, o354 P), (363, o363 P), (364, o364 P), (370, o370 P), (371, o371 P), (377, o377 P), (378, o378 P), (382, o382 P), (383, o383 P), (389, o389 P), (390, o390 P), (396, o396 P), (397, o397 P), (403, o403 P), (404, o404 P), (410, o410 P), (411, o411 P), (417, o417 P), (418, o418 P), (424, o424 P), (425, o425 P), (431, o431 P), (432, o432 P), (438, o438 P), (439, o439 P), (445, o445 P), (446, o446 P), (452, o452 P), (453, o453 P), (459, o459 P), (460, o460 P), (466, o466 P), (467, o467 P)]
structure FRow where
  a : Addr
  nm : Str
  ql : Str
  d : Stmt
  pm : Value
  code : Addr
noncomputable def frows : List FRow := [⟨35, s5, s355, (dM 2 0), (.str s3 194), 34⟩,
  ⟨42, s7, s356, (dM 2 1), (.str s3 194), 41⟩,
  ⟨49, s17, s357, (dM 2 2), (.str s3 194), 48⟩,
  ⟨63, s20, s359, (dM 2 4), (.str s3 194), 62⟩,
  ⟨91, s25, s363, (dM 2 8), (.str s3 194), 90⟩,
  ⟨119, s29, s367, (dM 2 12), (.str s3 194), 118⟩,
  ⟨133, s32, s369, (dM 2 14), (.str s3 194), 132⟩,
  ⟨140, s50, s370, (dM 2 15), (.str s3 194), 139⟩,
  ⟨147, s52, s371, (dM 2 16), (.str s3 194), 146⟩,
  ⟨154, s56, s372, (dM 2 17), (.str s3 194), 153⟩,
  ⟨161, s57, s373, (dM 2 18), (.str s3 194), 160⟩,
  ⟨239, s76, s382, (dM 6 3), (.str s67 473), 238⟩,
  ⟨246, s78, s383, (dM 6 4), (.str s67 473), 245⟩,
  ⟨253, s80, s384, (dM 6 5), (.str s67 473), 252⟩,
  ⟨260, s85, s385, (dM 6 6), (.str s67 473), 259⟩,
  ⟨267, s96, s386, (dM 6 7), (.str s67 473), 266⟩,
  ⟨364, s123, s123, (dS 9), (.str s122 867), 363⟩,
  ⟨371, s128, s128, (dS 10), (.str s122 867), 370⟩,
  ⟨378, s133, s133, (dS 11), (.str s122 867), 377⟩,
  ⟨383, s137, s137, (dS 13), (.str s122 867), 382⟩,
  ⟨390, s144, s144, (dS 14), (.str s122 867), 389⟩,
  ⟨397, s147, s147, (dS 15), (.str s122 867), 396⟩,
  ⟨404, s154, s154, (dS 16), (.str s122 867), 403⟩,
  ⟨411, s157, s157, (dS 17), (.str s122 867), 410⟩,
  ⟨418, s163, s163, (dS 18), (.str s122 867), 417⟩,
  ⟨425, s166, s166, (dS 19), (.str s122 867), 424⟩,
  ⟨432, s170, s170, (dS 20), (.str s122 867), 431⟩,
  ⟨439, s174, s174, (dS 21), (.str s122 867), 438⟩,
  ⟨446, s176, s176, (dS 22), (.str s122 867), 445⟩,
  ⟨453, s178, s178, (dS 23), (.str s122 867), 452⟩,
  ⟨460, s179, s179, (dS 24), (.str s122 867), 459⟩,
  ⟨467, s185, s185, (dS 25), (.str s122 867), 466⟩]
inductive AV where
  | none
  | bool (b : Bool)
  | int (i : Int)
  | str (l : List Nat)
  | list (l : List AV)
  | hlist (l : List Int)
  | ilist (l : List Int)
  | tape
  | stem (b : Bool)
  | ref (a : Addr)

noncomputable def gtab : List (Str × AV) := [(s4, .ref 199), (s66, .ref 220), (s68, .ref 342), (s84, .ref 354), (s123, .ref 364), (s128, .ref 371), (s133, .ref 378), (s135, .str [97, 98, 100, 101, 103, 105, 107, 108, 109, 110, 111, 114, 115, 116, 117]), (s137, .ref 383), (s144, .ref 390), (s147, .ref 397), (s154, .ref 404), (s157, .ref 411), (s163, .ref 418), (s166, .ref 425), (s170, .ref 432), (s174, .ref 439), (s176, .ref 446), (s178, .ref 453), (s179, .ref 460), (s185, .ref 467)]
noncomputable def ctab : List (Str × AV) := [(s69, .ref 232), (s77, .ref 284), (s79, .ref 294), (s82, .ref 301), (s86, .ref 332), (s97, .ref 339)]
noncomputable def mtab : List (Str × Addr) := [(s5, 35), (s7, 42), (s17, 49), (s20, 63), (s25, 91), (s29, 119), (s32, 133), (s50, 140), (s52, 147), (s56, 154), (s57, 161), (s76, 239), (s78, 246), (s80, 253), (s85, 260), (s96, 267)]
structure Am where
  s : List Nat
  sub : Int
  res : Int
noncomputable def amtab : List (Addr × Am) := [(276, ⟨[107, 97, 104], (.negSucc 0), (.ofNat 1)⟩),
  (279, ⟨[108, 97, 104], (.negSucc 0), (.ofNat 1)⟩),
  (282, ⟨[112, 117, 110], (.negSucc 0), (.ofNat 1)⟩),
  (286, ⟨[110, 121, 97], (.negSucc 0), (.ofNat 1)⟩),
  (289, ⟨[107, 117], (.negSucc 0), (.ofNat 1)⟩),
  (292, ⟨[109, 117], (.negSucc 0), (.ofNat 1)⟩),
  (296, ⟨[105], (.negSucc 0), (.ofNat 2)⟩),
  (299, ⟨[97, 110], (.negSucc 0), (.ofNat 1)⟩),
  (303, ⟨[100, 105], (.negSucc 0), (.ofNat 1)⟩),
  (306, ⟨[107, 101], (.negSucc 0), (.ofNat 3)⟩),
  (309, ⟨[109, 101], (.negSucc 0), (.ofNat 1)⟩),
  (312, ⟨[109, 101, 109], (.ofNat 2), (.ofNat 5)⟩),
  (315, ⟨[109, 101, 110], (.ofNat 2), (.ofNat 2)⟩),
  (318, ⟨[109, 101, 110, 103], (.ofNat 4), (.ofNat 1)⟩),
  (321, ⟨[112, 101, 109], (.negSucc 0), (.ofNat 6)⟩),
  (324, ⟨[112, 101, 110], (.negSucc 0), (.ofNat 4)⟩),
  (327, ⟨[112, 101, 110, 103], (.ofNat 7), (.ofNat 3)⟩),
  (330, ⟨[116, 101, 114], (.negSucc 0), (.ofNat 1)⟩),
  (334, ⟨[98, 101], (.negSucc 0), (.ofNat 2)⟩),
  (337, ⟨[112, 101], (.negSucc 0), (.ofNat 1)⟩)]
noncomputable def amF (e : Am) : List (Str × AV) := [(s21, .str e.s), (s49, .int e.sub), (s48, .int e.res)]
noncomputable def amdict : List (Addr × Addr) := [(276, 275), (279, 278), (282, 281), (286, 285), (289, 288), (292, 291), (296, 295), (299, 298), (303, 302), (306, 305), (309, 308), (312, 311), (315, 314), (318, 317), (321, 320), (324, 323), (327, 326), (330, 329), (334, 333), (337, 336)]
noncomputable def ltab : List (Addr × List AV) := [(284, [.ref 276, .ref 279, .ref 282]), (294, [.ref 286, .ref 289, .ref 292]), (301, [.ref 296, .ref 299]), (332, [.ref 303, .ref 306, .ref 309, .ref 312, .ref 315, .ref 318, .ref 321, .ref 324, .ref 327, .ref 330]), (339, [.ref 334, .ref 337])]
end Mine

end

-- EvSem
section
open PySem PySem.W PyProof.Rows
set_option Elab.async false
set_option maxRecDepth 100000
set_option maxHeartbeats 0
set_option linter.all false
namespace Mine
noncomputable section

inductive AFlow where
  | next | brk | exc
  | ret (v : AV)

abbrev LEnv := List (Str × AV)

structure G where
  tape : Option (List AV)
  s1 : Option (List (Str × AV))
  s2 : Option (List (Str × AV))

noncomputable def G.st (g : G) (b : Bool) : Option (List (Str × AV)) := cond b g.s2 g.s1
noncomputable def G.setSt (g : G) (b : Bool) (f : List (Str × AV)) : G := match b with
  | false => ⟨g.tape, some f, g.s2⟩
  | true => ⟨g.tape, g.s1, some f⟩
noncomputable def aput (x : Str) (v : AV) : List (Str × AV) → List (Str × AV)
  | [] => [(x, v)]
  | p :: r => bif p.1 == x then (p.1, v) :: r else p :: aput x v r
noncomputable def aget {α : Type} (x : Str) : List (Str × α) → Option α
  | [] => none
  | p :: r => bif p.1 == x then some p.2 else aget x r
noncomputable def nget {α : Type} (a : Addr) : List (Addr × α) → Option α
  | [] => none
  | p :: r => bif Nat.beq p.1 a then some p.2 else nget a r

noncomputable def vowels : List Nat := [97, 101, 105, 111, 117]
noncomputable def fitN : Nat := 1000000
abbrev fitI (x : Int) : Prop := -1000000000000 ≤ x ∧ x ≤ 1000000000000
noncomputable def guardA (c : Prop) [Decidable c] (k : Prop) : Prop := bif decide c then k else False
theorem guard_iff {c : Prop} [Decidable c] {k : Prop} : guardA c k ↔ c ∧ k := by
  unfold guardA
  by_cases h : c
  · simp [h]
  · simp [h]
noncomputable def elimA {α : Type} (o : Option α) (κ : α → Prop) : Prop := o.elim False κ
theorem elim_iff {α : Type} {o : Option α} {κ : α → Prop} : elimA o κ ↔ ∃ x, o = some x ∧ κ x := by
  cases o <;> simp [elimA]

noncomputable def binA (op : Operator) (a b : AV) (κ : AV → Prop) : Prop := match op with
  | .Add => (match a, b with
    | .int x, .int y => κ (.int (x + y))
    | .str x, .str y => guardA (x.length + y.length ≤ fitN) (κ (.str (x ++ y)))
    | _, _ => False)
  | .Sub => (match a, b with
    | .int x, .int y => κ (.int (x - y))
    | _, _ => False)
  | .Mult => (match a, b with
    | .int x, .int y => guardA (y = 7 ∨ y = 48271) (κ (.int (x * y)))
    | _, _ => False)
  | .Mod => (match a, b with
    | .int x, .int y => guardA (y ≠ 0) (κ (.int (Int.fmod x y)))
    | _, _ => False)
  | .FloorDiv => (match a, b with
    | .int x, .int y => guardA (y = 31) (κ (.int (Int.fdiv x y)))
    | _, _ => False)
  | .RShift => (match a, b with
    | .int x, .int y => guardA (y = 1) (κ (.int (Int.fdiv x 2)))
    | _, _ => False)
  | _ => False

noncomputable def augA (op : Operator) (a b : AV) (κ : AV → Prop) : Prop := match op, a, b with
  | .Add, .int x, .int y => κ (.int (x + y))
  | .Sub, .int x, .int y => κ (.int (x - y))
  | _, _, _ => False
noncomputable def eqA (a b : AV) (κ : Bool → Prop) : Prop := match a, b with
  | .int x, .int y => κ (x == y)
  | .str x, .str y => κ (x == y)
  | .bool x, .bool y => κ (x == y)
  | _, _ => False
noncomputable def intsOf : List AV → Option (List Int)
  | [] => some []
  | .int i :: r => (intsOf r).map (i :: ·)
  | _ :: _ => none
noncomputable def strsOf : List AV → Option (List (List Nat))
  | [] => some []
  | .str i :: r => (strsOf r).map (i :: ·)
  | _ :: _ => none
noncomputable def refsOf : List AV → Option (List Addr)
  | [] => some []
  | .ref i :: r => (refsOf r).map (i :: ·)
  | _ :: _ => none
noncomputable def inA (a b : AV) (κ : Bool → Prop) : Prop := match a, b with
  | .int x, .list l => elimA (intsOf l) fun ys => κ (ys.contains x)
  | .str x, .list l => elimA (strsOf l) fun ys => κ (ys.contains x)
  | .str x, .ref 232 => (match x with
    | [c] => κ (vowels.contains c)
    | _ => False)
  | .str x, .str y => (match x with
    | [c] => guardA (y = vowels) (κ (vowels.contains c))
    | _ => False)
  | _, _ => False
noncomputable def cmpA (op : CmpOp) (a b : AV) (κ : Bool → Prop) : Prop := match op with
  | .Eq => eqA a b κ
  | .NotEq => eqA a b fun c => κ (!c)
  | .In => inA a b κ
  | .NotIn => inA a b fun c => κ (!c)
  | .Lt => (match a, b with
    | .int x, .int y => κ (decide (x < y))
    | _, _ => False)
  | .LtE => (match a, b with
    | .int x, .int y => κ (decide (x ≤ y))
    | _, _ => False)
  | .Gt => (match a, b with
    | .int x, .int y => κ (decide (x > y))
    | _, _ => False)
  | .GtE => (match a, b with
    | .int x, .int y => κ (decide (x ≥ y))
    | _, _ => False)
  | _ => False

noncomputable def flds : List Str := [s10, s11, s12, s14, s15, s16, s74, s75]
noncomputable def attrA (g : G) (a : AV) (x : Str) (κ : AV → Prop) : Prop := match a with
  | .stem b => (match flds.contains x with
    | true => elimA (g.st b) fun f => elimA (aget x f) κ
    | false => False)
  | .ref a => bif Nat.beq a 342 then elimA (aget x ctab) κ else elimA (nget a amtab) fun e => elimA (aget x (amF e)) κ
  | _ => False

noncomputable def listA (g : G) (a : AV) : Option (List AV) := match a with
  | .list l => some l
  | .tape => g.tape
  | .ref a => nget a ltab
  | _ => none

noncomputable def atA {α : Type} (l : List α) (i : Int) (κ : α → Prop) : Prop := guardA (0 ≤ i) (elimA l[i.toNat]? κ)
noncomputable def itemA (g : G) (a i : AV) (κ : AV → Prop) : Prop := match i with
  | .int k => (match a with
    | .str l => atA l k fun c => κ (.str [c])
    | .ilist l => atA l k fun c => κ (.int c)
    | a => elimA (listA g a) fun l => guardA (l.length ≤ 1000) (match strsOf l, intsOf l, refsOf l with
      | some ss, _, _ => atA ss k fun t => κ (.str t)
      | none, some ns, _ => atA ns k fun t => κ (.int t)
      | none, none, some rs => atA rs k fun t => κ (.ref t)
      | none, none, none => atA l k κ))
  | _ => False

noncomputable def slcA (l : List Nat) (lo hi : Option Int) : List Nat := (Txt.slice ⟨⟨l⟩⟩ lo hi).cps.toList

noncomputable def builtA (g : G) (f : Str) (vs : List AV) (κ : AV → Prop) : Prop :=
  bif f == s13 then (match vs with
    | [.str l] => κ (.int l.length)
    | [.ilist l] => κ (.int l.length)
    | [a] => elimA (listA g a) fun l => guardA (l.length ≤ fitN) (κ (.int l.length))
    | _ => False)
  else bif f == s47 then (match vs with
    | [.str [c]] => κ (.int c)
    | _ => False)
  else bif f == s43 then (match vs with
    | [.int x, .int y] => κ (.int (if y < x then y else x))
    | _ => False)
  else bif f == s142 then (match vs with
    | [.ilist ys] => κ (.int ys.sum)
    | _ => False)
  else False

noncomputable def methA (f : Str) (x : List Nat) (vs : List AV) (κ : AV → Prop) : Prop :=
  bif f == ("startswith" : Str) then (match vs with
    | [.str y] => κ (.bool (y.isPrefixOf x))
    | _ => False)
  else bif f == ("endswith" : Str) then (match vs with
    | [.str y] => κ (.bool (y.isSuffixOf x))
    | _ => False)
  else False

noncomputable def truA (a : AV) (κ : Bool → Prop) : Prop := match a with
  | .bool b => κ b
  | _ => False

noncomputable def rangeI (a b c : Int) : List AV := (List.range (Builtin.Range.rangeSize a b c).toNat).map fun (i : Nat) => AV.int (a + (i : Int) * c)
noncomputable def rangeA (vs : List AV) (κ : List AV → Prop) : Prop := match vs with
  | [.int b] => guardA (fitI b) (κ (rangeI 0 b 1))
  | [.int a, .int b] => guardA (fitI a ∧ fitI b) (κ (rangeI a b 1))
  | [.int a, .int b, .int c] => guardA (c = -1 ∧ fitI a ∧ fitI b) (κ (rangeI a b c))
  | _ => False

noncomputable def plainArgs (args : List Expr) : Bool := args.all (fun e => match e with | .Starred .. => false | _ => true) && decide (args.length < 20)
noncomputable def baseOk (o : Expr) : Bool := match o with
  | .Name .. => true
  | .Subscript .. => true
  | _ => false
noncomputable def isBlt (x : Str) : Bool := x == s13 || (x == s47 || (x == s43 || x == s142))
noncomputable def isSM (x : Str) : Bool := x == Str.ofString "startswith" || x == Str.ofString "endswith"
abbrev Funs := Addr → List AV → G → (AV → G → Prop) → Prop

structure Sems where
  e : Expr → LEnv → G → (AV → G → Prop) → Prop
  t : Expr → LEnv → G → (Bool → G → Prop) → Prop
  s : List Stmt → LEnv → G → (AFlow → LEnv → G → Prop) → Prop

section
variable (Γ : Funs) (sc : Scope) (S : Sems)

noncomputable def esA : List Expr → LEnv → G → (List AV → G → Prop) → Prop
  | [], _, g, κ => κ [] g
  | e :: r, ρ, g, κ => S.e e ρ g fun v g => esA r ρ g fun vs g => κ (v :: vs) g

noncomputable def nameA (x : Str) (ρ : LEnv) (κ : AV → Prop) : Prop := match (x == Str.ofString "__debug__"), sc.names.lookup x with
  | false, some .local => elimA (aget x ρ) κ
  | false, some .globalImplicit => elimA (aget x gtab) κ
  | _, _ => False
noncomputable def isGlob (x : Str) : Bool := match (x == Str.ofString "__debug__"), sc.names.lookup x with
  | false, some .globalImplicit => true
  | _, _ => false

noncomputable def optA (e : Option Expr) (ρ : LEnv) (g : G) (κ : Option Int → G → Prop) : Prop := match e with
  | none => κ none g
  | some e => S.e e ρ g fun v g => (match v with
    | .int i => κ (some i) g
    | _ => False)

noncomputable def eA : Expr → LEnv → G → (AV → G → Prop) → Prop
  | .Constant c _ _, _, g, κ => (match c with
    | .int i => κ (.int i) g
    | .str s => guardA (s.cps.toList.length ≤ fitN) (κ (.str s.cps.toList) g)
    | .bool b => κ (.bool b) g
    | .none => κ .none g
    | _ => False)
  | .Name x _, ρ, g, κ => nameA sc x ρ fun v => κ v g
  | .BinOp l op r _, ρ, g, κ => S.e l ρ g fun a g => S.e r ρ g fun b g => binA op a b fun v => κ v g
  | .UnaryOp op e _, ρ, g, κ => (match op with
    | .USub => S.e e ρ g fun v g => (match v with
      | .int i => κ (.int (-i)) g
      | _ => False)
    | _ => False)
  | .Compare l [op] [r] _, ρ, g, κ => (match r with
    | .Set .. => False
    | r => S.e l ρ g fun a g => S.e r ρ g fun b g => cmpA op a b fun v => κ (.bool v) g)
  | .BoolOp op [a, b] _, ρ, g, κ => (match op with
    | .And => S.e a ρ g fun v g => truA v fun c => bif c then S.e b ρ g κ else κ (.bool false) g
    | .Or => False)
  | .IfExp t a b _, ρ, g, κ => S.t t ρ g fun c g => bif c then S.e a ρ g κ else S.e b ρ g κ
  | .List es _, ρ, g, κ => (match plainArgs es with
    | false => False
    | true => esA S es ρ g fun vs g => κ (.list vs) g)
  | .Attribute e x _, ρ, g, κ => (match e with
    | .Name .. => S.e e ρ g fun a g => attrA g a x fun v => κ v g
    | _ => False)
  | .Subscript e i _, ρ, g, κ => (match i with
    | .Slice lo hi none _ => S.e e ρ g fun a g => optA S lo ρ g fun l g => optA S hi ρ g fun h g => (match a with
      | .str x => κ (.str (slcA x l h)) g
      | .hlist x => (match l, h with
        | none, some k => guardA (0 ≤ k ∧ k ≤ 1000) (κ (.ilist (x.take k.toNat)) g)
        | _, _ => False)
      | _ => False)
    | .Slice .. => False
    | i => S.e e ρ g fun a g => S.e i ρ g fun v g => itemA g a v fun v => κ v g)
  | .Call f args [] pos, ρ, g, κ => (match plainArgs args with
    | false => False
    | true => (match f with
      | .Name x _ => (match isGlob sc x with
        | false => False
        | true => (match aget x gtab with
          | some (.ref f) => esA S args ρ g fun vs g => Γ f vs g κ
          | some _ => False
          | none => (match isBlt x with
            | true => esA S args ρ g fun vs g => builtA g x vs fun v => κ v g
            | false => False)))
      | .Attribute o x apos => (match baseOk o && apos.endLine == pos.line with
        | false => False
        | true => S.e o ρ g fun ov g => (match ov with
          | .stem b => elimA (aget x mtab) fun f => elimA (g.st b) fun fl => (match aget x fl with
              | none => esA S args ρ g fun vs g => Γ f (.stem b :: vs) g κ
              | some _ => False)
          | .str l => (match isSM x with
            | true => esA S args ρ g fun vs g => methA x l vs fun v => κ v g
            | false => False)
          | _ => False))
      | _ => False))
  | _, _, _, _ => False

noncomputable def andA : List Expr → LEnv → G → (Bool → G → Prop) → Prop
  | [], _, g, κ => κ true g
  | e :: r, ρ, g, κ => S.t e ρ g fun b g => bif b then andA r ρ g κ else κ false g
noncomputable def orA : List Expr → LEnv → G → (Bool → G → Prop) → Prop
  | [], _, g, κ => κ false g
  | e :: r, ρ, g, κ => S.t e ρ g fun b g => bif b then κ true g else orA r ρ g κ

noncomputable def tA : Expr → LEnv → G → (Bool → G → Prop) → Prop
  | .Compare l [op] [r] _, ρ, g, κ => (match r with
    | .Set .. => False
    | r => S.e l ρ g fun a g => S.e r ρ g fun b g => cmpA op a b fun v => κ v g)
  | .UnaryOp .Not e _, ρ, g, κ => S.t e ρ g fun b g => κ (!b) g
  | .BoolOp .And es _, ρ, g, κ => andA S es ρ g κ
  | .BoolOp .Or es _, ρ, g, κ => orA S es ρ g κ
  | .Name x p, ρ, g, κ => S.e (.Name x p) ρ g fun v g => truA v fun b => κ b g
  | .Call f as ks p, ρ, g, κ => S.e (.Call f as ks p) ρ g fun v g => truA v fun b => κ b g
  | _, _, _, _ => False

noncomputable def isLoc (x : Str) : Bool := match sc.names.lookup x with
  | some .local => true
  | _ => false

noncomputable def forA (x : Str) (body : List Stmt) : List AV → LEnv → G → (AFlow → LEnv → G → Prop) → Prop
  | [], ρ, g, κ => κ .next ρ g
  | v :: r, ρ, g, κ => S.s body (aput x v ρ) g fun fl ρ g => match fl with
    | .next => forA x body r ρ g κ
    | .brk => κ .next ρ g
    | .ret v => κ (.ret v) ρ g
    | .exc => False
noncomputable def whileA (body : List Stmt) : Nat → LEnv → G → (AFlow → LEnv → G → Prop) → Prop
  | 0, _, _, _ => False
  | k + 1, ρ, g, κ => S.s body ρ g fun fl ρ g => match fl with
    | .next => whileA body k ρ g κ
    | .brk => κ .next ρ g
    | .ret v => κ (.ret v) ρ g
    | .exc => False

noncomputable def putsA : List Expr → List AV → LEnv → (LEnv → Prop) → Prop
  | [], [], ρ, κ => κ ρ
  | .Name x _ :: r, v :: vs, ρ, κ => (match isLoc sc x with
    | true => putsA r vs (aput x v ρ) κ
    | false => False)
  | _, _, _, _ => False

noncomputable def setA (g : G) (o : AV) (x : Str) (v : AV) (κ : G → Prop) : Prop := match o with
  | .stem b => (match flds.contains x with
    | true => elimA (g.st b) fun f => guardA (f.length < 100) (κ (g.setSt b (aput x v f)))
    | false => False)
  | _ => False
noncomputable def noSwap : Expr → Bool
  | .ListComp .. => false
  | .SetComp .. => false
  | .DictComp .. => false
  | _ => true

noncomputable def compOk (y : Str) (py cpos : Pos) (scope : Scope) (x : Str) : Bool :=
  isLoc sc y && (py.line == cpos.line && (!(scope.names.any fun (n, k) => n == y && (k == .local || k == .cell)) && (scope.names.all (fun z => z.2 == .local) &&
    (scope.kind == .function && (scope.names.all (fun z => scope.names.lookup z.1 == some .local) && (scope.names.lookup x == some .local && !(x == Str.ofString "__debug__")))))))
noncomputable def compA (t e : Expr) (ρ : LEnv) (g : G) (κ : AFlow → LEnv → G → Prop) : Prop := match t, e with
  | .Name y py, .ListComp (.BinOp (.Name x' _) .Mod (.Constant (.int k) _ _) _) [⟨.Name x _, .Subscript ia ib ic, [], 0⟩] scope cpos => (match compOk sc y py cpos scope x && x' == x with
    | true => S.e (.Subscript ia ib ic) ρ g fun v g => (match v with
      | .ilist ys => guardA (k ≠ 0) (κ .next (aput y (.ilist (ys.map fun n => Int.fmod n k)) ρ) g)
      | _ => False)
    | false => False)
  | _, _ => False
noncomputable def st1A : Stmt → LEnv → G → (AFlow → LEnv → G → Prop) → Prop
  | .Pass _, ρ, g, κ => κ .next ρ g
  | .Break _, ρ, g, κ => κ .brk ρ g
  | .Return (some e) _, ρ, g, κ => S.e e ρ g fun v g => κ (.ret v) ρ g
  | .Return none _, ρ, g, κ => κ (.ret .none) ρ g
  | .Expr e _, ρ, g, κ => (match e with
    | .Call .. => S.e e ρ g fun _ g => κ .next ρ g
    | _ => False)
  | .Assert e _ _, ρ, g, κ => S.t e ρ g fun b g => bif b then κ .next ρ g else False
  | .If t a b _, ρ, g, κ => S.t t ρ g fun c g => bif c then S.s a ρ g κ else S.s b ρ g κ
  | .While t body [] _, ρ, g, κ => (match t with
    | .Constant (.bool true) _ _ => whileA S body 16 ρ g κ
    | _ => False)
  | .For (.Name x _) it body [] _, ρ, g, κ => (match isLoc sc x with
    | false => False
    | true => (match it with
      | .Call (.Name f _) args [] _ => (match isGlob sc f && f == s46 && plainArgs args with
        | true => esA S args ρ g fun vs g => rangeA vs fun l => forA S x body l ρ g κ
        | false => False)
      | .List .. => S.e it ρ g fun v g => (match v with
          | .list l => forA S x body l ρ g κ
          | _ => False)
      | .Name .. => S.e it ρ g fun v g => (match v with
          | .list l => forA S x body l ρ g κ
          | _ => False)
      | _ => False))
  | .Assign [t] e _, ρ, g, κ => (match noSwap e with
    | false => compA sc S t e ρ g κ
    | true => (match t with
      | .Name x _ => (match isLoc sc x with
        | true => S.e e ρ g fun v g => κ .next (aput x v ρ) g
        | false => False)
      | .Attribute o x _ => S.e e ρ g fun v g => S.e o ρ g fun ov g => setA g ov x v fun g => κ .next ρ g
      | .Subscript o i _ => S.e e ρ g fun v g => S.e o ρ g fun ov g => S.e i ρ g fun iv g => (match ov, iv, g.tape with
        | .tape, .int k, some l => guardA (0 ≤ k ∧ k < l.length ∧ l.length ≤ 1000) (κ .next ρ ⟨some (l.set k.toNat v), g.s1, g.s2⟩)
        | _, _, _ => False)
      | .Tuple ts _ _ => (match e with
        | .Tuple .. => False
        | e => S.e e ρ g fun v g => (match v with
          | .list l => putsA sc ts l ρ fun ρ => κ .next ρ g
          | _ => False))
      | _ => False))
  | .AugAssign t op e _, ρ, g, κ => (match t with
    | .Name x _ => (match isLoc sc x with
      | true => nameA sc x ρ fun a => S.e e ρ g fun b g => augA op a b fun v => κ .next (aput x v ρ) g
      | false => False)
    | .Attribute o x _ => S.e o ρ g fun ov g => attrA g ov x fun a => S.e e ρ g fun b g => augA op a b fun v => setA g ov x v fun g => κ .next ρ g
    | _ => False)
  | .Raise (some (.Call (.Name x _) [] [] _)) none _, ρ, g, κ => (match isGlob sc x && x == s84 with
    | true => κ .exc ρ g
    | false => False)
  | .Try body [.ExceptHandler (some (.Name x _)) none [.Pass _] _] [] [] _, ρ, g, κ => (match isGlob sc x && x == s84 with
    | true => S.s body ρ g fun fl ρ g => (match fl with
      | .exc => κ .next ρ g
      | fl => κ fl ρ g)
    | false => False)
  | _, _, _, _ => False

noncomputable def sA : List Stmt → LEnv → G → (AFlow → LEnv → G → Prop) → Prop
  | [], ρ, g, κ => κ .next ρ g
  | st :: r, ρ, g, κ => st1A sc S st ρ g fun fl ρ g => match fl with
    | .next => sA r ρ g κ
    | fl => κ fl ρ g
end

noncomputable def sems (Γ : Funs) (sc : Scope) : Nat → Sems
  | 0 => ⟨fun _ _ _ _ => False, fun _ _ _ _ => False, fun _ _ _ _ => False⟩
  | n + 1 => ⟨eA Γ sc (sems Γ sc n), tA (sems Γ sc n), sA sc (sems Γ sc n)⟩

noncomputable def frowOf (a : Addr) : List FRow → Option FRow
  | [] => none
  | r :: rs => bif Nat.beq r.a a then some r else frowOf a rs
noncomputable def parsOf (r : FRow) : List Str := (fPar r.d).args.map (·.arg)
noncomputable def stepF (Γ : Funs) : Funs := fun f vs g κ => match frowOf f frows with
  | none => False
  | some r => guardA ((parsOf r).length = vs.length) ((sems Γ (fScope r.d) 24).s (fBody r.d) ((parsOf r).zip vs) g fun fl _ g => match fl with
    | .ret v => κ v g
    | .next => κ .none g
    | _ => False)
noncomputable def gam : Nat → Funs
  | 0 => fun _ _ _ _ => False
  | k + 1 => stepF (gam k)
end
end Mine

end

-- EvS1
section
open PySem PySem.W PyProof.Rows PySem.Calls
set_option Elab.async false
set_option maxRecDepth 100000
set_option maxHeartbeats 0
set_option linter.all false
namespace Mine

structure Adrs where
  gs : Array GenState
  os : OsState
  tp : Addr
  x1 : Addr
  d1 : Addr
  x2 : Addr
  d2 : Addr
noncomputable def Adrs.x (W : Adrs) (b : Bool) : Addr := cond b W.x2 W.x1
noncomputable def Adrs.d (W : Adrs) (b : Bool) : Addr := cond b W.d2 W.d1

abbrev LO (vs : List Value) (n : Nat) : Obj := { cls := .type "list", data := .seq vs.toArray n }

inductive RepV (hb : Heap) (W : Adrs) (imm : List (Addr × Obj)) : AV → Value → Prop
  | none : RepV hb W imm .none .none
  | bool (b : Bool) : RepV hb W imm (.bool b) (.bool b)
  | int (i : Int) (t : Tok) : RepV hb W imm (.int i) (.int i t)
  | str (l : List Nat) (t : Tok) (hl : l.length ≤ fitN) : RepV hb W imm (.str l) (.str ⟨⟨l⟩⟩ t)
  | ref (a : Addr) : RepV hb W imm (.ref a) (.ref a)
  | tape : RepV hb W imm .tape (.ref W.tp)
  | stem (b : Bool) : RepV hb W imm (.stem b) (.ref (W.x b))
  | hlist (a : Addr) (ns : List Int) (vs : List Value) (hi : IntsAre vs ns) (at_ : hb.IsList a vs.toArray) (hn : ns.length ≤ 1000) : RepV hb W imm (.hlist ns) (.ref a)
  | ilist (a : Addr) (ns : List Int) (vs : List Value) (n : Nat) (hi : IntsAre vs ns) (at_ : (a, LO vs n) ∈ imm) (hn : ns.length ≤ 1000) : RepV hb W imm (.ilist ns) (.ref a)
  | list (a : Addr) (avs : List AV) (vs : List Value) (n : Nat) (hl : avs.length = vs.length) (h : ∀ (i : Nat) (x : AV) (v : Value), avs[i]? = some x → vs[i]? = some v → RepV hb W imm x v)
      (at_ : (a, LO vs n) ∈ imm) (hn : avs.length ≤ 1000) : RepV hb W imm (.list avs) (.ref a)

noncomputable def RepL (hb : Heap) (W : Adrs) (imm : List (Addr × Obj)) (avs : List AV) (vs : List Value) : Prop :=
  avs.length = vs.length ∧ ∀ (i : Nat) (x : AV) (v : Value), avs[i]? = some x → vs[i]? = some v → RepV hb W imm x v

theorem RepV.mono {hb W imm imm'} (hs : imm ⊆ imm') {x : AV} {v : Value} (r : RepV hb W imm x v) : RepV hb W imm' x v := by
  induction r with
  | none => exact .none
  | bool b => exact .bool b
  | int i t => exact .int i t
  | str l t hl => exact .str l t hl
  | ref a => exact .ref a
  | tape => exact .tape
  | stem b => exact .stem b
  | hlist a ns vs hi at_ hn => exact .hlist a ns vs hi at_ hn
  | ilist a ns vs n hi at_ hn => exact .ilist a ns vs n hi (hs at_) hn
  | list a avs vs n hl h at_ hn ih => exact .list a avs vs n hl ih (hs at_) hn
theorem RepL.mono {hb W imm imm'} (hs : imm ⊆ imm') {x : List AV} {v : List Value} (r : RepL hb W imm x v) : RepL hb W imm' x v :=
  ⟨r.1, fun i x v h1 h2 => (r.2 i x v h1 h2).mono hs⟩
theorem RepL.nil {hb W imm} : RepL hb W imm [] [] := ⟨rfl, fun i x v h => by simp at h⟩
theorem RepL.cons {hb W imm x v xs vs} (h : RepV hb W imm x v) (r : RepL hb W imm xs vs) : RepL hb W imm (x :: xs) (v :: vs) :=
  ⟨by simp [r.1], fun i y u h1 h2 => by
    cases i with
    | zero => simp at h1 h2; subst h1 h2; exact h
    | succ i => simp at h1 h2; exact r.2 i y u h1 h2⟩
theorem RepL.tail {hb W imm x v xs vs} (r : RepL hb W imm (x :: xs) (v :: vs)) : RepV hb W imm x v ∧ RepL hb W imm xs vs :=
  ⟨r.2 0 x v rfl rfl, by simpa using r.1, fun i y u h1 h2 => r.2 (i + 1) y u (by simpa using h1) (by simpa using h2)⟩
theorem RepL.nil_inv {hb W imm vs} (r : RepL hb W imm [] vs) : vs = [] := by
  have := r.1; simp at this; exact List.eq_nil_of_length_eq_zero (by omega)
theorem RepL.cons_inv {hb W imm x xs vs} (r : RepL hb W imm (x :: xs) vs) : ∃ v us, vs = v :: us ∧ RepV hb W imm x v ∧ RepL hb W imm xs us := by
  cases vs with
  | nil => have := r.1; simp at this
  | cons v us => exact ⟨v, us, rfl, r.tail.1, r.tail.2⟩
theorem RepL.set {hb W imm xs vs x v} (r : RepL hb W imm xs vs) (h : RepV hb W imm x v) (k : Nat) : RepL hb W imm (xs.set k x) (vs.set k v) :=
  ⟨by simp [r.1], fun i y u h1 h2 => by
    rw [List.getElem?_set] at h1 h2
    by_cases e : k = i
    · subst e
      simp only [if_true] at h1 h2
      split at h1 <;> split at h2 <;> simp_all
    · rw [if_neg e] at h1 h2; exact r.2 i y u h1 h2⟩

-- texts
theorem str_app (x y : List Nat) : (⟨⟨x⟩⟩ : Str) ++ ⟨⟨y⟩⟩ = ⟨⟨x ++ y⟩⟩ := by
  show Str.mk (Array.mk x ++ Array.mk y) = _
  congr 1
  simp
theorem str_len (x : List Nat) : (⟨⟨x⟩⟩ : Str).length = x.length := rfl
theorem str_eta (x : Str) : (⟨⟨x.cps.toList⟩⟩ : Str) = x := by cases x; rfl
theorem str_inj {x y : List Nat} : ((⟨⟨x⟩⟩ : Str) == ⟨⟨y⟩⟩) = (x == y) := by
  rw [Bool.eq_iff_iff]; simp
section
variable {prog : Program} {w : World} {A : Around} {E : Value → Shared → Prop} {s : Shared} {hb : Heap} {W : Adrs} {imm : List (Addr × Obj)}

theorem binA_ok {op : Operator} {a b : AV} {va vb : Value} (ra : RepV hb W imm a va) (rb : RepV hb W imm b vb) {κ : AV → Prop} {Q : Value → Shared → Prop} (h : binA op a b κ)
    (k : ∀ av v tk, κ av → RepV hb W imm av v → Q v { s with toks := tk }) : wpAny (model prog w) A (binaryOp op va vb) Q E s := by
  cases op <;> simp only [binA] at h <;> try exact h.elim
  all_goals (cases ra <;> try exact h.elim)
  all_goals (cases rb <;> try exact h.elim)
  · exact add_int (k _ _ _ h (.int _ _))
  · have h := guard_iff.mp h
    exact add_str (fun t' tk => by rw [str_app]; exact k _ _ _ h.2 (.str _ _ (by rw [List.length_append]; exact h.1))) (by
      have := h.1; simp only [str_len, fitN, sizeLine] at *; omega)
  · exact P.sub_int (k _ _ _ h (.int _ _))
  · have h := guard_iff.mp h
    exact P.mul_int (k _ _ _ h.2 (.int _ _)) (IntMulOk.of_right (by rcases h.1 with e | e <;> subst e <;> decide +kernel))
  · have h := guard_iff.mp h
    exact mod_int' h.1 (k _ _ _ h.2 (.int _ _))
  · have h := guard_iff.mp h
    obtain ⟨e, h⟩ := h
    refine rshift_int (by omega) ?_
    subst e
    exact k _ _ _ h (.int _ _)
  · have h := guard_iff.mp h
    obtain ⟨rfl, h⟩ := h
    exact floordiv_int (by decide) (k _ _ _ h (.int _ _)) (.inl (by unfold Builtin.divisionGoesByPylong; rfl))

theorem eqA_ok {a b : AV} {va vb : Value} (ra : RepV hb W imm a va) (rb : RepV hb W imm b vb) {κ : Bool → Prop} {Q : Value → Shared → Prop} (h : eqA a b κ)
    (k : ∀ c tk, κ c → Q (.bool c) { s with toks := tk }) : wpAny (model prog w) A (compareOp .Eq va vb) Q E s := by
  cases ra <;> cases rb <;> simp only [eqA] at h <;> try exact h.elim
  · exact eq_bool (k _ s.toks h)
  · exact eq_int (k _ s.toks h)
  · exact P.eq_str (by rw [show ((_ : List Nat).toArray.toList == _) = _ from rfl]; exact k _ s.toks h)
theorem neA_ok {a b : AV} {va vb : Value} (ra : RepV hb W imm a va) (rb : RepV hb W imm b vb) {κ : Bool → Prop} {Q : Value → Shared → Prop} (h : eqA a b fun c => κ (!c))
    (k : ∀ c tk, κ c → Q (.bool c) { s with toks := tk }) : wpAny (model prog w) A (compareOp .NotEq va vb) Q E s := by
  cases ra <;> cases rb <;> simp only [eqA] at h <;> try exact h.elim
  · exact ne_bool (k _ s.toks h)
  · exact P.ne_int (k _ s.toks h)
  · exact P.ne_str (k _ s.toks h)
end
end Mine

end

-- EvS2
section
open PySem PySem.W PyProof.Rows PySem.Calls
set_option Elab.async false
set_option maxRecDepth 100000
set_option maxHeartbeats 0
set_option linter.all false
namespace Mine

structure Ctx (w : World) (V : VT) (hb : Heap) (p : Program) (loose : List Str) (mg mb : Str → Option Value) : Prop where
  k : (KF w.params V).In hb
  top : TopRead p loose mg mb hb
  vow : SetVow w.params V.es V.t

theorem vow_set (prog : Program) (w : World) {es : Array (Int × Value)} {n : Nat} {t : SetTable} (V : SetVow w.params es t) : (setO es n t).SetObjOf (PySem.strKind prog w) (fun k => (vowels.map fun c => (⟨⟨[c]⟩⟩ : Str)).any (· == k)) 5 := by
  have hsz : es.size = 5 := by
    have := V.perm.length_eq
    simpa using this
  have hin : ∀ c tk, (PySem.strKind prog w).is ⟨⟨[c]⟩⟩ (.str (vStr c) tk) = true := fun c tk => isStrOf_self _ tk
  have hin' : ∀ k c tk, (PySem.strKind prog w).is k (.str (vStr c) tk) = true → k = ⟨⟨[c]⟩⟩ := fun k c tk h => by
    have h' : Value.isStrOf k (.str (vStr c) tk) = true := h
    simp only [Value.isStrOf, vStr, beq_iff_eq] at h'
    exact h'.symm
  refine ⟨⟨by kernel_rfl, rfl, rfl⟩, es, n, t, rfl, fun e he => ?_, fun k => ?_, hsz, ?_⟩
  · have := V.perm.mem_iff.mp he
    simp only [List.mem_cons, List.not_mem_nil, or_false] at this
    rcases this with rfl | rfl | rfl | rfl | rfl <;> exact ⟨⟨_, hin _ _, rfl⟩, rfl⟩
  · constructor
    · intro h
      simp only [vowels, List.map_cons, List.map_nil, List.any_cons, List.any_nil, Bool.or_false, Bool.or_eq_true, beq_iff_eq] at h
      rcases h with rfl | rfl | rfl | rfl | rfl
      · exact ⟨_, V.perm.mem_iff.mpr (List.mem_cons_of_mem _ (List.mem_cons_of_mem _ (List.mem_cons_of_mem _ (List.mem_cons_of_mem _ (List.mem_cons_self ..))))), hin _ _⟩
      · exact ⟨_, V.perm.mem_iff.mpr (List.mem_cons_of_mem _ (List.mem_cons_of_mem _ (List.mem_cons_of_mem _ (List.mem_cons_self ..)))), hin _ _⟩
      · exact ⟨_, V.perm.mem_iff.mpr (List.mem_cons_of_mem _ (List.mem_cons_of_mem _ (List.mem_cons_self ..))), hin _ _⟩
      · exact ⟨_, V.perm.mem_iff.mpr (List.mem_cons_of_mem _ (List.mem_cons_self ..)), hin _ _⟩
      · exact ⟨_, V.perm.mem_iff.mpr (List.mem_cons_self ..), hin _ _⟩
    · rintro ⟨e, he, hk⟩
      have := V.perm.mem_iff.mp he
      simp only [List.mem_cons, List.not_mem_nil, or_false] at this
      rcases this with rfl | rfl | rfl | rfl | rfl <;> (have hk' := hin' _ _ _ hk; subst hk'; simp [vowels])
  · simp only [SetTable.fits, Bool.and_eq_true, beq_iff_eq, decide_eq_true_eq]
    exact ⟨V.place, V.fill⟩

-- the machine's state and the abstract state
noncomputable def TapeAt (hb : Heap) (W : Adrs) (imm : List (Addr × Obj)) (t : Option (List AV)) (l : List (Addr × Obj)) : Prop := match t with
  | none => l = []
  | some xs => ∃ vs o, RepL hb W imm xs vs ∧ (o.cls = .type "list" ∧ ∃ n, o.data = .seq vs.toArray n) ∧ l = [(W.tp, o)]
inductive RepD (hb : Heap) (W : Adrs) (imm : List (Addr × Obj)) (w : World) : List (Str × AV) → List DictEntry → Prop
  | nil : RepD hb W imm w [] []
  | cons (x : Str) (t : Tok) {a : AV} {v : Value} {f es} : RepV hb W imm a v → RepD hb W imm w f es → RepD hb W imm w ((x, a) :: f) (⟨PyData.keyHash w.params x, .str x t, v⟩ :: es)
noncomputable def StAt (hb : Heap) (W : Adrs) (imm : List (Addr × Obj)) (w : World) (x d : Addr) (f : Option (List (Str × AV))) (l : List (Addr × Obj)) : Prop := match f with
  | none => l = []
  | some f => ∃ es n, RepD hb W imm w f es ∧ l = [(x, instObj 342 d), (d, dictOf es n)]
structure Mu (hb : Heap) (W : Adrs) (imm : List (Addr × Obj)) (w : World) (g : G) (t p1 p2 : List (Addr × Obj)) : Prop where
  tape : TapeAt hb W imm g.tape t
  s1 : StAt hb W imm w W.x1 W.d1 g.s1 p1
  s2 : StAt hb W imm w W.x2 W.d2 g.s2 p2

theorem RepD.mono {hb W imm imm' w f es} (hs : imm ⊆ imm') (r : RepD hb W imm w f es) : RepD hb W imm' w f es := by
  induction r with
  | nil => exact .nil
  | cons x t h _ ih => exact .cons x t (h.mono hs) ih
theorem Mu.mono {hb W imm imm' w g t p1 p2} (hs : imm ⊆ imm') (r : Mu hb W imm w g t p1 p2) : Mu hb W imm' w g t p1 p2 := by
  obtain ⟨a, b, c⟩ := r
  refine ⟨?_, ?_, ?_⟩
  · unfold TapeAt at *
    split at a
    · exact a
    · obtain ⟨vs, o, h, e⟩ := a; exact ⟨vs, o, h.mono hs, e⟩
  · unfold StAt at *
    split at b
    · exact b
    · obtain ⟨es, n, h, e⟩ := b; exact ⟨es, n, h.mono hs, e⟩
  · unfold StAt at *
    split at c
    · exact c
    · obtain ⟨es, n, h, e⟩ := c; exact ⟨es, n, h.mono hs, e⟩

abbrev Led := List (Addr × Obj)
structure RelX (hb : Heap) (W : Adrs) (w : World) (L : Addr) (s : Shared) (m : Str → Option Value) (imm : Led) (g : G) (f0 frs t p1 p2 : Led) : Prop where
  fr : Fr hb L s.heap m
  z : s.gens = W.gs ∧ s.os = W.os
  up : TI.SameUp f0 frs
  mu : Mu hb W imm w g t p1 p2
  news : News hb L s.heap (imm ++ (t ++ (p1 ++ (p2 ++ frs))))
  nd : ((imm ++ (t ++ (p1 ++ (p2 ++ frs)))).map (·.1)).Nodup
noncomputable def Rel (hb : Heap) (W : Adrs) (w : World) (L : Addr) (f0 : Led) (s : Shared) (m : Str → Option Value) (imm : Led) (g : G) : Prop :=
  ∃ frs t p1 p2, RelX hb W w L s m imm g f0 frs t p1 p2

variable {hb : Heap} {W : Adrs} {w : World} {L : Addr} {f0 : Led} {s : Shared} {m : Str → Option Value} {imm : Led} {g : G}
theorem RelX.step {frs t p1 p2} {s' : Shared} (R : RelX hb W w L s m imm g f0 frs t p1 p2) (F : Fr hb L s'.heap m) (N : News hb L s'.heap (imm ++ (t ++ (p1 ++ (p2 ++ frs))))) (z : s'.gens = s.gens ∧ s'.os = s.os := by exact ⟨rfl, rfl⟩) : Rel hb W w L f0 s' m imm g :=
  ⟨frs, t, p1, p2, F, ⟨z.1.trans R.z.1, z.2.trans R.z.2⟩, R.up, R.mu, N, R.nd⟩
theorem Rel.tk {tk : Nat} (R : Rel hb W w L f0 s m imm g) : Rel hb W w L f0 { s with toks := tk } m imm g :=
  let ⟨frs, t, p1, p2, r⟩ := R; ⟨frs, t, p1, p2, r.fr, r.z, r.up, r.mu, r.news, r.nd⟩
theorem Rel.fr (R : Rel hb W w L f0 s m imm g) : Fr hb L s.heap m := let ⟨_, _, _, _, r⟩ := R; r.fr
theorem Rel.imm_at (R : Rel hb W w L f0 s m imm g) {p : Addr × Obj} (hp : p ∈ imm) : s.heap.get? p.1 = some p.2 := by
  obtain ⟨frs, t, p1, p2, r⟩ := R
  exact (r.news p (List.mem_append_left _ hp)).1
theorem Rel.list_at (R : Rel hb W w L f0 s m imm g) {a : Addr} {vs : List Value} {n : Nat} (e : (a, LO vs n) ∈ imm) : s.heap.IsList a vs.toArray := ⟨_, R.imm_at e, rfl, n, rfl⟩
theorem Rel.tape_at (R : Rel hb W w L f0 s m imm g) {l : List AV} (e : g.tape = some l) : ∃ vs, RepL hb W imm l vs ∧ s.heap.IsList W.tp vs.toArray := by
  obtain ⟨frs, t, p1, p2, r⟩ := R
  have := r.mu.tape
  unfold TapeAt at this
  rw [e] at this
  obtain ⟨vs, o, hv, ⟨h1, h2⟩, rfl⟩ := this
  exact ⟨vs, hv, o, (r.news (W.tp, o) (by simp)).1, h1, h2⟩
theorem Rel.st_at (R : Rel hb W w L f0 s m imm g) {b : Bool} {f : List (Str × AV)} (e : g.st b = some f) : ∃ es n, RepD hb W imm w f es ∧ PySem.W.InstAt s.heap (W.x b) (instObj 342 (W.d b)) 342 (some (dictOf es n)) := by
  obtain ⟨frs, t, p1, p2, r⟩ := R
  cases b with
  | false =>
    have := r.mu.s1
    unfold StAt at this
    rw [show g.s1 = some f from e] at this
    obtain ⟨es, n, hd, rfl⟩ := this
    exact ⟨es, n, hd, (r.news (W.x1, instObj 342 W.d1) (by simp)).1, rfl, rfl, (r.news (W.d1, dictOf es n) (by simp)).1⟩
  | true =>
    have := r.mu.s2
    unfold StAt at this
    rw [show g.s2 = some f from e] at this
    obtain ⟨es, n, hd, rfl⟩ := this
    exact ⟨es, n, hd, (r.news (W.x2, instObj 342 W.d2) (by simp)).1, rfl, rfl, (r.news (W.d2, dictOf es n) (by simp)).1⟩
end Mine

end

-- EvS3
section
open PySem PySem.W PyProof.Rows PySem.Calls
set_option Elab.async false
set_option maxRecDepth 100000
set_option maxHeartbeats 0
set_option linter.all false
namespace Mine
variable {hb : Heap} {W : Adrs} {w : World} {L : Addr} {f0 : Led} {m : Str → Option Value} {imm : Led} {g : G}
variable {prog : Program} {A : Around} {E : Value → Shared → Prop} {s : Shared} {p : Program} {loose : List Str} {mg mb : Str → Option Value} {V : VT}

theorem intsOf_ok : ∀ {l : List AV} {vs : List Value} {ys : List Int}, RepL hb W imm l vs → intsOf l = some ys → IntsAre vs ys
  | [], vs, ys, r, e => by
    rw [r.nil_inv]; simp [intsOf] at e; subst e; exact .nil
  | a :: l, vs, ys, r, e => by
    obtain ⟨v, us, rfl, h1, h2⟩ := r.cons_inv
    cases h1 <;> simp [intsOf] at e
    obtain ⟨zs, e1, rfl⟩ := e
    exact .cons _ _ (intsOf_ok h2 e1)
theorem strsOf_ok : ∀ {l : List AV} {vs : List Value} {ys : List (List Nat)}, RepL hb W imm l vs → strsOf l = some ys → StrsAre vs (ys.map fun y => ⟨⟨y⟩⟩)
  | [], vs, ys, r, e => by
    rw [r.nil_inv]; simp [strsOf] at e; subst e; exact .nil
  | a :: l, vs, ys, r, e => by
    obtain ⟨v, us, rfl, h1, h2⟩ := r.cons_inv
    cases h1 <;> simp [strsOf] at e
    obtain ⟨zs, e1, rfl⟩ := e
    exact .cons _ _ (strsOf_ok h2 e1)
theorem any_int (ys : List Int) (x : Int) : ys.any (· == x) = ys.contains x := by
  rw [Bool.eq_iff_iff]; simp
theorem any_str (ys : List (List Nat)) (x : List Nat) : (ys.map fun y => (⟨⟨y⟩⟩ : Str)).any (· == ⟨⟨x⟩⟩) = ys.contains x := by
  rw [Bool.eq_iff_iff]
  simp
theorem any_vow (c : Nat) : (vowels.map fun c => (⟨⟨[c]⟩⟩ : Str)).any (· == ⟨⟨[c]⟩⟩) = vowels.contains c := by
  rw [Bool.eq_iff_iff]
  simp
theorem occ_vow (c : Nat) : (!(Builtin.Str.occurrences ⟨⟨vowels⟩⟩ ⟨⟨[c]⟩⟩ 0 (Str.length ⟨⟨vowels⟩⟩) 1).isEmpty) = vowels.contains c := by
  by_cases h : c ∈ vowels
  · have : vowels.contains c = true := by simpa using h
    rw [this]
    simp only [vowels, List.mem_cons, List.not_mem_nil, or_false] at h
    rcases h with rfl | rfl | rfl | rfl | rfl <;> decide +kernel
  · have e : vowels.contains c = false := by simpa using h
    rw [e]
    simp only [vowels, List.mem_cons, List.not_mem_nil, or_false, not_or] at h
    have hs : ∀ i, i < 6 → Builtin.Str.subAt ⟨⟨vowels⟩⟩ ⟨⟨[c]⟩⟩ i = false := by
      intro i hi
      have : i = 0 ∨ i = 1 ∨ i = 2 ∨ i = 3 ∨ i = 4 ∨ i = 5 := by omega
      rcases this with rfl | rfl | rfl | rfl | rfl | rfl <;> simp [Builtin.Str.subAt, vowels, Str.length] <;> omega
    simp [Builtin.Str.occurrences, Str.length, vowels, Std.Legacy.Range.forIn_eq_forIn_range', List.range', Id.run]
    simp only [vowels] at hs
    simp [hs 0 (by omega), hs 1 (by omega), hs 2 (by omega), hs 3 (by omega), hs 4 (by omega), hs 5 (by omega)]
    rfl

theorem inA_ok (C : Ctx w V hb p loose mg mb) (R : Rel hb W w L f0 s m imm g) {a b : AV} {va vb : Value} (ra : RepV hb W imm a va) (rb : RepV hb W imm b vb) {κ : Bool → Prop} {Q : Value → Shared → Prop} (h : inA a b κ)
    (k : ∀ c tk, κ c → Q (.bool c) { s with toks := tk }) : wpAny (model prog w) A (compareOp .In va vb) Q E s := by
  unfold inA at h
  split at h
  · cases ra; cases rb
    obtain ⟨ys, e, h⟩ := elim_iff.mp h
    refine in_list_ints (R.list_at ‹_›) (intsOf_ok ⟨‹_›, ‹_›⟩ e) ?_
    rw [any_int]; exact k _ s.toks h
  · cases ra; cases rb
    obtain ⟨ys, e, h⟩ := elim_iff.mp h
    refine in_list_strs (R.list_at ‹_›) (strsOf_ok ⟨‹_›, ‹_›⟩ e) ?_
    rw [any_str]; exact k _ s.toks h
  · cases ra; cases rb
    split at h
    · refine in_argsetS R.fr (vow_set prog w (n := V.n) C.vow) (C.k 232 _ (by kernel_rfl)) (by decide) ?_
      show Q (.bool ((vowels.map fun c => (⟨⟨[c]⟩⟩ : Str)).any (· == ⟨⟨_⟩⟩))) _
      rw [any_vow]; exact k _ _ h
    · exact h.elim
  · cases ra; cases rb
    split at h
    · have h := guard_iff.mp h
      obtain ⟨rfl, h⟩ := h
      refine P.in_str ?_
      rw [occ_vow]; exact k _ s.toks h
    · exact h.elim
  · exact h.elim
theorem ninA_ok (C : Ctx w V hb p loose mg mb) (R : Rel hb W w L f0 s m imm g) {a b : AV} {va vb : Value} (ra : RepV hb W imm a va) (rb : RepV hb W imm b vb) {κ : Bool → Prop} {Q : Value → Shared → Prop} (h : inA a b fun c => κ (!c))
    (k : ∀ c tk, κ c → Q (.bool c) { s with toks := tk }) : wpAny (model prog w) A (compareOp .NotIn va vb) Q E s := by
  unfold inA at h
  split at h
  · cases ra; cases rb
    obtain ⟨ys, e, h⟩ := elim_iff.mp h
    refine notin_list_ints (R.list_at ‹_›) (intsOf_ok ⟨‹_›, ‹_›⟩ e) ?_
    rw [any_int]; exact k _ s.toks h
  · cases ra; cases rb
    obtain ⟨ys, e, h⟩ := elim_iff.mp h
    refine notin_list_strs (R.list_at ‹_›) (strsOf_ok ⟨‹_›, ‹_›⟩ e) ?_
    rw [any_str]; exact k _ s.toks h
  · cases ra; cases rb
    split at h
    · refine notin_argsetS R.fr (vow_set prog w (n := V.n) C.vow) (C.k 232 _ (by kernel_rfl)) (by decide) ?_
      show Q (.bool (!((vowels.map fun c => (⟨⟨[c]⟩⟩ : Str)).any (· == ⟨⟨_⟩⟩)))) _
      rw [any_vow]; exact k _ _ h
    · exact h.elim
  · cases ra; cases rb
    split at h
    · have h := guard_iff.mp h
      obtain ⟨rfl, h⟩ := h
      refine notIn_str ?_
      rw [occ_vow]; exact k _ s.toks h
    · exact h.elim
  · exact h.elim

theorem cmpA_ok (C : Ctx w V hb p loose mg mb) (R : Rel hb W w L f0 s m imm g) {op : CmpOp} {a b : AV} {va vb : Value} (ra : RepV hb W imm a va) (rb : RepV hb W imm b vb) {κ : Bool → Prop} {Q : Value → Shared → Prop} (h : cmpA op a b κ)
    (k : ∀ c tk, κ c → Q (.bool c) { s with toks := tk }) : wpAny (model prog w) A (compareOp op va vb) Q E s := by
  cases op <;> simp only [cmpA] at h <;> try exact h.elim
  · exact eqA_ok ra rb h k
  · exact neA_ok ra rb h k
  · cases ra <;> try exact h.elim
    cases rb <;> try exact h.elim
    exact P.lt_int (k _ s.toks h)
  · cases ra <;> try exact h.elim
    cases rb <;> try exact h.elim
    exact P.le_int (k _ s.toks h)
  · cases ra <;> try exact h.elim
    cases rb <;> try exact h.elim
    exact P.gt_int (k _ s.toks h)
  · cases ra <;> try exact h.elim
    cases rb <;> try exact h.elim
    exact P.ge_int (k _ s.toks h)
  · exact inA_ok C R ra rb h k
  · exact ninA_ok C R ra rb h k
theorem cmp_inMarks {op : CmpOp} {r : Expr} (h : ∀ a b c, r ≠ .Set a b c) : behindInMarks op r = false := by
  unfold behindInMarks
  split
  · exact absurd rfl (h _ _ _)
  · rfl
end Mine

end

-- EvS4
section
open PySem PySem.W PyProof.Rows PySem.Calls
set_option Elab.async false
set_option maxRecDepth 100000
set_option maxHeartbeats 0
set_option linter.all false
namespace Mine

noncomputable def sv : AV → Value
  | .ref a => .ref a
  | .str l => .str ⟨⟨l⟩⟩ 887
  | _ => .none
theorem aget_mem {α : Type} {x : Str} : ∀ {l : List (Str × α)} {a : α}, aget x l = some a → (x, a) ∈ l
  | [], a, h => by simp [aget] at h
  | p :: r, a, h => by
    unfold aget at h
    cases q : (p.1 == x) with
    | true =>
      rw [q] at h
      simp at h
      rw [beq_iff_eq] at q
      subst q h
      exact List.mem_cons_self ..
    | false =>
      rw [q] at h
      exact List.mem_cons_of_mem _ (aget_mem h)
theorem nget_mem {α : Type} {x : Addr} : ∀ {l : List (Addr × α)} {a : α}, nget x l = some a → (x, a) ∈ l
  | [], a, h => by simp [nget] at h
  | p :: r, a, h => by
    unfold nget at h
    cases q : (Nat.beq p.1 x) with
    | true =>
      rw [q] at h
      simp at h
      have q := Nat.eq_of_beq_eq_true q
      subst q h
      exact List.mem_cons_self ..
    | false =>
      rw [q] at h
      exact List.mem_cons_of_mem _ (nget_mem h)
theorem map_at {α β : Type} {f g : α → β} {l : List α} (h : l.map f = l.map g) {x : α} (hx : x ∈ l) : f x = g x := by
  induction l with
  | nil => cases hx
  | cons y r ih =>
    simp only [List.map_cons, List.cons.injEq] at h
    rcases List.mem_cons.mp hx with rfl | hx
    · exact h.1
    · exact ih h.2 hx

theorem gtab_vals (P : Params) (V : VT) : gtab.map (fun q => nsIn (KF P V) mainGlobals q.1) = gtab.map (fun q => some (some (sv q.2))) := by kernel_rfl
noncomputable def isRS : AV → Bool
  | .ref _ => true
  | .str l => decide (l.length ≤ fitN)
  | _ => false
theorem gtab_rs : gtab.map (fun q => isRS q.2) = gtab.map (fun _ => true) := by kernel_rfl
theorem ctab_vals (P : Params) (V : VT) : ctab.map (fun q => findCls (KF P V) (.ref 342) (.type "type") q.1) = ctab.map (fun q => some (CFound.val (sv q.2))) := by kernel_rfl
noncomputable def isR : AV → Bool
  | .ref _ => true
  | _ => false
theorem ctab_r : ctab.map (fun q => isR q.2) = ctab.map (fun _ => true) := by kernel_rfl
theorem cls_type (P : Params) (V : VT) : typeIn (KF P V) (.ref 342) = some (.type "type") := by kernel_rfl
theorem cls_reads (P : Params) (V : VT) : readsIn (KF P V) 342 (.type "type") = true := by kernel_rfl
theorem mtab_vals (P : Params) (V : VT) : mtab.map (fun q => findIn (KF P V) (.ref 342) q.1) = mtab.map (fun q => some (some (.ref q.2))) := by kernel_rfl
theorem mtab_fn (P : Params) (V : VT) : mtab.map (fun q => isFn (KF P V) (.ref q.2)) = mtab.map (fun _ => true) := by kernel_rfl
theorem frows_keep (P : Params) (V : VT) : frows.map (fun r => keepIn (KF P V) (.ref r.a)) = frows.map (fun _ => true) := by kernel_rfl
theorem inst_plain (P : Params) (V : VT) (x : Str) : plainGet (KF P V) 342 x = true := by
  have : plainGet (KF P V) 342 s10 = true := by kernel_rfl
  exact this
theorem inst_dict (P : Params) (V : VT) : hasDictIn (KF P V) 342 = true := by kernel_rfl
theorem inst_over (P : Params) (V : VT) : plainOver (KF P V) 342 = true := by kernel_rfl
theorem inst_set (P : Params) (V : VT) : findIn (KF P V) (.ref 342) (Str.ofString "__setattr__") = some (some (.builtin "object.__setattr__")) := by kernel_rfl
theorem flds_get (P : Params) (V : VT) : flds.map (fun x => (findIn (KF P V) (.ref 342) x).all fun r => noGet (KF P V) r) = flds.map (fun _ => true) := by kernel_rfl
theorem flds_some (P : Params) (V : VT) : flds.map (fun x => (findIn (KF P V) (.ref 342) x).isSome) = flds.map (fun _ => true) := by kernel_rfl
theorem flds_take (P : Params) (V : VT) : flds.map (fun x => takerIn (KF P V) 342 x) = flds.map (fun _ => some none) := by kernel_rfl
theorem am_plain (P : Params) (V : VT) (x : Str) : plainGet (KF P V) 220 x = true := by
  have : plainGet (KF P V) 220 s10 = true := by kernel_rfl
  exact this
theorem am_dict (P : Params) (V : VT) : hasDictIn (KF P V) 220 = true := by kernel_rfl
theorem am_get (P : Params) (V : VT) : ([s21, s49, s48] : List Str).map (fun x => findIn (KF P V) (.ref 220) x) = ([s21, s49, s48] : List Str).map (fun _ => some none) := by kernel_rfl
theorem blt_get (P : Params) (V : VT) : ([s13, s47, s43, s46, s142] : List Str).map (fun x => nsIn (KF P V) mainGlobals x) = ([s13, s47, s43, s46, s142] : List Str).map (fun _ => some none) := by kernel_rfl
theorem lab_get (P : Params) (V : VT) : nsIn (KF P V) mainGlobals s84 = some (some (.ref 354)) := by kernel_rfl
theorem boot_len : bootBuiltins s13 = some (.builtin "len") := by kernel_rfl
theorem boot_ord : bootBuiltins s47 = some (.builtin "ord") := by kernel_rfl
theorem boot_min : bootBuiltins s43 = some (.builtin "min") := by kernel_rfl
theorem boot_sum' : bootBuiltins s142 = some (.builtin "sum") := by kernel_rfl
theorem boot_range : bootBuiltins s46 = some (.type "range") := by kernel_rfl
theorem ltab_vals (P : Params) (V : VT) : ltab.map (fun q => (KF P V).lookup q.1) = ltab.map (fun q => some (LO (q.2.map sv) 0)) := by kernel_rfl
theorem ltab_r : ltab.map (fun q => q.2.all isR) = ltab.map (fun _ => true) := by kernel_rfl
theorem gtab_keep (P : Params) (V : VT) : gtab.map (fun q => !isR q.2 || keepIn (KF P V) (sv q.2)) = gtab.map (fun _ => true) := by kernel_rfl
theorem mtab_keep (P : Params) (V : VT) : mtab.map (fun q => keepIn (KF P V) (.ref q.2)) = mtab.map (fun _ => true) := by kernel_rfl
end Mine

end

-- EvS5
section
open PySem PySem.W PyProof.Rows PySem.Calls
set_option Elab.async false
set_option maxRecDepth 100000
set_option maxHeartbeats 0
set_option linter.all false
namespace Mine
noncomputable section
noncomputable def avOf : Value → AV
  | .str s _ => .str s.cps.toList
  | .int i _ => .int i
  | _ => .none
noncomputable def isIS : AV → Bool
  | .int _ => true
  | .str _ => true
  | _ => false
noncomputable def amE (P : Params) (V : VT) (a : Addr) : List DictEntry := match (KF P V).lookup (a - 1) with
  | some ⟨_, _, .dict es _, _⟩ => es.toList
  | _ => []
end
theorem am_vals (P : Params) (V : VT) : amtab.map (fun q => (KF P V).lookup q.1) = amtab.map (fun q => some (instObj 220 (q.1 - 1))) := by kernel_rfl
theorem am_dicts (P : Params) (V : VT) : amtab.map (fun q => (KF P V).lookup (q.1 - 1)) = amtab.map (fun q => some (dictOf (amE P V q.1) 3)) := by kernel_rfl
theorem am_getL (P : Params) (V : VT) : amtab.map (fun q => (amF q.2).map fun r => ((getL r.1 (amE P V q.1)).getD none).map avOf) = amtab.map (fun q => (amF q.2).map fun r => some r.2) := by kernel_rfl
theorem am_is : amtab.map (fun q => (amF q.2).all fun r => isIS r.2) = amtab.map (fun _ => true) := by kernel_rfl
theorem am_isb : amtab.map (fun q => (amF q.2).all fun r => match r.2 with | .int _ => true | .str l => decide (l.length ≤ fitN) | _ => false) = amtab.map (fun _ => true) := by kernel_rfl
theorem am_names : amtab.map (fun q => (amF q.2).map (·.1)) = amtab.map (fun _ => ([s21, s49, s48] : List Str)) := by kernel_rfl

variable {hb : Heap} {W : Adrs} {w : World} {L : Addr} {f0 : Led} {m : Str → Option Value} {imm : Led} {g : G}
variable {prog : Program} {A : Around} {E : Value → Shared → Prop} {s : Shared} {p : Program} {loose : List Str} {mg mb : Str → Option Value} {V : VT}

noncomputable def isISb : AV → Bool
  | .int _ => true
  | .str l => decide (l.length ≤ fitN)
  | _ => false
theorem avOf_rep {a : AV} {v : Value} (h : avOf v = a) (hi : isISb a = true) : RepV hb W imm a v := by
  cases v <;> simp [avOf] at h <;> subst h <;> try (simp [isISb] at hi; done)
  · exact .int _ _
  · rename_i s t
    have := RepV.str (hb := hb) (W := W) (imm := imm) s.cps.toList t (by simpa [isISb] using hi)
    rw [str_eta] at this
    exact this
theorem handed_rep {a : AV} {v : Value} (r : RepV hb W imm a v) : handedIn v = true := by cases r <;> rfl

theorem RepD.get {f es} (r : RepD hb W imm w f es) {x : Str} {a : AV} (h : aget x f = some a) : ∃ v, getL x es = some (some v) ∧ RepV hb W imm a v := by
  have nd : ∃ e, es.find? (·.key.isStr x) = some e ∧ RepV hb W imm a e.val := by
    induction r with
    | nil => simp [aget] at h
    | cons y t hv r ih =>
      unfold aget at h
      cases q : (y == x) with
      | true =>
        rw [q] at h
        simp at h
        subst h
        refine ⟨_, by simp only [List.find?_cons, show (Value.str y t).isStr x = (y == x) from rfl, q]; rfl, hv⟩
      | false =>
        rw [q] at h
        obtain ⟨e, h1, h2⟩ := ih h
        exact ⟨e, by simp only [List.find?_cons, show (Value.str y t).isStr x = (y == x) from rfl, q]; exact h1, h2⟩
  obtain ⟨e, h1, h2⟩ := nd
  exact ⟨e.val, by unfold getL; rw [h1], h2⟩
theorem RepD.noref {f es} (r : RepD hb W imm w f es) : es.any (·.refKey) = false := by
  induction r with
  | nil => rfl
  | cons y t hv r ih => rw [List.any_cons, ih]; rfl
theorem RepD.getNone {f es} (r : RepD hb W imm w f es) {x : Str} (h : aget x f = Option.none) : getL x es = some Option.none := by
  have nr := r.noref
  unfold getL
  have : es.find? (·.key.isStr x) = Option.none := by
    clear nr
    induction r with
    | nil => rfl
    | cons y t hv r ih =>
      unfold aget at h
      cases q : (y == x) with
      | true => rw [q] at h; cases h
      | false =>
        rw [q] at h
        simp only [List.find?_cons, show (Value.str y t).isStr x = (y == x) from rfl, q]
        exact ih h
  rw [this, nr]
  rfl
theorem flds_mem {x : Str} (h : flds.contains x = true) : x ∈ flds := by simpa using h

theorem attrA_ok (C : Ctx w V hb p loose mg mb) (R : Rel hb W w L f0 s m imm g) {a : AV} {va : Value} (ra : RepV hb W imm a va) {x : Str} {κ : AV → Prop} {Q : Value → Shared → Prop} (h : attrA g a x κ)
    (k : ∀ av v tk, κ av → RepV hb W imm av v → Q v { s with toks := tk }) : wpAny (model prog w) A (getAttr va x true) Q E s := by
  unfold attrA at h
  split at h
  · rename_i b
    cases ra
    split at h
    · rename_i e1
      obtain ⟨f, e2, h⟩ := elim_iff.mp h
      obtain ⟨v, ev, h⟩ := elim_iff.mp h
      obtain ⟨es, n, hd, hi⟩ := R.st_at e2
      obtain ⟨u, h1, h2⟩ := hd.get ev
      have hx := flds_mem e1
      have g1 := map_at (flds_some w.params V) hx
      have g2 := map_at (flds_get w.params V) hx
      obtain ⟨attr, ea⟩ := Option.isSome_iff_exists.mp g1
      rw [ea] at g2
      exact get_own R.fr C.k hi (inst_plain _ _ _) (inst_dict _ _) ea (by simpa using g2) h1 (handed_rep h2) (k _ _ _ h h2)
    · exact h.elim
  · rename_i c
    cases ra
    cases q : Nat.beq c 342 with
    | true =>
      rw [q] at h
      have q := Nat.eq_of_beq_eq_true q
      subst q
      simp only [cond_true] at h
      obtain ⟨v, ev, h⟩ := elim_iff.mp h
      have hm := aget_mem ev
      have g1 := map_at (ctab_vals w.params V) hm
      have g2 := map_at ctab_r hm
      dsimp only at g1 g2
      cases v <;> simp [isR] at g2
      exact cls_val R.fr C.k (cls_type _ _) (cls_reads _ _) g1 rfl (k _ _ _ h (.ref _))
    | false =>
      rw [q] at h
      simp only [cond_false] at h
      obtain ⟨f, ef, h⟩ := elim_iff.mp h
      obtain ⟨v, ev, h⟩ := elim_iff.mp h
      have hm := nget_mem ef
      have hx := aget_mem ev
      have g1 := map_at (am_vals w.params V) hm
      have g2 := map_at (am_dicts w.params V) hm
      have g3 := map_at (map_at (am_getL w.params V) hm) hx
      have g4 := map_at am_isb hm
      have g5 := map_at am_names hm
      dsimp only at g1 g2 g3 g4 g5
      have hn : x ∈ ([s21, s49, s48] : List Str) := by
        rw [← g5]
        exact List.mem_map.mpr ⟨_, hx, rfl⟩
      have hv : isISb v = true := (List.all_eq_true.mp g4) _ hx
      obtain ⟨u, h1, h2⟩ := Option.map_eq_some_iff.mp g3
      have h3 : getL x (amE w.params V c) = some (some u) := by
        cases q : getL x (amE w.params V c) with
        | none => rw [q] at h1; cases h1
        | some o => rw [q] at h1; exact congrArg some h1
      have hrep : RepV hb W imm v u := avOf_rep h2 hv
      have I : PySem.W.InstAt s.heap c (instObj 220 (c - 1)) 220 (some (dictOf (amE w.params V c) 3)) := ⟨R.fr.keep _ _ (C.k _ _ g1), rfl, rfl, R.fr.keep _ _ (C.k _ _ g2)⟩
      exact get_own R.fr C.k I (am_plain _ _ _) (am_dict _ _) (map_at (am_get w.params V) hn) rfl h3 (handed_rep hrep) (k _ _ _ h hrep)
  · exact h.elim

theorem listA_ok (C : Ctx w V hb p loose mg mb) (R : Rel hb W w L f0 s m imm g) {a : AV} {va : Value} (ra : RepV hb W imm a va) {l : List AV} (h : listA g a = some l) :
    ∃ c vs, va = .ref c ∧ s.heap.IsList c vs.toArray ∧ RepL hb W imm l vs := by
  unfold listA at h
  split at h
  · cases h; cases ra
    exact ⟨_, _, rfl, R.list_at ‹_›, ‹_›, ‹_›⟩
  · cases ra
    obtain ⟨vs, h1, h2⟩ := R.tape_at h
    exact ⟨_, vs, rfl, h2, h1⟩
  · cases ra
    have hm := nget_mem h
    have g1 := map_at (ltab_vals w.params V) hm
    have g2 := map_at ltab_r hm
    dsimp only at g1 g2
    refine ⟨_, _, rfl, ⟨_, R.fr.keep _ _ (C.k _ _ g1), rfl, 0, rfl⟩, by simp, fun i x v h1 h2 => ?_⟩
    rw [List.getElem?_map, h1] at h2
    cases h2
    have := List.all_eq_true.mp g2 x (List.mem_of_getElem? h1)
    cases x <;> simp [isR] at this
    exact .ref _
  · cases h

theorem seqIndex_pos {k : Int} {n : Nat} (h0 : 0 ≤ k) (h1 : k.toNat < n) : seqIndex? k n = some k.toNat := by
  unfold seqIndex?
  simp only []
  split <;> (try split) <;> first | rfl | omega | (congr 1; omega) | skip
  all_goals (simp_all; try omega)
theorem strs_at : ∀ {l : List AV} {ss : List (List Nat)} {i : Nat} {t : List Nat}, strsOf l = some ss → ss[i]? = some t → l[i]? = some (.str t)
  | [], ss, i, t, h, e => by simp [strsOf] at h; subst h; simp at e
  | a :: l, ss, i, t, h, e => by
    cases a <;> simp [strsOf] at h
    obtain ⟨zs, e1, rfl⟩ := h
    cases i with
    | zero => simp at e; subst e; rfl
    | succ i => simpa using strs_at e1 (by simpa using e)
theorem refs_at : ∀ {l : List AV} {ss : List Addr} {i : Nat} {t : Addr}, refsOf l = some ss → ss[i]? = some t → l[i]? = some (.ref t)
  | [], ss, i, t, h, e => by simp [refsOf] at h; subst h; simp at e
  | a :: l, ss, i, t, h, e => by
    cases a <;> simp [refsOf] at h
    obtain ⟨zs, e1, rfl⟩ := h
    cases i with
    | zero => simp at e; subst e; rfl
    | succ i => simpa using refs_at e1 (by simpa using e)
theorem intsA_at : ∀ {l : List AV} {ss : List Int} {i : Nat} {t : Int}, intsOf l = some ss → ss[i]? = some t → l[i]? = some (.int t)
  | [], ss, i, t, h, e => by simp [intsOf] at h; subst h; simp at e
  | a :: l, ss, i, t, h, e => by
    cases a <;> simp [intsOf] at h
    obtain ⟨zs, e1, rfl⟩ := h
    cases i with
    | zero => simp at e; subst e; rfl
    | succ i => simpa using intsA_at e1 (by simpa using e)
theorem ints_at : ∀ {vs : List Value} {ns : List Int} {i : Nat} {n : Int}, IntsAre vs ns → ns[i]? = some n → ∃ t, vs[i]? = some (.int n t)
  | _, _, _, _, .nil, h => by simp at h
  | _, _, 0, v, .cons n t _, h => by simp at h; exact ⟨t, by simp [h]⟩
  | _, _, i + 1, v, .cons n t r, h => by
    obtain ⟨b, c⟩ := ints_at r (i := i) (by simpa using h)
    exact ⟨b, by simpa using c⟩
theorem ints_len : ∀ {vs : List Value} {ns : List Int}, IntsAre vs ns → vs.length = ns.length
  | _, _, .nil => rfl
  | _, _, .cons n t h => by simp [ints_len h]
theorem list_len (C : Ctx w V hb p loose mg mb) (R : Rel hb W w L f0 s m imm g) {c : Addr} {vs : List Value} (hl : s.heap.IsList c vs.toArray) {k : Nat} (h : k < vs.length) (hb : k < 2 ^ 63) : (k : Int) < 2 ^ 63 := by omega

theorem itemA_ok (C : Ctx w V hb p loose mg mb) (R : Rel hb W w L f0 s m imm g) {a i : AV} {va vi : Value} (ra : RepV hb W imm a va) (ri : RepV hb W imm i vi) {κ : AV → Prop} {Q : Value → Shared → Prop} {value slice : Expr}
    (hs : ∀ l u t q, slice ≠ .Slice l u t q) (h : itemA g a i κ)
    (k : ∀ av v tk, κ av → RepV hb W imm av v → Q v { s with toks := tk }) : wpAny (model prog w) A (subscriptTail value slice va vi) Q E s := by
  have hsub : ∀ o i, subscripted slice false o i = operate [o, i] (getItem o i) := fun o i => by
    cases slice <;> first | rfl | exact absurd rfl (hs _ _ _ _)
  unfold itemA at h
  split at h
  · rename_i k'
    cases ri
    rename_i tki
    have fin : ∀ {c : Addr} {vs : List Value} {l : List AV} {x : AV}, va = .ref c → s.heap.IsList c vs.toArray → RepL hb W imm l vs → l.length ≤ 1000 → 0 ≤ k' → l[k'.toNat]? = some x → κ x → wpAny (model prog w) A (subscriptTail value slice va (.int k' tki)) Q E s := by
      intro c vs l x e hl hr hn h0 ex hx
      subst e
      have hlt := (List.getElem?_eq_some_iff.mp ex).1
      have hb' : k' < 2 ^ 63 := by omega
      rw [hr.1] at hlt
      have ev := List.getElem?_eq_getElem hlt
      exact kba_turn (value' := .Name s0 ⟨0, 0, 0, 0⟩) (fun _ => rfl) (item_list hl h0 hb' (by simpa using ev) (k _ _ s.toks hx (hr.2 _ _ _ ex ev)) (hsub _ _))
    split at h
    · cases ra
      rename_i hfit
      have hfit' : _ ≤ 1000000 := hfit
      obtain ⟨h0, h⟩ := guard_iff.mp h
      obtain ⟨c, e, h⟩ := elim_iff.mp h
      have hlt := (List.getElem?_eq_some_iff.mp e).1
      refine subscriptTail_builtin (typeIs_str _ _ _) slot_str_getitem.lookup (PyProof.Rows.getItem_str (c := c) ?_ ?_ (k _ _ _ h (.str _ _ (by simp [fitN])))) (hsub _ _) (fun r => by cases value <;> rfl)
      · simp only [Bool.or_eq_false_iff, decide_eq_false_iff_not]
        omega
      · rw [seqIndex_pos h0 (by rw [str_len]; exact hlt)]
        simpa using e
    · cases ra
      obtain ⟨h0, h⟩ := guard_iff.mp h
      obtain ⟨c, e, h⟩ := elim_iff.mp h
      obtain ⟨t, ev⟩ := ints_at ‹IntsAre _ _› e
      have hlt := (List.getElem?_eq_some_iff.mp e).1
      exact kba_turn (value' := .Name s0 ⟨0, 0, 0, 0⟩) (fun _ => rfl) (item_list (R.list_at ‹_›) h0 (by omega) (by simpa using ev) (k _ _ s.toks h (.int _ _)) (hsub _ _))
    · obtain ⟨l, e, h⟩ := elim_iff.mp h
      obtain ⟨hn, h⟩ := guard_iff.mp h
      obtain ⟨c, vs, e1, hl, hr⟩ := listA_ok C R ra e
      split at h
      · rename_i e2
        obtain ⟨h0, h⟩ := guard_iff.mp h
        obtain ⟨x, ex, h⟩ := elim_iff.mp h
        exact fin e1 hl hr hn h0 (strs_at e2 ex) h
      · rename_i e2 e3
        obtain ⟨h0, h⟩ := guard_iff.mp h
        obtain ⟨x, ex, h⟩ := elim_iff.mp h
        exact fin e1 hl hr hn h0 (intsA_at e3 ex) h
      · rename_i e2 e3 e4
        obtain ⟨h0, h⟩ := guard_iff.mp h
        obtain ⟨x, ex, h⟩ := elim_iff.mp h
        exact fin e1 hl hr hn h0 (refs_at e4 ex) h
      · obtain ⟨h0, h⟩ := guard_iff.mp h
        obtain ⟨x, ex, h⟩ := elim_iff.mp h
        exact fin e1 hl hr hn h0 ex h
  · exact h.elim
end Mine

end

-- EvS6
section
open PySem PySem.W PyProof.Rows PySem.Calls
set_option Elab.async false
set_option maxRecDepth 100000
set_option maxHeartbeats 0
set_option linter.all false
namespace Mine
variable {hb : Heap} {W : Adrs} {w : World} {L : Addr} {f0 : Led} {m : Str → Option Value} {imm : Led} {g : G}
variable {prog : Program} {A : Around} {E : Value → Shared → Prop} {s : Shared} {p : Program} {loose : List Str} {mg mb : Str → Option Value} {V : VT}

theorem starts_ok (x y : List Nat) : Txt.startswith ⟨⟨x⟩⟩ ⟨⟨y⟩⟩ = y.isPrefixOf x := by
  unfold Txt.startswith Builtin.Str.subAt
  rw [Bool.eq_iff_iff]
  simp only [str_len, Nat.zero_add, Bool.and_eq_true, decide_eq_true_eq, beq_iff_eq, List.isPrefixOf_iff_prefix]
  rw [← Array.toList_inj]
  simp only [Array.toList_extract, List.extract_eq_take_drop, List.drop_zero, Nat.sub_zero]
  rw [List.prefix_iff_eq_take]
  constructor
  · rintro ⟨_, h⟩; exact h.symm
  · intro h
    refine ⟨?_, h.symm⟩
    have := congrArg List.length h
    rw [List.length_take] at this
    omega
theorem ends_ok (x y : List Nat) : Txt.endswith ⟨⟨x⟩⟩ ⟨⟨y⟩⟩ = y.isSuffixOf x := by
  unfold Txt.endswith Builtin.Str.subAt
  rw [Bool.eq_iff_iff]
  simp only [str_len, Nat.zero_add, Bool.and_eq_true, decide_eq_true_eq, beq_iff_eq, List.isSuffixOf_iff_suffix]
  rw [← Array.toList_inj]
  simp only [Array.toList_extract, List.extract_eq_take_drop]
  rw [List.suffix_iff_eq_drop]
  constructor
  · rintro ⟨h1, h⟩
    rw [← h, List.take_of_length_le (by simp; omega)]
    simp; omega
  · intro h
    have h2 := congrArg List.length h
    rw [List.length_drop] at h2
    refine ⟨by omega, ?_⟩
    rw [List.take_of_length_le (by simp; omega)]
    exact h.symm

theorem builtA_ok (C : Ctx w V hb p loose mg mb) (hh : A.handled = none) (R : Rel hb W w L f0 s m imm g) {x : Str} {vs : List AV} {vals : List Value} (rl : RepL hb W imm vs vals) {κ : AV → Prop} {Q : Value → Shared → Prop} (h : builtA g x vs κ)
    (k : ∀ av v s', Rel hb W w L f0 s' m imm g → κ av → RepV hb W imm av v → Q v s') :
    (x = s13 ∧ wpAny (model prog w) A (call (.builtin "len") vals) Q E s) ∨ (x = s47 ∧ wpAny (model prog w) A (call (.builtin "ord") vals) Q E s) ∨ (x = s43 ∧ wpAny (model prog w) A (call (.builtin "min") vals) Q E s) ∨ (x = s142 ∧ wpAny (model prog w) A (call (.builtin "sum") vals) Q E s) := by
  unfold builtA at h
  cases q1 : (x == s13) with
  | true =>
    rw [q1] at h
    simp only [cond_true] at h
    refine .inl ⟨beq_iff_eq.mp q1, ?_⟩
    split at h
    · obtain ⟨v, us, rfl, h1, h2⟩ := rl.cons_inv
      rw [h2.nil_inv]
      cases h1
      rename_i hfit
      have hfit' : _ ≤ 1000000 := hfit
      refine P.len_str ?_ (k _ _ _ R.tk h (.int _ _))
      simp only [str_len] at *
      omega
    · obtain ⟨v, us, rfl, h1, h2⟩ := rl.cons_inv
      rw [h2.nil_inv]
      cases h1
      have hi := ‹IntsAre _ _›
      refine len_list (R.list_at ‹_›) ?_ (k _ _ _ R.tk h ?_)
      · rw [List.size_toArray, ints_len hi]; omega
      · rw [List.size_toArray, ints_len hi]
        exact .int _ _
    · obtain ⟨l, e, h⟩ := elim_iff.mp h
      obtain ⟨h0, h⟩ := guard_iff.mp h
      obtain ⟨v, us, rfl, h1, h2⟩ := rl.cons_inv
      rw [h2.nil_inv]
      obtain ⟨c, ws, rfl, hl, hr⟩ := listA_ok C R h1 e
      refine len_list hl ?_ (k _ _ _ R.tk h ?_)
      · simp only [fitN, List.size_toArray] at *
        rw [← hr.1]; omega
      · rw [List.size_toArray, ← hr.1]
        exact .int _ _
    · exact h.elim
  | false =>
    rw [q1] at h
    simp only [cond_false] at h
    refine .inr ?_
    cases q2 : (x == s47) with
    | true =>
      rw [q2] at h
      simp only [cond_true] at h
      refine .inl ⟨beq_iff_eq.mp q2, ?_⟩
      split at h
      · obtain ⟨v, us, rfl, h1, h2⟩ := rl.cons_inv
        rw [h2.nil_inv]
        cases h1
        exact P.ord_of_char (k _ _ _ R.tk h (.int _ _))
      · exact h.elim
    | false =>
      rw [q2] at h
      simp only [cond_false] at h
      refine .inr ?_
      cases q3 : (x == s43) with
      | true =>
        rw [q3] at h
        simp only [cond_true] at h
        refine .inl ⟨beq_iff_eq.mp q3, ?_⟩
        split at h
        · obtain ⟨v, us, rfl, h1, h2⟩ := rl.cons_inv
          obtain ⟨v2, us2, rfl, h3, h4⟩ := h2.cons_inv
          rw [h4.nil_inv]
          cases h1
          cases h3
          obtain ⟨frs, t, p1, p2, r⟩ := R
          exact min_two_N hh r.fr r.news fun h' tk F' N' => k _ _ _ (r.step F' N') h (.int _ _)
        · exact h.elim
      | false =>
        rw [q3] at h
        simp only [cond_false] at h
        refine .inr ?_
        cases q4 : (x == s142) with
        | true =>
          rw [q4] at h
          simp only [cond_true] at h
          refine ⟨beq_iff_eq.mp q4, ?_⟩
          split at h
          · obtain ⟨v, us, rfl, h1, h2⟩ := rl.cons_inv
            rw [h2.nil_inv]
            cases h1
            obtain ⟨frs, t, p1, p2, r⟩ := R
            exact sumK hh r.fr r.news (Rel.list_at ⟨frs, t, p1, p2, r⟩ ‹_›) ‹IntsAre _ _› fun h' tk t' F' N' => k _ _ _ (r.step F' N') h (.int _ _)
          · exact h.elim
        | false =>
          rw [q4] at h
          exact h.elim

theorem methA_ok (R : Rel hb W w L f0 s m imm g) {x : Str} {l : List Nat} {t : Tok} {vs : List AV} {vals : List Value} (rl : RepL hb W imm vs vals) {κ : AV → Prop} {Q : Value → Shared → Prop} (h : methA x l vs κ)
    (k : ∀ av v, κ av → RepV hb W imm av v → Q v s) :
    (x = Str.ofString "startswith" ∧ wpAny (model prog w) A (call (.builtin "str.startswith") (.str ⟨⟨l⟩⟩ t :: vals)) Q E s) ∨ (x = Str.ofString "endswith" ∧ wpAny (model prog w) A (call (.builtin "str.endswith") (.str ⟨⟨l⟩⟩ t :: vals)) Q E s) := by
  unfold methA at h
  cases q1 : (x == (Str.ofString "startswith")) with
  | true =>
    rw [q1] at h
    simp only [cond_true] at h
    refine .inl ⟨beq_iff_eq.mp q1, ?_⟩
    split at h
    · obtain ⟨v, us, rfl, h1, h2⟩ := rl.cons_inv
      rw [h2.nil_inv]
      cases h1
      refine SC.startswith ?_
      rw [starts_ok]
      exact k _ _ h (.bool _)
    · exact h.elim
  | false =>
    rw [q1] at h
    simp only [cond_false] at h
    refine .inr ?_
    cases q2 : (x == (Str.ofString "endswith")) with
    | true =>
      rw [q2] at h
      simp only [cond_true] at h
      refine ⟨beq_iff_eq.mp q2, ?_⟩
      split at h
      · obtain ⟨v, us, rfl, h1, h2⟩ := rl.cons_inv
        rw [h2.nil_inv]
        cases h1
        refine SC.endswith ?_
        rw [ends_ok]
        exact k _ _ h (.bool _)
      · exact h.elim
    | false =>
      rw [q2] at h
      exact h.elim

noncomputable def RepEnv (hb : Heap) (W : Adrs) (m : Str → Option Value) (imm : Led) (ρ : LEnv) : Prop := ∀ x av, aget x ρ = some av → ∃ v, m x = some v ∧ RepV hb W imm av v
theorem RepEnv.mono {ρ : LEnv} {imm' : Led} (hs : imm ⊆ imm') (r : RepEnv hb W m imm ρ) : RepEnv hb W m imm' ρ := fun x av h => let ⟨v, h1, h2⟩ := r x av h; ⟨v, h1, h2.mono hs⟩

structure Site (w : World) (V : VT) (hb : Heap) (p : Program) (loose : List Str) (mg mb : Str → Option Value) (A₀ : Around) (l : List Env) (f0 : Led) (sc : Scope) (n : Nat) : Prop where
  ctx : Ctx w V hb p loose mg mb
  kind : sc.kind = .function
  frames : A₀.frames = some l
  frs : TI.Frs l f0
  depth : A₀.depth + 1 + n ≤ 900
  handled : A₀.handled = none

section
variable {A₀ : Around} {l : List Env} {sc : Scope} {n : Nat} {name : Str} {a : Addr} {cd : Value} {pos : Pos}
theorem debug_ne {x : Str} (h : x ≠ Str.ofString "__debug__") : (x == (Str.ofString "__debug__")) = false := by simpa using h

theorem nameA_ok (T : Site w V hb p loose mg mb A₀ l f0 sc n) (R : Rel hb W w L f0 s m imm g) {ρ : LEnv} (re : RepEnv hb W m imm ρ) {x : Str} {κ : AV → Prop} {Q : Value → Shared → Prop} (h : nameA sc x ρ κ)
    (k : ∀ av v, κ av → RepV hb W imm av v → Q v s) : wpAny (model prog w) A (eval (.Name x pos) (envOf name sc L a cd)) Q E s := by
  unfold nameA at h
  split at h
  · rename_i hd hk
    obtain ⟨av, hv, h⟩ := elim_iff.mp h
    obtain ⟨v, h1, h2⟩ := re x av hv
    exact ld R.fr h1 (k _ _ h h2) T.kind hk hd
  · rename_i hd hk
    obtain ⟨av, hv, h⟩ := elim_iff.mp h
    have hm := aget_mem hv
    have g1 := map_at (gtab_vals w.params V) hm
    have g2 := map_at gtab_rs hm
    dsimp only at g1 g2
    refine name_K R.fr T.ctx.k T.ctx.top g1 (k _ _ h ?_) T.kind hk hd
    cases av <;> simp [isRS] at g2
    · exact .str _ _ g2
    · exact .ref _
  · exact h.elim
theorem nameB_ok (T : Site w V hb p loose mg mb A₀ l f0 sc n) (R : Rel hb W w L f0 s m imm g) {x : Str} {v : Value} {Q : Value → Shared → Prop} (hg : isGlob sc x = true) (hx : x ∈ ([s13, s47, s43, s46, s142] : List Str)) (hv : bootBuiltins x = some v)
    (k : Q v s) : wpAny (model prog w) A (eval (.Name x pos) (envOf name sc L a cd)) Q E s := by
  have hk : (envOf name sc L a cd).kindOf x = some .globalImplicit ∧ (x == (Str.ofString "__debug__")) = false := by
    unfold isGlob at hg
    split at hg
    · rename_i e1 e2; exact ⟨e2, e1⟩
    · cases hg
  refine name_B R.fr T.ctx.k T.ctx.top (map_at (blt_get w.params V) hx) hv ?_ k T.kind hk.1 hk.2
  · simp only [List.mem_cons, List.not_mem_nil, or_false] at hx
    rcases hx with rfl | rfl | rfl | rfl | rfl <;> decide +kernel
theorem nameG_ok (T : Site w V hb p loose mg mb A₀ l f0 sc n) (R : Rel hb W w L f0 s m imm g) {x : Str} {f : Addr} {Q : Value → Shared → Prop} (hg : isGlob sc x = true) (hx : aget x gtab = some (.ref f))
    (k : Q (.ref f) s) : wpAny (model prog w) A (eval (.Name x pos) (envOf name sc L a cd)) Q E s := by
  have hk : (envOf name sc L a cd).kindOf x = some .globalImplicit ∧ (x == (Str.ofString "__debug__")) = false := by
    unfold isGlob at hg
    split at hg
    · rename_i e1 e2; exact ⟨e2, e1⟩
    · cases hg
  exact name_K R.fr T.ctx.k T.ctx.top (map_at (gtab_vals w.params V) (aget_mem hx)) k T.kind hk.1 hk.2
end
end Mine

end

-- EvS7
section
open PySem PySem.W PyProof.Rows PySem.Calls
set_option Elab.async false
set_option maxRecDepth 100000
set_option maxHeartbeats 0
set_option linter.all false
namespace Mine

structure Loc where
  prog : Program
  w : World
  V : VT
  hb : Heap
  W : Adrs
  p : Program
  loose : List Str
  mg : Str → Option Value
  mb : Str → Option Value
  A₀ : Around
  l : List Env
  f0 : Led
  sc : Scope
  n : Nat
  name : Str
  L : Addr
  a : Addr
  cd : Value
namespace Loc
variable (X : Loc)
abbrev env : Env := envOf X.name X.sc X.L X.a X.cd
abbrev A : Around := X.A₀.deeper X.env
abbrev M : Model := model X.prog X.w
abbrev R (s : Shared) (m : Str → Option Value) (imm : Led) (g : G) : Prop := Rel X.hb X.W X.w X.L X.f0 s m imm g
abbrev Re (m : Str → Option Value) (imm : Led) (ρ : LEnv) : Prop := RepEnv X.hb X.W m imm ρ
abbrev V' (imm : Led) (av : AV) (v : Value) : Prop := RepV X.hb X.W imm av v
abbrev Ok : Prop := Site X.w X.V X.hb X.p X.loose X.mg X.mb X.A₀ X.l X.f0 X.sc X.n
end Loc

noncomputable def SndE (X : Loc) (F : Expr → LEnv → G → (AV → G → Prop) → Prop) : Prop := ∀ (e : Expr) (ρ : LEnv) (g : G) (κ : AV → G → Prop), F e ρ g κ → ∀ {E : Value → Shared → Prop} {Q : Value → Shared → Prop} {s : Shared} {m : Str → Option Value} {imm : Led}, X.R s m imm g → X.Re m imm ρ →
  (∀ v av g' s' imm', imm ⊆ imm' → X.R s' m imm' g' → X.V' imm' av v → κ av g' → Q v s') → wpAny X.M X.A (eval e X.env) Q E s
noncomputable def SndT (X : Loc) (F : Expr → LEnv → G → (Bool → G → Prop) → Prop) : Prop := ∀ (e : Expr) (ρ : LEnv) (g : G) (κ : Bool → G → Prop), F e ρ g κ → ∀ {E : Value → Shared → Prop} {Q : Bool → Shared → Prop} {s : Shared} {m : Str → Option Value} {imm : Led}, X.R s m imm g → X.Re m imm ρ →
  (∀ c g' s' imm', imm ⊆ imm' → X.R s' m imm' g' → κ c g' → Q c s') → wpAny X.M X.A (isTrue e X.env (eval e X.env)) Q E s
noncomputable def FunsOk (prog : Program) (w : World) (V : VT) (hb : Heap) (W : Adrs) (p : Program) (loose : List Str) (mg mb : Str → Option Value) (n : Nat) (Γ : Funs) : Prop :=
  ∀ f avs g κ, Γ f avs g κ → ∀ {A : Around} {l : List Env} {f0 : Led} {name : Str} {sc : Scope} {L a : Addr} {cd : Value} {s : Shared} {m : Str → Option Value} {imm : Led} {vals : List Value} {R : Result → Shared → Prop},
    Ctx w V hb p loose mg mb → A.frames = some (envOf name sc L a cd :: l) → sc.kind = .function → TI.Frs l f0 → A.handled = none → A.depth + n ≤ 900 → Rel hb W w L f0 s m imm g → RepL hb W imm avs vals →
    (∀ v av g' s' imm', imm ⊆ imm' → Rel hb W w L f0 s' m imm' g' → RepV hb W imm' av v → κ av g' → R (.ok (.ret v)) s') → codeAny (model prog w) A (.call (.ref f) ⟨vals, []⟩) R s
abbrev Loc.FOk (X : Loc) (Γ : Funs) : Prop := FunsOk X.prog X.w X.V X.hb X.W X.p X.loose X.mg X.mb X.n Γ

theorem star_plain {e : Expr} {rest : List Expr} {env : Env} (h : (match e with | .Starred .. => false | _ => true) = true) : starEach (e :: rest) env = (false, eval e env) :: starEach rest env := by
  cases e <;> first | rfl | cases h
theorem stars_plain {env : Env} {pos : Pos} : ∀ {es : List Expr}, es.all (fun e => match e with | .Starred .. => false | _ => true) = true → (backTo pos (starEach es env)).any (·.1) = false
  | [], _ => rfl
  | e :: r, h => by
    simp only [List.all_cons, Bool.and_eq_true] at h
    rw [star_plain h.1]
    have := stars_plain (env := env) (pos := pos) h.2
    show (false || (backTo pos (starEach r env)).any (·.1)) = false
    rw [this]; rfl
theorem stars_all {env : Env} {pos : Pos} : ∀ {es : List Expr}, es.all (fun e => match e with | .Starred .. => false | _ => true) = true → (backTo pos (starEach es env)).all (fun x => !x.1) = true
  | [], _ => rfl
  | e :: r, h => by
    simp only [List.all_cons, Bool.and_eq_true] at h
    rw [star_plain h.1]
    have := stars_all (env := env) (pos := pos) h.2
    show (!false && (backTo pos (starEach r env)).all (fun x => !x.1)) = true
    rw [this]; rfl

section
variable {X : Loc} {S : Sems} {Γ : Funs}

theorem esA_ok (hS : SndE X S.e) {pos : Pos} : ∀ {es : List Expr} {ρ : LEnv} {g : G} {κ : List AV → G → Prop}, es.all (fun e => match e with | .Starred .. => false | _ => true) = true → esA S es ρ g κ →
    ∀ {E : Value → Shared → Prop} {Q : List Value → Shared → Prop} {s : Shared} {m : Str → Option Value} {imm : Led}, X.R s m imm g → X.Re m imm ρ →
    (∀ vs avs g' s' imm', imm ⊆ imm' → X.R s' m imm' g' → RepL X.hb X.W imm' avs vs → κ avs g' → Q vs s') → wpAny X.M X.A (spliced (backTo pos (starEach es X.env))) Q E s
  | [], ρ, g, κ, _, h, E, Q, s, m, imm, R, re, k => args_nil (k _ _ _ _ _ (fun _ z => z) R RepL.nil h)
  | e :: r, ρ, g, κ, hp, h, E, Q, s, m, imm, R, re, k => by
    simp only [List.all_cons, Bool.and_eq_true] at hp
    refine args_cons (hS e ρ g _ h R re fun v av g' s' imm' hs R' rv h' => ?_) (star_plain hp.1)
    refine esA_ok hS hp.2 h' R' (re.mono hs) fun vs avs g'' s'' imm'' hs' R'' rl h'' => ?_
    exact k _ _ _ _ _ (fun _ z => hs' (hs z)) R'' (.cons (rv.mono hs') rl) h''

theorem kIn (T : X.Ok) {s : Shared} {m : Str → Option Value} {imm : Led} {g : G} (R : X.R s m imm g) : (KF X.w.params X.V).In s.heap := T.ctx.k.keeps R.fr.keep

theorem callF (T : X.Ok) (hS : SndE X S.e) {pos : Pos} {f : Value} {first : List Value} {es : List Expr} {ρ : LEnv} {g : G} {κ : List AV → G → Prop} (hk : keepIn (KF X.w.params X.V) f = true) (hp : es.all (fun e => match e with | .Starred .. => false | _ => true) = true) (h : esA S es ρ g κ)
    {E : Value → Shared → Prop} {Q : Value → Shared → Prop} {s : Shared} {m : Str → Option Value} {imm : Led} (R : X.R s m imm g) (re : X.Re m imm ρ)
    (k : ∀ vs avs g' s' imm', imm ⊆ imm' → X.R s' m imm' g' → RepL X.hb X.W imm' avs vs → κ avs g' → wpAny X.M X.A (call f (first ++ vs)) Q E s') :
    wpAny X.M X.A (callWith pos f first (backTo pos (starEach es X.env)) []) Q E s := by
  cases es with
  | nil => exact callWith_K0 (kIn T R) hk (k _ _ _ _ _ (fun _ z => z) R RepL.nil h)
  | cons e r =>
    have hp' := hp
    simp only [List.all_cons, Bool.and_eq_true] at hp
    exact callWith_K (kIn T R) hk (esA_ok hS hp' h R re fun vs avs g' s' imm' hs R' rl h' => ⟨kIn T R', k vs avs g' s' imm' hs R' rl h'⟩) (star_plain hp.1) (stars_plain hp.2)
theorem callB (T : X.Ok) (hS : SndE X S.e) {pos : Pos} {id : String} {first : List Value} {es : List Expr} {ρ : LEnv} {g : G} {κ : List AV → G → Prop} (hp : es.all (fun e => match e with | .Starred .. => false | _ => true) = true) (h : esA S es ρ g κ)
    {E : Value → Shared → Prop} {Q : Value → Shared → Prop} {s : Shared} {m : Str → Option Value} {imm : Led} (R : X.R s m imm g) (re : X.Re m imm ρ)
    (k : ∀ vs avs g' s' imm', imm ⊆ imm' → X.R s' m imm' g' → RepL X.hb X.W imm' avs vs → κ avs g' → wpAny X.M X.A (call (.builtin id) (first ++ vs)) Q E s') :
    wpAny X.M X.A (callWith pos (.builtin id) first (backTo pos (starEach es X.env)) []) Q E s := by
  cases es with
  | nil =>
    have := k _ _ _ _ _ (fun _ z => z) R RepL.nil h
    rw [List.append_nil] at this
    exact callWith_method0 this
  | cons e r =>
    have hp' := hp
    simp only [List.all_cons, Bool.and_eq_true] at hp
    exact callWith_method1 (esA_ok hS hp' h R re fun vs avs g' s' imm' hs R' rl h' => k vs avs g' s' imm' hs R' rl h') (star_plain hp.1) (stars_plain hp.2)

theorem runF (T : X.Ok) (hΓ : X.FOk Γ) {f : Addr} {avs : List AV} {vals : List Value} {g : G} {κ : AV → G → Prop} (h : Γ f avs g κ) {E : Value → Shared → Prop} {Q : Value → Shared → Prop} {s : Shared} {m : Str → Option Value} {imm : Led} (R : X.R s m imm g) (rl : RepL X.hb X.W imm avs vals)
    (k : ∀ v av g' s' imm', imm ⊆ imm' → X.R s' m imm' g' → X.V' imm' av v → κ av g' → Q v s') : wpAny X.M X.A (call (.ref f) vals) Q E s := by
  refine wpAny_call (hΓ f avs g κ h T.ctx (Around.frames_deeper T.frames) T.kind T.frs T.handled ?_ R rl fun v av g' s' imm' hs R' rv h' => k v av g' s' imm' hs R' rv h')
  exact T.depth

theorem mcall {o : Expr} {nm : Str} {apos pos : Pos} {args : List Expr} {env : Env} {prog : Program} {w : World} {A : Around} {E : Value → Shared → Prop} {Q : Value → Shared → Prop} {s : Shared} (h1 : (baseOk o && apos.endLine == pos.line) = true) (h2 : plainArgs args = true)
    (h : wpAny (model prog w) A (eval o env) (fun ov s₁ => ∀ pl, wpAny (model prog w) A (getMethod ov nm pl) (fun fx s₂ => wpAny (model prog w) A (callWith pos fx.1 fx.2 (backTo pos (starEach args env)) []) Q E s₂) E s₁) E s) :
    wpAny (model prog w) A (eval (.Call (.Attribute o nm apos) args [] pos) env) Q E s := by
  simp only [Bool.and_eq_true] at h1
  simp only [plainArgs, Bool.and_eq_true, decide_eq_true_eq] at h2
  have hbase : attributeBase o nm env (eval o env) = eval o env := by
    have := h1.1
    cases o <;> first | rfl | cases this
  rw [arm_eval_Call, hbase]
  refine wpAny_bind (wpAny_mono h (fun ov s₁ h₁ => wpAny_bind (wpAny_standAt ?_)) fun _ _ e => e)
  have hform : methodCallForm (args.length + ([] : List Keyword).length) (backTo pos (starEach args env)) (backToKw pos (keywordEach [] env)) = true := by
    unfold methodCallForm
    rw [stars_all h2.1]
    show (true && true && decide (args.length + 0 + 0 < 30)) = true
    simp; omega
  have hpos : methodCallPos true o env apos pos = pure pos := by unfold methodCallPos; rw [h1.2]; rfl
  unfold methodCall
  rw [hform]
  refine wpAny_bind (wpAny_holding (wpAny_mono (h₁ _) (fun fx s₂ h₂ => wpAny_bind (wpAny_of_eq hpos h₂)) fun _ _ e => e))
end
end Mine

end

-- EvS8
section
open PySem PySem.W PyProof.Rows PySem.Calls
set_option Elab.async false
set_option maxRecDepth 100000
set_option maxHeartbeats 0
set_option linter.all false
namespace Mine
section
variable {X : Loc} {S : Sems} {Γ : Funs}

theorem esA_len : ∀ {es : List Expr} {ρ : LEnv} {g : G} {κ : List AV → G → Prop}, esA S es ρ g κ → esA S es ρ g κ
  | _, _, _, _, h => h
theorem esA_lenok (hS : SndE X S.e) {pos : Pos} : ∀ {es : List Expr} {ρ : LEnv} {g : G} {κ : List AV → G → Prop}, es.all (fun e => match e with | .Starred .. => false | _ => true) = true → esA S es ρ g κ →
    ∀ {E : Value → Shared → Prop} {Q : List Value → Shared → Prop} {s : Shared} {m : Str → Option Value} {imm : Led}, X.R s m imm g → X.Re m imm ρ →
    (∀ vs avs g' s' imm', imm ⊆ imm' → X.R s' m imm' g' → RepL X.hb X.W imm' avs vs → κ avs g' → avs.length = es.length → Q vs s') → wpAny X.M X.A (spliced (backTo pos (starEach es X.env))) Q E s
  | [], ρ, g, κ, _, h, E, Q, s, m, imm, R, re, k => args_nil (k _ _ _ _ _ (fun _ z => z) R RepL.nil h rfl)
  | e :: r, ρ, g, κ, hp, h, E, Q, s, m, imm, R, re, k => by
    simp only [List.all_cons, Bool.and_eq_true] at hp
    refine args_cons (hS e ρ g _ h R re fun v av g' s' imm' hs R' rv h' => ?_) (star_plain hp.1)
    refine esA_lenok hS hp.2 h' R' (re.mono hs) fun vs avs g'' s'' imm'' hs' R'' rl h'' hn => ?_
    exact k _ _ _ _ _ (fun _ z => hs' (hs z)) R'' (.cons (rv.mono hs') rl) h'' (by simp [hn])
theorem Rel.push_list {hb : Heap} {W : Adrs} {w : World} {L : Addr} {f0 : Led} {m : Str → Option Value} {imm : Led} {g : G} {M : Model} {A : Around} {E : Value → Shared → Prop} {s : Shared} {vs : List Value} {avs : List AV} {Q : Value → Shared → Prop}
    (R : Rel hb W w L f0 s m imm g) (rl : RepL hb W imm avs vs) (hl : vs.length ≤ 1000)
    (k : ∀ v s' imm', imm ⊆ imm' → Rel hb W w L f0 s' m imm' g → RepV hb W imm' (.list avs) v → Q v s') : wpAny M A (newList vs) Q E s := by
  obtain ⟨frs, t, p1, p2, r⟩ := R
  refine newList_N r.fr r.news (fun h' F' N' => ?_) (by show vs.length ≤ 2 ^ 24; omega)
  have hs : imm ⊆ (s.heap.objs.size, LO vs 0) :: imm := fun _ z => List.mem_cons_of_mem _ z
  refine k _ _ ((s.heap.objs.size, LO vs 0) :: imm) hs ⟨frs, t, p1, p2, F', r.z, r.up, r.mu.mono hs, N', ?_⟩ (.list _ _ _ 0 rl.1 (fun i x v h1 h2 => (rl.2 i x v h1 h2).mono hs) (List.mem_cons_self ..) (by rw [rl.1]; exact hl))
  rw [List.cons_append, List.map_cons, List.nodup_cons]
  refine ⟨fun hm => ?_, r.nd⟩
  obtain ⟨q, hq, e⟩ := List.mem_map.mp hm
  have := Heap.lt_size (r.news q hq).1
  have e' : q.1 = s.heap.objs.size := e
  rw [e'] at this
  exact absurd this (Nat.lt_irrefl _)

noncomputable def ovV (o : Option Int) (t : Tok) : Value := match o with
  | none => .none
  | some i => .int i t
theorem optA_ok (hS : SndE X S.e) {e : Option Expr} {ρ : LEnv} {g : G} {κ : Option Int → G → Prop} (h : optA S e ρ g κ) {E : Value → Shared → Prop} {Q : Value → Shared → Prop} {s : Shared} {m : Str → Option Value} {imm : Led} (R : X.R s m imm g) (re : X.Re m imm ρ)
    (k : ∀ (o : Option Int) (t : Tok) g' s' imm', imm ⊆ imm' → X.R s' m imm' g' → κ o g' → Q (ovV o t) s') : wpAny X.M X.A (evalPart e X.env) Q E s := by
  cases e with
  | none => exact wpAny_pure (k none 0 _ _ _ (fun _ z => z) R h)
  | some e =>
    refine hS e ρ g _ h R re fun v av g' s' imm' hs R' rv h' => ?_
    cases rv <;> try exact h'.elim
    exact k (some _) _ _ _ _ hs R' h'

theorem sliceA_ok {hb : Heap} {W : Adrs} {w : World} {L : Addr} {f0 : Led} {m : Str → Option Value} {imm : Led} {g : G} {prog : Program} {A : Around} {E : Value → Shared → Prop} {s : Shared} {x : List Nat} {t : Tok} {lo hi : Option Int} {t1 t2 : Tok} {value : Expr} {sl su : Option Expr} {sp : Pos} {Q : Value → Shared → Prop}
    (R : Rel hb W w L f0 s m imm g) (hx : x.length ≤ fitN) (k : ∀ v s', Rel hb W w L f0 s' m imm g → RepV hb W imm (.str (slcA x lo hi)) v → Q v s') :
    wpAny (model prog w) A (subscriptTail value (.Slice sl su none sp) (.str ⟨⟨x⟩⟩ t) (.ref s.heap.objs.size)) Q E
      { s with heap := s.heap.push { cls := .type "slice", data := .fields #[ovV lo t1, ovV hi t2, .none] } } := by
  obtain ⟨frs, tt, p1, p2, r⟩ := R
  have hsz : (⟨⟨x⟩⟩ : Str).length ≤ sizeLine := by rw [str_len]; simp only [fitN, sizeLine] at *; omega
  have fin : ∀ h' t' k', Fr hb L h' m → News hb L h' (imm ++ (tt ++ (p1 ++ (p2 ++ frs)))) → Q (.str (Txt.slice ⟨⟨x⟩⟩ lo hi) t') { s with heap := h', toks := k' } := fun h' t' k' F' N' => by
    refine k _ _ (r.step F' N') ?_
    have := RepV.str (hb := hb) (W := W) (imm := imm) (slcA x lo hi) t' (by
      have := Txt.slice_le ⟨⟨x⟩⟩ lo hi
      rw [str_len] at this
      have h2 : (slcA x lo hi).length ≤ x.length := by
        unfold slcA
        simpa [Str.length] using this
      omega)
    unfold slcA at this
    rw [str_eta] at this
    exact this
  have ht : ∀ r, letTemporaryGo value (.str ⟨⟨x⟩⟩ t) r = pure () := fun r => by cases value <;> rfl
  cases lo <;> cases hi
  · exact slice_strN_nn r.fr r.news fin rfl ht hsz
  · exact slice_strN_ns r.fr r.news fin rfl ht hsz
  · exact slice_strN_sn r.fr r.news fin rfl ht hsz
  · exact slice_strN_ss r.fr r.news fin rfl ht hsz

theorem ints_rep {hb : Heap} {W : Adrs} {imm : Led} : ∀ {vs : List Value} {ns : List Int}, IntsAre vs ns → RepL hb W imm (ns.map .int) vs
  | _, _, .nil => RepL.nil
  | _, _, .cons n t h => RepL.cons (.int n t) (ints_rep h)
theorem ints_take : ∀ {vs : List Value} {ns : List Int} (k : Nat), IntsAre vs ns → IntsAre (vs.take k) (ns.take k)
  | _, _, _, .nil => by simp; exact .nil
  | _, _, 0, .cons n t h => by simp; exact .nil
  | _, _, k + 1, .cons n t h => by simp; exact .cons n t (ints_take k h)
theorem sliceL_ok {hb : Heap} {W : Adrs} {w : World} {L : Addr} {f0 : Led} {m : Str → Option Value} {imm : Led} {g : G} {prog : Program} {A : Around} {E : Value → Shared → Prop} {s : Shared} {x : List Int} {a : Addr} {vs : List Value} {hi : Int} {t1 t2 : Tok} {value : Expr} {sl su : Option Expr} {sp : Pos} {Q : Value → Shared → Prop}
    (R : Rel hb W w L f0 s m imm g) (hx : 0 ≤ hi ∧ hi ≤ 1000) (hxl : x.length ≤ 1000) (hI : IntsAre vs x) (hl : hb.IsList a vs.toArray) (k : ∀ v s' imm', imm ⊆ imm' → Rel hb W w L f0 s' m imm' g → RepV hb W imm' (.ilist (x.take hi.toNat)) v → Q v s') :
    wpAny (model prog w) A (subscriptTail value (.Slice sl su none sp) (.ref a) (.ref s.heap.objs.size)) Q E
      { s with heap := s.heap.push { cls := .type "slice", data := .fields #[ovV none t1, ovV (some hi) t2, .none] } } := by
  obtain ⟨frs, tt, p1, p2, r⟩ := R
  have hl' : s.heap.IsList a vs.toArray := let ⟨o, e, q⟩ := hl; ⟨o, r.fr.keep _ _ e, q⟩
  refine kba_turn (value' := .Name s0 ⟨0, 0, 0, 0⟩) (fun _ => rfl) (slice_list r.fr r.news hl' .none (.int hi t2) (fun h' F' N' => ?_) rfl (fun _ => rfl) (by rw [List.size_toArray, ints_len hI]; show x.length ≤ 2 ^ 24; exact Nat.le_trans hxl (by decide)))
  have e : slicePick vs.toArray none (some hi) none = (vs.take hi.toNat).toArray := by
    have := slicePick_upto' vs.toArray hi.toNat
    rw [Int.toNat_of_nonneg hx.1] at this
    exact this
  rw [e] at N'
  have hs : imm ⊆ (s.heap.objs.size + 1, LO (vs.take hi.toNat) 0) :: imm := fun _ z => List.mem_cons_of_mem _ z
  refine k _ { s with heap := h' } _ hs ⟨frs, tt, p1, p2, F', r.z, r.up, r.mu.mono hs, N', ?_⟩ (.ilist _ _ _ 0 (ints_take hi.toNat hI) (List.mem_cons_self ..) (by rw [List.length_take]; omega))
  rw [List.cons_append, List.map_cons, List.nodup_cons]
  refine ⟨fun hm => ?_, r.nd⟩
  obtain ⟨q, hq, e'⟩ := List.mem_map.mp hm
  have h1 := Heap.lt_size (r.news q hq).1
  have h2 : q.1 = s.heap.objs.size + 1 := e'
  rw [h2] at h1
  exact absurd h1 (Nat.not_lt.mpr (Nat.le_succ _))
theorem callBuilt (T : X.Ok) (hS : SndE X S.e) {x : Str} {args : List Expr} {p0 pos : Pos} {ρ : LEnv} {g : G} {κ : AV → G → Prop} (hp : args.all (fun e => match e with | .Starred .. => false | _ => true) = true) (hg : isGlob X.sc x = true) (hx : isBlt x = true)
    (h : esA S args ρ g fun vs g => builtA g x vs fun v => κ v g) {E : Value → Shared → Prop} {Q : Value → Shared → Prop} {s : Shared} {m : Str → Option Value} {imm : Led} (R : X.R s m imm g) (re : X.Re m imm ρ)
    (k : ∀ v av g' s' imm', imm ⊆ imm' → X.R s' m imm' g' → X.V' imm' av v → κ av g' → Q v s') : wpAny X.M X.A (eval (.Call (.Name x p0) args [] pos) X.env) Q E s := by
  have hx' : x ∈ ([s13, s47, s43, s46, s142] : List Str) := by
    simp only [isBlt, Bool.or_eq_true, beq_iff_eq] at hx
    rcases hx with rfl | rfl | rfl | rfl <;> simp
  have go : ∀ id, bootBuiltins x = some (.builtin id) → (∀ (vs : List Value) (avs : List AV) g' (s' : Shared) imm', imm ⊆ imm' → X.R s' m imm' g' → RepL X.hb X.W imm' avs vs → builtA g' x avs (fun v => κ v g') → wpAny X.M X.A (call (.builtin id) ([] ++ vs)) Q E s') →
      wpAny X.M X.A (eval (.Call (.Name x p0) args [] pos) X.env) Q E s := fun id hid hk =>
    Call_ (nameB_ok T R hg hx' hid (callB T hS hp h R re fun vs avs g1 s1 i1 hs1 R1 rl h1 => hk vs avs g1 s1 i1 hs1 R1 rl h1))
  have fin := fun (vs : List Value) (avs : List AV) g' (s' : Shared) imm' (hs1 : imm ⊆ imm') (R1 : X.R s' m imm' g') (rl : RepL X.hb X.W imm' avs vs) (h1 : builtA g' x avs (fun v => κ v g')) =>
    builtA_ok (prog := X.prog) (A := X.A) (E := E) (Q := Q) T.ctx T.handled R1 rl h1 fun av v s2 R' h' rv => k v av g' s2 imm' hs1 R' rv h'
  simp only [isBlt, Bool.or_eq_true, beq_iff_eq] at hx
  rcases hx with rfl | rfl | rfl | rfl
  · refine go "len" boot_len fun vs avs g1 s1 i1 hs1 R1 rl h1 => ?_
    rcases fin vs avs g1 s1 i1 hs1 R1 rl h1 with ⟨_, z⟩ | ⟨q, _⟩ | ⟨q, _⟩ | ⟨q, _⟩
    · exact z
    · exact absurd q (by decide +kernel)
    · exact absurd q (by decide +kernel)
    · exact absurd q (by decide +kernel)
  · refine go "ord" boot_ord fun vs avs g1 s1 i1 hs1 R1 rl h1 => ?_
    rcases fin vs avs g1 s1 i1 hs1 R1 rl h1 with ⟨q, _⟩ | ⟨_, z⟩ | ⟨q, _⟩ | ⟨q, _⟩
    · exact absurd q (by decide +kernel)
    · exact z
    · exact absurd q (by decide +kernel)
    · exact absurd q (by decide +kernel)
  · refine go "min" boot_min fun vs avs g1 s1 i1 hs1 R1 rl h1 => ?_
    rcases fin vs avs g1 s1 i1 hs1 R1 rl h1 with ⟨q, _⟩ | ⟨q, _⟩ | ⟨_, z⟩ | ⟨q, _⟩
    · exact absurd q (by decide +kernel)
    · exact absurd q (by decide +kernel)
    · exact z
    · exact absurd q (by decide +kernel)
  · refine go "sum" boot_sum' fun vs avs g1 s1 i1 hs1 R1 rl h1 => ?_
    rcases fin vs avs g1 s1 i1 hs1 R1 rl h1 with ⟨q, _⟩ | ⟨q, _⟩ | ⟨q, _⟩ | ⟨_, z⟩
    · exact absurd q (by decide +kernel)
    · exact absurd q (by decide +kernel)
    · exact absurd q (by decide +kernel)
    · exact z
theorem eA_ok (T : X.Ok) (hΓ : X.FOk Γ) (hS : SndE X S.e) (hT : SndT X S.t) : SndE X (eA Γ X.sc S) := by
  intro e ρ g κ h E Q s m imm R re k
  unfold eA at h
  split at h
  · -- constants
    rename_i c _ _ 
    cases c <;> simp only at h <;> try exact h.elim
    · exact wpAny_Constant_none (k _ _ _ _ _ (fun _ z => z) R .none h)
    · exact wpAny_Constant_bool (k _ _ _ _ _ (fun _ z => z) R (.bool _) h)
    · exact wpAny_Constant_int (k _ _ _ _ _ (fun _ z => z) R.tk (.int _ _) h)
    · rename_i st
      obtain ⟨hst, h⟩ := guard_iff.mp h
      refine wpAny_Constant_str (k _ _ _ { s with toks := s.toks + 1 } _ (fun _ z => z) R.tk ?_ h)
      have := RepV.str (hb := X.hb) (W := X.W) (imm := imm) st.cps.toList s.toks hst
      rw [str_eta] at this
      exact this
  · exact nameA_ok T R re h fun av v h' rv => k _ _ _ _ _ (fun _ z => z) R rv h'
  · refine wpAny_BinOp (hS _ _ _ _ h R re fun va a g1 s1 i1 hs1 R1 ra h1 => hS _ _ _ _ h1 R1 (re.mono hs1) fun vb b g2 s2 i2 hs2 R2 rb h2 => ?_)
    exact binA_ok (ra.mono hs2) rb h2 fun av v tk h3 rv => k _ _ _ { s2 with toks := tk } _ (fun _ z => hs2 (hs1 z)) R2.tk rv h3
  · split at h
    · refine wpAny_UnaryOp (hS _ _ _ _ h R re fun va a g1 s1 i1 hs1 R1 ra h1 => ?_)
      cases ra <;> try exact h1.elim
      exact P.neg_int (k _ _ _ _ _ hs1 R1.tk (.int _ _) h1)
    · exact h.elim
  · split at h
    · exact h.elim
    · rename_i hns
      refine wpAny_Compare1 (hS _ _ _ _ h R re fun va a g1 s1 i1 hs1 R1 ra h1 => hS _ _ _ _ h1 R1 (re.mono hs1) fun vb b g2 s2 i2 hs2 R2 rb h2 => ?_) (cmp_inMarks fun a b c => hns a b c)
      exact cmpA_ok T.ctx R2 (ra.mono hs2) rb h2 fun c tk h3 => k _ _ _ { s2 with toks := tk } _ (fun _ z => hs2 (hs1 z)) R2.tk (.bool c) h3
  · split at h
    · refine BoolOp_and (hS _ _ _ _ h R re fun va a g1 s1 i1 hs1 R1 ra h1 => ?_)
      cases ra <;> try exact h1.elim
      rename_i c
      refine wpAny_truthy_bool ?_
      cases c with
      | true => exact BoolOp_one (hS _ _ _ _ h1 R1 (re.mono hs1) fun v av g' s' imm' hs R' rv h' => k v av g' s' imm' (fun _ z => hs (hs1 z)) R' rv h')
      | false => exact k _ _ _ _ _ hs1 R1 (.bool false) h1
    · exact h.elim
  · refine wpAny_IfExp (hT _ _ _ _ h R re fun c g1 s1 i1 hs1 R1 h1 => ?_)
    cases c with
    | true => exact hS _ _ _ _ h1 R1 (re.mono hs1) fun v av g' s' imm' hs R' rv h' => k v av g' s' imm' (fun _ z => hs (hs1 z)) R' rv h'
    | false => exact hS _ _ _ _ h1 R1 (re.mono hs1) fun v av g' s' imm' hs R' rv h' => k v av g' s' imm' (fun _ z => hs (hs1 z)) R' rv h'
  · split at h
    · exact h.elim
    · rename_i hp
      simp only [plainArgs, Bool.and_eq_true, decide_eq_true_eq] at hp
      have hlen := hp.2
      refine List_ (esA_lenok hS hp.1 h R re fun vs avs g1 s1 i1 hs1 R1 rl h1 hn => ?_)
      refine Rel.push_list R1 rl (by rw [← rl.1, hn]; omega) fun v s' imm' hs' R' rv => k _ _ _ _ _ (fun _ z => hs' (hs1 z)) R' rv h1
  · split at h
    · refine Attribute_Name_ (hS _ _ _ _ h R re fun va a g1 s1 i1 hs1 R1 ra h1 => ?_)
      exact attrA_ok T.ctx R1 ra h1 fun av v tk h2 rv => k _ _ _ { s1 with toks := tk } _ hs1 R1.tk rv h2
    · exact h.elim
  · split at h
    · refine Subscript_ (hS _ _ _ _ h R re fun va a g1 s1 i1 hs1 R1 ra h1 => ?_)
      refine wpAny_Slice (optA_ok hS h1 R1 (re.mono hs1) fun lo t1 g2 s2 i2 hs2 R2 h2 => optA_ok hS h2 R2 ((re.mono hs1).mono hs2) fun hi t2 g3 s3 i3 hs3 R3 h3 => wpAny_pure ?_)
      cases ra <;> try exact h3.elim
      · exact sliceA_ok R3 ‹_› fun v s' R' rv => k _ _ _ _ _ (fun _ z => hs3 (hs2 (hs1 z))) R' rv h3
      · cases lo <;> cases hi <;> try exact h3.elim
        obtain ⟨hg, h3⟩ := guard_iff.mp h3
        exact sliceL_ok R3 hg ‹_› ‹IntsAre _ _› ‹_› fun v s' imm' hs' R' rv => k _ _ _ _ _ (fun _ z => hs' (hs3 (hs2 (hs1 z)))) R' rv h3
    · exact h.elim
    · rename_i hns1 hns2
      refine Subscript_ (hS _ _ _ _ h R re fun va a g1 s1 i1 hs1 R1 ra h1 => hS _ _ _ _ h1 R1 (re.mono hs1) fun vi i g2 s2 i2 hs2 R2 ri h2 => ?_)
      exact itemA_ok T.ctx R2 (ra.mono hs2) ri (fun l u t q => hns2 l u t q) h2 fun av v tk h3 rv => k _ _ _ { s2 with toks := tk } _ (fun _ z => hs2 (hs1 z)) R2.tk rv h3
  · split at h
    · exact h.elim
    · rename_i hp
      have hp0 := hp
      simp only [plainArgs, Bool.and_eq_true, decide_eq_true_eq] at hp
      split at h
      · split at h
        · exact h.elim
        · rename_i hg
          split at h
          · rename_i f ef
            have hkp : keepIn (KF X.w.params X.V) (.ref f) = true := by
              have := map_at (gtab_keep X.w.params X.V) (aget_mem ef)
              simpa [isR, sv] using this
            refine Call_ (nameG_ok T R hg ef ?_)
            refine callF T hS hkp hp.1 h R re fun vs avs g1 s1 i1 hs1 R1 rl h1 => ?_
            exact runF T hΓ h1 R1 rl fun v av g' s' imm' hs R' rv h' => k v av g' s' imm' (fun _ z => hs (hs1 z)) R' rv h'
          · exact h.elim
          · rename_i en
            split at h
            · rename_i hx
              exact callBuilt T hS hp.1 hg hx h R re k
            · exact h.elim
      · split at h
        · exact h.elim
        · rename_i hb
          refine mcall hb hp0 (hS _ _ _ _ h R re fun va ov g1 s1 i1 hs1 R1 ra h1 pl => ?_)
          split at h1
          · cases ra
            rename_i b
            obtain ⟨f, ef, h1⟩ := elim_iff.mp h1
            obtain ⟨fl, es, h1⟩ := elim_iff.mp h1
            split at h1
            · rename_i en
              obtain ⟨ds, n, hd, hi⟩ := R1.st_at es
              have hm := aget_mem ef
              refine method_inst R1.fr T.ctx.k hi (inst_plain _ _ _) (map_at (mtab_vals X.w.params X.V) hm) (map_at (mtab_fn X.w.params X.V) hm) (hd.getNone en) ?_
              refine callF T hS (map_at (mtab_keep X.w.params X.V) hm) hp.1 h1 R1 (re.mono hs1) fun vs avs g2 s2 i2 hs2 R2 rl h2 => ?_
              exact runF T hΓ h2 R2 (.cons (.stem b) rl) fun v av g' s' imm' hs R' rv h' => k v av g' s' imm' (fun _ z => hs (hs2 (hs1 z))) R' rv h'
            · exact h1.elim
          · cases ra
            rename_i lt tk hlt
            split at h1
            · rename_i hx
              simp only [isSM, Bool.or_eq_true, beq_iff_eq] at hx
              rcases hx with rfl | rfl
              · refine GM.startswith (callB T hS hp.1 h1 R1 (re.mono hs1) fun vs avs g2 s2 i2 hs2 R2 rl h2 => ?_)
                rcases methA_ok (prog := X.prog) (A := X.A) (E := E) (Q := Q) (t := tk) R2 rl h2 (fun av v h' rv => k v av g2 s2 i2 (fun _ z => hs2 (hs1 z)) R2 rv h') with ⟨_, z⟩ | ⟨q, _⟩
                · exact z
                · exact absurd q (by decide +kernel)
              · refine GM.endswith (callB T hS hp.1 h1 R1 (re.mono hs1) fun vs avs g2 s2 i2 hs2 R2 rl h2 => ?_)
                rcases methA_ok (prog := X.prog) (A := X.A) (E := E) (Q := Q) (t := tk) R2 rl h2 (fun av v h' rv => k v av g2 s2 i2 (fun _ z => hs2 (hs1 z)) R2 rv h') with ⟨q, _⟩ | ⟨_, z⟩
                · exact absurd q (by decide +kernel)
                · exact z
            · exact h1.elim
          · exact h1.elim
      · exact h.elim
  · exact h.elim
end
end Mine

end

-- EvS9
section
open PySem PySem.W PyProof.Rows PySem.Calls
set_option Elab.async false
set_option maxRecDepth 100000
set_option maxHeartbeats 0
set_option linter.all false
namespace Mine
section
variable {X : Loc} {S : Sems} {Γ : Funs}

theorem andA_ok (hT : SndT X S.t) {pos : Pos} {whole : Sem Value} : ∀ {es : List Expr} {ρ : LEnv} {g : G} {κ : Bool → G → Prop}, andA S es ρ g κ →
    ∀ {E : Value → Shared → Prop} {Q : Bool → Shared → Prop} {s : Shared} {m : Str → Option Value} {imm : Led}, X.R s m imm g → X.Re m imm ρ →
    (∀ c g' s' imm', imm ⊆ imm' → X.R s' m imm' g' → κ c g' → Q c s') → wpAny X.M X.A (isTrue (.BoolOp .And es pos) X.env whole) Q E s
  | [], ρ, g, κ, h, E, Q, s, m, imm, R, re, k => isTrue_and_nil (k _ _ _ _ (fun _ z => z) R h)
  | e :: r, ρ, g, κ, h, E, Q, s, m, imm, R, re, k => by
    refine isTrue_and (hT _ _ _ _ h R re fun c g1 s1 i1 hs1 R1 h1 => ?_)
    cases c with
    | true => exact andA_ok hT h1 R1 (re.mono hs1) fun c g' s' imm' hs R' h' => k c g' s' imm' (fun _ z => hs (hs1 z)) R' h'
    | false => exact k _ _ _ _ hs1 R1 h1
theorem orA_ok (hT : SndT X S.t) {pos : Pos} {whole : Sem Value} : ∀ {es : List Expr} {ρ : LEnv} {g : G} {κ : Bool → G → Prop}, orA S es ρ g κ →
    ∀ {E : Value → Shared → Prop} {Q : Bool → Shared → Prop} {s : Shared} {m : Str → Option Value} {imm : Led}, X.R s m imm g → X.Re m imm ρ →
    (∀ c g' s' imm', imm ⊆ imm' → X.R s' m imm' g' → κ c g' → Q c s') → wpAny X.M X.A (isTrue (.BoolOp .Or es pos) X.env whole) Q E s
  | [], ρ, g, κ, h, E, Q, s, m, imm, R, re, k => isTrue_or_nil (k _ _ _ _ (fun _ z => z) R h)
  | e :: r, ρ, g, κ, h, E, Q, s, m, imm, R, re, k => by
    refine isTrue_or (hT _ _ _ _ h R re fun c g1 s1 i1 hs1 R1 h1 => ?_)
    cases c with
    | true => exact k _ _ _ _ hs1 R1 h1
    | false => exact orA_ok hT h1 R1 (re.mono hs1) fun c g' s' imm' hs R' h' => k c g' s' imm' (fun _ z => hs (hs1 z)) R' h'

theorem tA_ok (T : X.Ok) (hS : SndE X S.e) (hT : SndT X S.t) : SndT X (tA S) := by
  intro e ρ g κ h E Q s m imm R re k
  unfold tA at h
  split at h
  · split at h
    · exact h.elim
    · rename_i hns
      refine wpAny_isTrue_Compare1 (hS _ _ _ _ h R re fun va a g1 s1 i1 hs1 R1 ra h1 => hS _ _ _ _ h1 R1 (re.mono hs1) fun vb b g2 s2 i2 hs2 R2 rb h2 => ?_) (cmp_inMarks fun a b c => hns a b c)
      exact cmpA_ok T.ctx R2 (ra.mono hs2) rb h2 fun c tk h3 => wpAny_truthy_bool (k _ _ { s2 with toks := tk } _ (fun _ z => hs2 (hs1 z)) R2.tk h3)
  · exact isTrue_not (hT _ _ _ _ h R re fun c g1 s1 i1 hs1 R1 h1 => k _ _ _ _ hs1 R1 h1)
  · exact andA_ok hT h R re k
  · exact orA_ok hT h R re k
  · refine isTrue_plain (hS _ _ _ _ h R re fun va a g1 s1 i1 hs1 R1 ra h1 => ?_)
    cases ra <;> try exact h1.elim
    exact wpAny_truthy_bool (k _ _ _ _ hs1 R1 h1)
  · refine isTrue_plain (hS _ _ _ _ h R re fun va a g1 s1 i1 hs1 R1 ra h1 => ?_)
    cases ra <;> try exact h1.elim
    exact wpAny_truthy_bool (k _ _ _ _ hs1 R1 h1)
  · exact h.elim
end
end Mine

end

-- EvS10
section
open PySem PySem.W PyProof.Rows PySem.Calls PySem.Spec
set_option Elab.async false
set_option maxRecDepth 100000
set_option maxHeartbeats 0
set_option linter.all false
namespace Mine
abbrev bmExc : List Value := [.type "Exception", .type "BaseException", .type "object"]
theorem lab_exc (P : Params) (V : VT) : excIn (KF P V) 354 bmExc "Exception.__new__" = true := by kernel_rfl
theorem glob_kind {sc : Scope} {name : Str} {L a : Addr} {cd : Value} {x : Str} (h : isGlob sc x = true) : (envOf name sc L a cd).kindOf x = some .globalImplicit ∧ (x == (Str.ofString "__debug__")) = false := by
  unfold isGlob at h
  split at h
  · rename_i e1 e2; exact ⟨e2, e1⟩
  · cases h
theorem up_keep {h h' : Heap} (k : ∀ b o, h.get? b = some o → (∀ vs, o.data ≠ .fields vs) → h'.get? b = some o) : h.UpToSlots h' := fun b o e n => ⟨o.slots, k b o e n⟩

section
variable {X : Loc}

theorem lab_own (T : X.Ok) : OwnCls s84 354 bmExc "Exception.__new__" X.mg X.hb := own_of_in T.ctx.k T.ctx.top (lab_get X.w.params X.V) (lab_exc X.w.params X.V)

theorem catch_ok (T : X.Ok) {pos hp np : Pos} {h : Heap} {s : Shared} {m : Str → Option Value} {imm : Led} {g : G} {e : Addr} {E : Value → Shared → Prop} {Q : Flow → Shared → Prop} (hg : isGlob X.sc s84 = true)
    (R : X.R { s with heap := h } m imm g) (hx : Heap.MadeExcOf h s.heap e (.ref 354) []) (k : ∀ s', X.R s' m imm g → Q .next s') :
    wpAny X.M X.A (noteFrame (.ref e) X.env)
      (fun _ s₂ => wpAny X.M X.A (setFlight (.ref e) none) (fun _ s₃ => wpAny X.M X.A (handleBy (.ref e) X.env [.ExceptHandler (some (.Name s84 np)) none [.Pass pos] hp]) Q E s₃) E s₂) E s := by
  obtain ⟨frs, t, p1, p2, r⟩ := R
  have Fs := T.frs.up r.up
  obtain ⟨tt, he, htn, hte⟩ := hx.there
  have hsub : ∀ q ∈ frs, q ∈ imm ++ (t ++ (p1 ++ (p2 ++ frs))) := fun q hq => by simp [hq]
  obtain ⟨hff, hNs, frs₁, SU, ht⟩ := TI.frames_at (name := X.name) (a := X.a) (cd := X.cd) (h' := s.heap) (base := TI.gone h (X.L :: frs.map (·.1))) T.kind Fs r.fr r.news hsub
    (fun b o hb' => ⟨o.slots, hx.keeps b o hb'⟩) fun b hm => TI.gone_none hm
  -- what holds behind it
  have fin : ∀ (h3 : Heap), (TI.gone h (X.L :: frs.map (·.1))).StaysIn h3 → h.UpToSlots h3 → X.R { s with heap := h3 } m imm g := by
    intro h3 hb3 up
    obtain ⟨frs₂, SU₂, ht₂⟩ := TI.sameUp_of (h' := h3) (frs := frs) fun q hq => up q.1 q.2 (r.news q (hsub q hq)).1 fun vs z => by
      obtain ⟨es, ep, hd⟩ := Fs.dict q hq
      rw [hd] at z; cases z
    have addr : frs₂.map (·.1) = frs.map (·.1) := by
      have h1 := (Fs.up SU₂).addrs
      rw [← h1, ← Fs.addrs]
    refine ⟨frs₂, t, p1, p2, ⟨Heap.UpToSlots.ns up r.fr.ns, fun b o ho => hb3 b o ((TI.gone_get (TI.base_apart r.fr r.news hsub ho)).trans (r.fr.keep b o ho)), r.fr.above⟩, r.z, r.up.trans SU₂, r.mu, ?_, ?_⟩
    · intro q hq
      have old : q ∈ imm ++ (t ++ (p1 ++ p2)) → h3.get? q.1 = some q.2 ∧ q.1 ≠ X.L ∧ X.hb.get? q.1 = none := fun hm => by
        have hq' : q ∈ imm ++ (t ++ (p1 ++ (p2 ++ frs))) := by
          have := List.mem_append_left frs hm
          simpa using this
        obtain ⟨n1, n2, n3⟩ := r.news q hq'
        refine ⟨hb3 _ _ ((TI.gone_get fun hm' => ?_).trans n1), n2, n3⟩
        rcases List.mem_cons.mp hm' with z | z
        · exact n2 z
        · have nd := r.nd
          rw [show imm ++ (t ++ (p1 ++ (p2 ++ frs))) = (imm ++ (t ++ (p1 ++ p2))) ++ frs by simp, List.map_append] at nd
          exact (List.nodup_append.mp nd).2.2 _ (List.mem_map_of_mem hm) _ z rfl
      have hq2 : q ∈ (imm ++ (t ++ (p1 ++ p2))) ++ frs₂ := by simpa using hq
      rcases List.mem_append.mp hq2 with hm | hm
      · exact old hm
      · obtain ⟨x, hx', ex⟩ := SU₂.fwd q hm
        obtain ⟨_, n2, n3⟩ := r.news x (hsub x hx')
        exact ⟨ht₂ q hm, by rw [ex]; exact n2, by rw [ex]; exact n3⟩
    · have nd := r.nd
      simp only [List.map_append] at nd ⊢
      rw [addr]; exact nd
  have upx : h.UpToSlots s.heap := Heap.UpToSlots.of_keeps hx.keeps
  have hkb : (TI.gone h (X.L :: frs.map (·.1))).StaysIn s.heap := fun b o eb => hx.keeps b o (TI.gone_some eb).2
  have hen : (TI.gone h (X.L :: frs.map (·.1))).get? e = none := TI.none_of (fun b o eb => (TI.gone_some eb).2) hx.new
  unfold noteFrame
  simp only [show X.env.frame = some X.L from rfl]
  refine wpAny_bind (wpAny_field he rfl (x := .none) rfl ?_)
  rw [if_neg (by decide)]
  refine wpAny_entryW (a0 := .ref tt) (Around.frames_deeper T.frames) hff rfl he hkb hen rfl (by show 1 < 6; decide) rfl fun h1 hN => ?_
  obtain ⟨b1, f1, tr1, u1⟩ := hN
  have up1 : h.UpToSlots h1 := upx.trans u1
  refine wpAny_setFlight_noneW (s := { s with heap := h1 }) b1 f1 tr1 fun h2 b2 f2 tr2 u2 => ?_
  have up2 : h.UpToSlots h2 := up1.trans (up_keep u2)
  have F2 := (fin h2 b2 up2).fr
  obtain ⟨ob, hob, hobc⟩ := Heap.TracedAtW.there tr2.at
  obtain ⟨kd, kdb⟩ := glob_kind (name := X.name) (L := X.L) (a := X.a) (cd := X.cd) hg
  obtain ⟨bm, N, nm, qn, bs, hdct, sn, sub, ab, col, dd, k0, k1, k2, k3, k5, mN, hC, hN', hni, TL⟩ := ((lab_own T).keeps F2.keep).obj
  refine wpAny_handleBy_cons (codeAny_handlers_test (name_K (s := { s with heap := h2 }) F2 T.ctx.k T.ctx.top (lab_get X.w.params X.V) ?_ T.kind kd kdb)) (by intro q; cases q)
  refine wpAny_excMatches_sub_self hC hob hobc (TL.hasType (by decide)) (codeAny_handlers_suite ?_)
  refine wpAny_setFlight_noneW (s := { s with heap := h2 }) b2 f2 tr2.at fun h3 b3 f3 tr3 u3 => ?_
  have up3 : h.UpToSlots h3 := up2.trans (up_keep u3)
  exact wpAny_execs_cons (wpAny_Pass (wpAny_execs_nil (k _ (fin h3 b3 up3))))

theorem raise_ok (T : X.Ok) {np cpos pos : Pos} {s : Shared} {m : Str → Option Value} {imm : Led} {g : G} {E : Value → Shared → Prop} {Q : Flow → Shared → Prop} (hg : isGlob X.sc s84 = true) (R : X.R s m imm g)
    (k : ∀ h' e, Heap.MadeExcOf s.heap h' e (.ref 354) [] → E (.ref e) { s with heap := h' }) :
    wpAny X.M X.A (exec (.Raise (some (.Call (.Name s84 np) [] [] cpos)) none pos) X.env) Q E s := by
  obtain ⟨kd, kdb⟩ := glob_kind (name := X.name) (L := X.L) (a := X.a) (cd := X.cd) hg
  exact Raise_own0 R.fr T.ctx.top.g (lab_own T) PySem.F.excBase_Exception T.handled k T.kind kd kdb
end
end Mine

end

-- EvS11
section
open PySem PySem.W PyProof.Rows PySem.Calls PySem.Spec
set_option Elab.async false
set_option maxRecDepth 100000
set_option maxHeartbeats 0
set_option linter.all false
namespace Mine

theorem RepV.monoL {hb W imm imm'} (hs : ∀ a vs n, (a, LO vs n) ∈ imm → (a, LO vs n) ∈ imm') {x : AV} {v : Value} (r : RepV hb W imm x v) : RepV hb W imm' x v := by
  induction r with
  | none => exact .none
  | bool b => exact .bool b
  | int i t => exact .int i t
  | str l t hl => exact .str l t hl
  | ref a => exact .ref a
  | tape => exact .tape
  | stem b => exact .stem b
  | hlist a ns vs hi at_ hn => exact .hlist a ns vs hi at_ hn
  | ilist a ns vs n hi at_ hn => exact .ilist a ns vs n hi (hs _ _ _ at_) hn
  | list a avs vs n hl h at_ hn ih => exact .list a avs vs n hl ih (hs _ _ _ at_) hn
theorem RepL.monoL {hb W imm imm'} (hs : ∀ a vs n, (a, LO vs n) ∈ imm → (a, LO vs n) ∈ imm') {x : List AV} {v : List Value} (r : RepL hb W imm x v) : RepL hb W imm' x v :=
  ⟨r.1, fun i x v h1 h2 => (r.2 i x v h1 h2).monoL hs⟩
theorem RepD.monoL {hb W imm imm' w f es} (hs : ∀ a vs n, (a, LO vs n) ∈ imm → (a, LO vs n) ∈ imm') (r : RepD hb W imm w f es) : RepD hb W imm' w f es := by
  induction r with
  | nil => exact .nil
  | cons x t h _ ih => exact .cons x t (h.monoL hs) ih
theorem Mu.monoL {hb W imm imm' w g t p1 p2} (hs : ∀ a vs n, (a, LO vs n) ∈ imm → (a, LO vs n) ∈ imm') (r : Mu hb W imm w g t p1 p2) : Mu hb W imm' w g t p1 p2 := by
  obtain ⟨a, b, c⟩ := r
  refine ⟨?_, ?_, ?_⟩
  · unfold TapeAt at *
    split at a
    · exact a
    · obtain ⟨vs, o, h, e⟩ := a; exact ⟨vs, o, h.monoL hs, e⟩
  · unfold StAt at *
    split at b
    · exact b
    · obtain ⟨es, n, h, e⟩ := b; exact ⟨es, n, h.monoL hs, e⟩
  · unfold StAt at *
    split at c
    · exact c
    · obtain ⟨es, n, h, e⟩ := c; exact ⟨es, n, h.monoL hs, e⟩

section
variable {hb : Heap} {W : Adrs} {w : World} {L : Addr} {f0 : Led} {h h' : Heap} {m : Str → Option Value} {imm : Led} {g : G}

theorem nodup_mid {pre post : Led} {d : Addr} {o : Obj} (nd : ((pre ++ (d, o) :: post).map (·.1)).Nodup) : (∀ q ∈ pre, q.1 ≠ d) ∧ ∀ q ∈ post, q.1 ≠ d := by
  rw [List.map_append, List.map_cons] at nd
  obtain ⟨n1, n2, n3⟩ := List.nodup_append.mp nd
  rw [List.nodup_cons] at n2
  refine ⟨fun q hq e => n3 _ (List.mem_map_of_mem hq) d (List.mem_cons_self ..) e, fun q hq e => n2.1 ?_⟩
  have := List.mem_map_of_mem (f := (·.1)) hq
  rw [e] at this
  exact this
theorem upd_news' {pre post : Led} {d : Addr} {o o' : Obj} (F : Fr hb L h m) (N : News hb L h (pre ++ (d, o) :: post)) (nd : ((pre ++ (d, o) :: post).map (·.1)).Nodup) (hs : Heap.SameBut d h h') (ho : h'.get? d = some o') :
    Fr hb L h' m ∧ News hb L h' (pre ++ (d, o') :: post) := by
  have D := N (d, o) (by simp)
  obtain ⟨n1, n2⟩ := nodup_mid nd
  obtain ⟨oL, es, ep, hL, r⟩ := F.ns
  refine ⟨⟨⟨oL, es, ep, (hs.2 _ (Ne.symm D.2.1)).trans hL, r⟩, fun b x q => (hs.2 b fun z => ?_).trans (F.keep b x q), F.above⟩, fun q hq => ?_⟩
  · have := D.2.2; rw [← z, q] at this; cases this
  · rcases List.mem_append.mp hq with z | z
    · have P := N q (List.mem_append_left _ z); exact ⟨(hs.2 _ (n1 q z)).trans P.1, P.2⟩
    · rcases List.mem_cons.mp z with rfl | z
      · exact ⟨ho, D.2⟩
      · have P := N q (List.mem_append_right _ (.tail _ z)); exact ⟨(hs.2 _ (n2 q z)).trans P.1, P.2⟩
theorem upd_nodup {pre post : Led} {d : Addr} {o o' : Obj} (nd : ((pre ++ (d, o) :: post).map (·.1)).Nodup) : ((pre ++ (d, o') :: post).map (·.1)).Nodup := by
  simpa using nd
theorem upd_Upd {pre post : Led} {d : Addr} {o o' : Obj} (nd : ((pre ++ (d, o) :: post).map (·.1)).Nodup) : Upd d o o' (pre ++ (d, o) :: post) (pre ++ (d, o') :: post) := by
  obtain ⟨n1, n2⟩ := nodup_mid nd
  clear nd
  induction pre with
  | nil => exact .head n2
  | cons q r ih => exact .tail (n1 q (List.mem_cons_self ..)) (ih fun x hx => n1 x (List.mem_cons_of_mem _ hx))

-- an iterator in the ledger takes another value
theorem Rel.turn {s s' : Shared} (R : Rel hb W w L f0 s m imm g) {I : Addr} {o o' : Obj} (hI : (I, o) ∈ imm) (hn : o.cls ≠ .type "list") (hs : Heap.SameBut I s.heap s'.heap) (ho : s'.heap.get? I = some o') (z : s'.gens = s.gens ∧ s'.os = s.os) :
    ∃ imm', Rel hb W w L f0 s' m imm' g ∧ (I, o') ∈ imm' ∧ (∀ a vs n, (a, LO vs n) ∈ imm → (a, LO vs n) ∈ imm') ∧ ∀ q ∈ imm, q.1 ≠ I → q ∈ imm' := by
  obtain ⟨frs, t, p1, p2, r⟩ := R
  obtain ⟨pre, post, rfl⟩ := List.append_of_mem hI
  have N := r.news
  have nd := r.nd
  rw [show (pre ++ (I, o) :: post) ++ (t ++ (p1 ++ (p2 ++ frs))) = pre ++ (I, o) :: (post ++ (t ++ (p1 ++ (p2 ++ frs)))) by simp] at N nd
  obtain ⟨F', N'⟩ := upd_news' (o' := o') r.fr N nd hs ho
  have oth : ∀ q ∈ pre ++ (I, o) :: post, q.1 ≠ I → q ∈ pre ++ (I, o') :: post := fun q hq hne => by
    rcases List.mem_append.mp hq with z | z
    · exact List.mem_append_left _ z
    · rcases List.mem_cons.mp z with rfl | z
      · exact absurd rfl hne
      · exact List.mem_append_right _ (.tail _ z)
  have lst : ∀ a vs n, (a, LO vs n) ∈ pre ++ (I, o) :: post → (a, LO vs n) ∈ pre ++ (I, o') :: post := fun a vs n hq => by
    refine oth _ hq fun e => ?_
    have e' : a = I := e
    subst e'
    have h1 := (r.news (a, LO vs n) (List.mem_append_left _ hq)).1
    have h2 := (r.news (a, o) (List.mem_append_left _ hI)).1
    rw [h1] at h2
    cases h2
    exact hn rfl
  refine ⟨pre ++ (I, o') :: post, ⟨frs, t, p1, p2, F', ⟨z.1.trans r.z.1, z.2.trans r.z.2⟩, r.up, r.mu.monoL lst, ?_, ?_⟩, by simp, lst, oth⟩
  · rw [show (pre ++ (I, o') :: post) ++ (t ++ (p1 ++ (p2 ++ frs))) = pre ++ (I, o') :: (post ++ (t ++ (p1 ++ (p2 ++ frs)))) by simp]
    exact N'
  · rw [show (pre ++ (I, o') :: post) ++ (t ++ (p1 ++ (p2 ++ frs))) = pre ++ (I, o') :: (post ++ (t ++ (p1 ++ (p2 ++ frs)))) by simp]
    exact upd_nodup nd

-- a fresh object comes into the ledger
theorem Rel.push {s : Shared} (R : Rel hb W w L f0 s m imm g) {o : Obj} {tk : Nat} (hf : o.isFreed = false) : Rel hb W w L f0 { s with heap := s.heap.push o, toks := tk } m ((s.heap.objs.size, o) :: imm) g := by
  obtain ⟨frs, t, p1, p2, r⟩ := R
  refine ⟨frs, t, p1, p2, r.fr.pushS o, r.z, r.up, r.mu.mono (fun _ z => List.mem_cons_of_mem _ z), ?_, ?_⟩
  · intro q hq
    rw [List.cons_append] at hq
    rcases List.mem_cons.mp hq with rfl | hq
    · refine ⟨Heap.get?_push_size _ hf, fun e => ?_, Heap.get?_none_of_le ?_⟩
      · obtain ⟨oL, _, _, hL, _⟩ := r.fr.ns
        have := Heap.lt_size hL
        have e' : s.heap.objs.size = L := e
        rw [← e'] at this
        exact Nat.lt_irrefl _ this
      · obtain ⟨oL, _, _, hL, _⟩ := r.fr.ns
        exact Nat.le_trans r.fr.above (Nat.le_of_lt (Heap.lt_size hL))
    · obtain ⟨a, b, c⟩ := r.news q hq
      exact ⟨Heap.get?_push_of_some _ a, b, c⟩
  · rw [List.cons_append, List.map_cons, List.nodup_cons]
    refine ⟨fun hm => ?_, r.nd⟩
    obtain ⟨q, hq, e⟩ := List.mem_map.mp hm
    have := Heap.lt_size (r.news q hq).1
    have e' : q.1 = s.heap.objs.size := e
    rw [e'] at this
    exact absurd this (Nat.lt_irrefl _)
end
end Mine

end

-- EvS12
section
open PySem PySem.W PyProof.Rows PySem.Calls PySem.Spec
set_option Elab.async false
set_option maxRecDepth 100000
set_option maxHeartbeats 0
set_option linter.all false
namespace Mine
section
variable {hb : Heap} {W : Adrs} {w : World} {L : Addr} {f0 : Led} {h h' : Heap} {m : Str → Option Value} {imm : Led} {g : G}
variable {prog : Program} {A : Around} {E : Value → Shared → Prop} {s : Shared} {p : Program} {loose : List Str} {mg mb : Str → Option Value} {V : VT}

theorem RepD.len {f es} (r : RepD hb W imm w f es) : es.length = f.length := by
  induction r with
  | nil => rfl
  | cons x t h _ ih => simp [ih]
theorem aput_len (x : Str) (v : AV) : ∀ f : List (Str × AV), (aput x v f).length ≤ f.length + 1
  | [] => by simp [aput]
  | p :: r => by
    unfold aput
    have := aput_len x v r
    cases (p.1 == x) <;> simp <;> omega
theorem RepD.put {f es} (r : RepD hb W imm w f es) {x : Str} {tk : Tok} {a : AV} {v : Value} (hv : RepV hb W imm a v) : RepD hb W imm w (aput x a f) (putL x (PyData.keyHash w.params x) (.str x tk) v es) := by
  induction r with
  | nil => exact .cons x tk hv .nil
  | cons y t hy r ih =>
    unfold aput putL
    simp only [show (Value.str y t).isStr x = (y == x) from rfl]
    cases q : (y == x) with
    | true => simp only [cond_true, if_true]; exact .cons y t hv r
    | false => simp only [cond_false, Bool.false_eq_true, if_false]; exact .cons y t hy ih
theorem RepD.some {f es} (r : RepD hb W imm w f es) (x : Str) : (getL x es).isSome = true := by
  unfold getL
  split
  · rfl
  · rw [r.noref]; rfl

theorem setA_ok (C : Ctx w V hb p loose mg mb) (R : Rel hb W w L f0 s m imm g) {a av : AV} {va v : Value} {x : Str} (ra : RepV hb W imm a va) (rv : RepV hb W imm av v) {κ : G → Prop} {Q : Unit → Shared → Prop} (h : setA g a x av κ)
    (k : ∀ s' g', Rel hb W w L f0 s' m imm g' → κ g' → Q () s') : wpAny (model prog w) A (setAttr va x v) Q E s := by
  unfold setA at h
  split at h
  · rename_i b
    cases ra
    split at h
    · rename_i e1
      obtain ⟨f, e2, h⟩ := elim_iff.mp h
      obtain ⟨hl, hk⟩ := guard_iff.mp h
      have hx := flds_mem e1
      obtain ⟨frs, t, p1, p2, r⟩ := R
      cases b with
      | false =>
        have r1 := r.mu.s1
        unfold StAt at r1
        rw [show g.s1 = some f from e2] at r1
        obtain ⟨es, n, hd, rfl⟩ := r1
        have N := r.news
        have nd := r.nd
        have sh : ∀ o : Obj, imm ++ (t ++ ([(W.x1, instObj 342 W.d1), (W.d1, o)] ++ (p2 ++ frs))) = (imm ++ (t ++ [(W.x1, instObj 342 W.d1)])) ++ (W.d1, o) :: (p2 ++ frs) := fun o => by simp
        rw [sh] at N nd
        have I : PySem.W.InstAt s.heap W.x1 (instObj 342 W.d1) 342 (some (dictOf es n)) := ⟨(N (W.x1, instObj 342 W.d1) (by simp)).1, rfl, rfl, (N (W.d1, dictOf es n) (by simp)).1⟩
        refine set_dict (news' := (imm ++ (t ++ [(W.x1, instObj 342 W.d1)])) ++ (W.d1, dictOf (putL x (PyData.keyHash w.params x) (.str x (s.toks + 1)) v es) (putN x es n)) :: (p2 ++ frs)) r.fr C.k N I rfl (inst_set _ _) (inst_over _ _) (map_at (flds_take w.params V) hx) (inst_dict _ _) (hd.some x) rfl (upd_Upd nd) ?_ fun h' F' N' => ?_
        · have h1 := (hd.put (x := x) (tk := s.toks + 1) rv).len
          have h2 := aput_len x av f
          omega
        · refine k _ (g.setSt false (aput x av f)) ⟨frs, t, [(W.x1, instObj 342 W.d1), (W.d1, dictOf (putL x (PyData.keyHash w.params x) (.str x (s.toks + 1)) v es) (putN x es n))], p2, F', r.z, r.up, ⟨r.mu.tape, ?_, r.mu.s2⟩, ?_, ?_⟩ hk
          · exact ⟨_, _, hd.put rv, rfl⟩
          · rw [sh]; exact N'
          · rw [sh]; exact upd_nodup nd
      | true =>
        have r1 := r.mu.s2
        unfold StAt at r1
        rw [show g.s2 = some f from e2] at r1
        obtain ⟨es, n, hd, rfl⟩ := r1
        have N := r.news
        have nd := r.nd
        have sh : ∀ o : Obj, imm ++ (t ++ (p1 ++ ([(W.x2, instObj 342 W.d2), (W.d2, o)] ++ frs))) = (imm ++ (t ++ (p1 ++ [(W.x2, instObj 342 W.d2)]))) ++ (W.d2, o) :: frs := fun o => by simp
        rw [sh] at N nd
        have I : PySem.W.InstAt s.heap W.x2 (instObj 342 W.d2) 342 (some (dictOf es n)) := ⟨(N (W.x2, instObj 342 W.d2) (by simp)).1, rfl, rfl, (N (W.d2, dictOf es n) (by simp)).1⟩
        refine set_dict (news' := (imm ++ (t ++ (p1 ++ [(W.x2, instObj 342 W.d2)]))) ++ (W.d2, dictOf (putL x (PyData.keyHash w.params x) (.str x (s.toks + 1)) v es) (putN x es n)) :: frs) r.fr C.k N I rfl (inst_set _ _) (inst_over _ _) (map_at (flds_take w.params V) hx) (inst_dict _ _) (hd.some x) rfl (upd_Upd nd) ?_ fun h' F' N' => ?_
        · have h1 := (hd.put (x := x) (tk := s.toks + 1) rv).len
          have h2 := aput_len x av f
          omega
        · refine k _ (g.setSt true (aput x av f)) ⟨frs, t, p1, [(W.x2, instObj 342 W.d2), (W.d2, dictOf (putL x (PyData.keyHash w.params x) (.str x (s.toks + 1)) v es) (putN x es n))], F', r.z, r.up, ⟨r.mu.tape, r.mu.s1, ?_⟩, ?_, ?_⟩ hk
          · exact ⟨_, _, hd.put rv, rfl⟩
          · rw [sh]; exact N'
          · rw [sh]; exact upd_nodup nd
    · exact h.elim
  · exact h.elim

theorem setTape_ok (R : Rel hb W w L f0 s m imm g) {k : Int} {tk : Tok} {av : AV} {v : Value} (rv : RepV hb W imm av v) {l : List AV} (e : g.tape = some l) (h0 : 0 ≤ k) (h1 : k < l.length) (h2 : l.length ≤ 1000) {Q : Unit → Shared → Prop}
    (kk : ∀ s', Rel hb W w L f0 s' m imm ⟨some (l.set k.toNat av), g.s1, g.s2⟩ → Q () s') : wpAny (model prog w) A (setItem (.ref W.tp) (.int k tk) v) Q E s := by
  obtain ⟨vs, hr, hl⟩ := R.tape_at e
  refine wpAny_setItem_list hl h0 (by omega) (by rw [List.size_toArray, ← hr.1]; exact h1) fun h' hl' hs => ?_
  obtain ⟨frs, t, p1, p2, r⟩ := R
  have r1 := r.mu.tape
  unfold TapeAt at r1
  rw [e] at r1
  obtain ⟨us, o, hr', ho, rfl⟩ := r1
  obtain ⟨o', hg', hc', n', hd'⟩ := hl'
  have N := r.news
  have nd := r.nd
  obtain ⟨F', N'⟩ := upd_news' (pre := imm) (post := p1 ++ (p2 ++ frs)) (o := o) (o' := o') r.fr N nd hs hg'
  refine kk _ ⟨frs, [(W.tp, o')], p1, p2, F', r.z, r.up, ⟨?_, r.mu.s1, r.mu.s2⟩, N', upd_nodup (pre := imm) (post := p1 ++ (p2 ++ frs)) (o := o) nd⟩
  unfold TapeAt
  refine ⟨vs.set k.toNat v, o', hr.set rv _, ⟨hc', n', ?_⟩, rfl⟩
  rw [hd']
  congr 1
  simp
end
section
variable {X : Loc}
theorem aget_aput (x y : Str) (v : AV) : ∀ ρ : LEnv, aget y (aput x v ρ) = if y = x then some v else aget y ρ
  | [] => by
    unfold aput aget
    by_cases e : y = x
    · subst e; simp
    · have : (x == y) = false := by simpa using fun z : x = y => e z.symm
      rw [this, if_neg e]; rfl
  | q :: r => by
    have ih := aget_aput x y v r
    unfold aput
    cases c : (q.1 == x) with
    | true =>
      have c' := beq_iff_eq.mp c
      simp only [cond_true]
      unfold aget
      by_cases e : y = x
      · subst e; simp [c']
      · have : (q.1 == y) = false := by rw [c']; simpa using fun z : x = y => e z.symm
        rw [this, if_neg e]; simp
    | false =>
      simp only [cond_false]
      unfold aget
      cases d : (q.1 == y) with
      | true =>
        have d' := beq_iff_eq.mp d
        have : y ≠ x := fun z => by rw [d', z] at c; simp at c
        rw [if_neg this]; rfl
      | false => exact ih
theorem loc_kind {sc : Scope} {x : Str} {name : Str} {L a : Addr} {cd : Value} (h : isLoc sc x = true) : (envOf name sc L a cd).kindOf x = some .local := by
  unfold isLoc at h
  split at h
  · assumption
  · cases h
theorem storeA (T : X.Ok) {s : Shared} {m : Str → Option Value} {imm : Led} {g : G} {ρ : LEnv} (R : X.R s m imm g) (re : X.Re m imm ρ) {x : Str} {av : AV} {v : Value} (hx : isLoc X.sc x = true) (rv : X.V' imm av v) {E : Value → Shared → Prop} {Q : Unit → Shared → Prop}
    (k : ∀ s' m', X.R s' m' imm g → X.Re m' imm (aput x av ρ) → Q () s') : wpAny X.M X.A (storeName X.env x v) Q E s := by
  obtain ⟨frs, t, p1, p2, r⟩ := R
  refine stN r.fr r.news (fun h' F' N' => k _ _ ⟨frs, t, p1, p2, F', r.z, r.up, r.mu, N', r.nd⟩ fun y bv hy => ?_) T.kind (loc_kind hx)
  rw [aget_aput] at hy
  by_cases e : y = x
  · rw [if_pos e] at hy ⊢
    cases hy
    exact ⟨v, rfl, rv⟩
  · rw [if_neg e] at hy ⊢
    exact re y bv hy
end
end Mine

end

-- EvS13
section
open PySem PySem.W PyProof.Rows PySem.Calls PySem.Spec
set_option Elab.async false
set_option maxRecDepth 100000
set_option maxHeartbeats 0
set_option linter.all false
namespace Mine

inductive RepFl (hb : Heap) (W : Adrs) (imm : Led) : AFlow → Flow → Prop
  | next : RepFl hb W imm .next .next
  | brk : RepFl hb W imm .brk .brk
  | ret (av : AV) (v : Value) : RepV hb W imm av v → RepFl hb W imm (.ret av) (.ret v)

abbrev SCont (X : Loc) (imm : Led) (κ : AFlow → LEnv → G → Prop) (Q : Flow → Shared → Prop) : Prop :=
  ∀ fl afl ρ' g' s' m' imm', imm ⊆ imm' → X.R s' m' imm' g' → X.Re m' imm' ρ' → RepFl X.hb X.W imm' afl fl → κ afl ρ' g' → Q fl s'
abbrev SExc (X : Loc) (imm : Led) (κ : AFlow → LEnv → G → Prop) (E : Value → Shared → Prop) : Prop :=
  ∀ e ρ' g' (s' : Shared) h' m' imm', imm ⊆ imm' → X.R { s' with heap := h' } m' imm' g' → X.Re m' imm' ρ' → Heap.MadeExcOf h' s'.heap e (.ref 354) [] → κ .exc ρ' g' → E (.ref e) s'
noncomputable def SndSt (X : Loc) (F : Stmt → LEnv → G → (AFlow → LEnv → G → Prop) → Prop) : Prop := ∀ (st : Stmt) (ρ : LEnv) (g : G) (κ : AFlow → LEnv → G → Prop), F st ρ g κ → ∀ {E : Value → Shared → Prop} {Q : Flow → Shared → Prop} {s : Shared} {m : Str → Option Value} {imm : Led}, X.R s m imm g → X.Re m imm ρ →
  SCont X imm κ Q → SExc X imm κ E → wpAny X.M X.A (exec st X.env) Q E s
noncomputable def SndS (X : Loc) (F : List Stmt → LEnv → G → (AFlow → LEnv → G → Prop) → Prop) : Prop := ∀ (st : List Stmt) (ρ : LEnv) (g : G) (κ : AFlow → LEnv → G → Prop), F st ρ g κ → ∀ {E : Value → Shared → Prop} {Q : Flow → Shared → Prop} {s : Shared} {m : Str → Option Value} {imm : Led}, X.R s m imm g → X.Re m imm ρ →
  SCont X imm κ Q → SExc X imm κ E → wpAny X.M X.A (execs st X.env) Q E s

theorem RepEnv.monoL {hb W m imm} {ρ : LEnv} {imm' : Led} (hs : ∀ a vs n, (a, LO vs n) ∈ imm → (a, LO vs n) ∈ imm') (r : RepEnv hb W m imm ρ) : RepEnv hb W m imm' ρ := fun x av h => let ⟨v, h1, h2⟩ := r x av h; ⟨v, h1, h2.monoL hs⟩

theorem Rel.drop {hb : Heap} {W : Adrs} {w : World} {L : Addr} {f0 : Led} {s s' : Shared} {m : Str → Option Value} {imm : Led} {g : G} (R : Rel hb W w L f0 s m imm g) {I : Addr} {o : Obj} (hI : (I, o) ∈ imm) (hn : o.cls ≠ .type "list") (hs : Heap.ExtBut I s.heap s'.heap) (z : s'.gens = s.gens ∧ s'.os = s.os) :
    ∃ imm', Rel hb W w L f0 s' m imm' g ∧ (∀ a vs n, (a, LO vs n) ∈ imm → (a, LO vs n) ∈ imm') ∧ ∀ q ∈ imm, q.1 ≠ I → q ∈ imm' := by
  obtain ⟨frs, t, p1, p2, r⟩ := R
  obtain ⟨pre, post, rfl⟩ := List.append_of_mem hI
  have N := r.news
  have nd := r.nd
  rw [show (pre ++ (I, o) :: post) ++ (t ++ (p1 ++ (p2 ++ frs))) = pre ++ (I, o) :: (post ++ (t ++ (p1 ++ (p2 ++ frs)))) by simp] at N nd
  obtain ⟨n1, n2⟩ := nodup_mid nd
  have D := N (I, o) (by simp)
  have oth : ∀ q ∈ pre ++ (I, o) :: post, q.1 ≠ I → q ∈ pre ++ post := fun q hq hne => by
    rcases List.mem_append.mp hq with z | z
    · exact List.mem_append_left _ z
    · rcases List.mem_cons.mp z with rfl | z
      · exact absurd rfl hne
      · exact List.mem_append_right _ z
  have lst : ∀ a vs n, (a, LO vs n) ∈ pre ++ (I, o) :: post → (a, LO vs n) ∈ pre ++ post := fun a vs n hq => by
    refine oth _ hq fun e => ?_
    have e' : a = I := e
    subst e'
    have h1 := (r.news (a, LO vs n) (List.mem_append_left _ hq)).1
    have h2 := (r.news (a, o) (List.mem_append_left _ hI)).1
    rw [h1] at h2
    cases h2
    exact hn rfl
  obtain ⟨oL, es, ep, hL, rr⟩ := r.fr.ns
  refine ⟨pre ++ post, ⟨frs, t, p1, p2, ⟨⟨oL, es, ep, hs _ _ (Ne.symm D.2.1) hL, rr⟩, fun b x q => hs b x (fun z => ?_) (r.fr.keep b x q), r.fr.above⟩, ⟨z.1.trans r.z.1, z.2.trans r.z.2⟩, r.up, r.mu.monoL lst, fun q hq => ?_, ?_⟩, lst, oth⟩
  · have := D.2.2; rw [← z, q] at this; cases this
  · have hq' : q ∈ pre ++ (post ++ (t ++ (p1 ++ (p2 ++ frs)))) := by simpa using hq
    rcases List.mem_append.mp hq' with z | z
    · have P := N q (List.mem_append_left _ z); exact ⟨hs _ _ (n1 q z) P.1, P.2⟩
    · have P := N q (List.mem_append_right _ (.tail _ z)); exact ⟨hs _ _ (n2 q z) P.1, P.2⟩
  · rw [show (pre ++ post) ++ (t ++ (p1 ++ (p2 ++ frs))) = pre ++ (post ++ (t ++ (p1 ++ (p2 ++ frs)))) by simp]
    refine List.Nodup.sublist ?_ nd
    simp only [List.map_append, List.map_cons]
    exact List.Sublist.append_left (List.sublist_cons_self _ _) _

section
variable {X : Loc} {S : Sems} {Γ : Funs}

theorem for_run (T : X.Ok) (hB : SndS X S.s) {x : Str} {px : Pos} {body : List Stmt} (hx : isLoc X.sc x = true) {κ : AFlow → LEnv → G → Prop} {vals : List AV} {it : Addr} {Iat : Nat → Obj → Prop} {imm0 : Led} (hcls : ∀ i o, Iat i o → o.cls ≠ .type "list")
    (next : ∀ i (s : Shared) m imm g o (E : Value → Shared → Prop) (Q : Option Value → Shared → Prop), X.R s m imm g → (∀ a vs n, (a, LO vs n) ∈ imm0 → (a, LO vs n) ∈ imm) → s.heap.get? it = some o → Iat i o → ∀ hi : i < vals.length, (∀ v o' (s' : Shared), Heap.SameBut it s.heap s'.heap → s'.heap.get? it = some o' → (s'.gens = s.gens ∧ s'.os = s.os) → Iat (i + 1) o' → X.V' imm vals[i] v → Q (some v) s') → wpAny X.M X.A (pyNext (.ref it)) Q E s)
    (last : ∀ (s : Shared) m imm g o (E : Value → Shared → Prop) (Q : Option Value → Shared → Prop), X.R s m imm g → (∀ a vs n, (a, LO vs n) ∈ imm0 → (a, LO vs n) ∈ imm) → s.heap.get? it = some o → Iat vals.length o → (∀ (s' : Shared), Heap.ExtBut it s.heap s'.heap → (s'.gens = s.gens ∧ s'.os = s.os) → Q none s') → wpAny X.M X.A (pyNext (.ref it)) Q E s)
    {RR : Result → Shared → Prop} {s : Shared} {m : Str → Option Value} {g : G} {ρ : LEnv} {o : Obj} (h : forA S x body vals ρ g κ) (R : X.R s m ((it, o) :: imm0) g) (re : X.Re m ((it, o) :: imm0) ρ) (hi0 : Iat 0 o) (h0 : ∀ q ∈ imm0, q.1 ≠ it)
    (k : SCont X imm0 κ fun fl s' => RR (.ok fl) s') : codeAny X.M X.A (.forLoop (.Name x px) (.ref it) body [] X.env) RR s := by
  refine codeAny_forLoop (fun n s' => ∃ i m' imm' g' ρ' o', n + i = vals.length ∧ forA S x body (vals.drop i) ρ' g' κ ∧ X.R s' m' imm' g' ∧ X.Re m' imm' ρ' ∧ imm0 ⊆ imm' ∧ (it, o') ∈ imm' ∧ Iat i o') ?_ vals.length
    ⟨0, m, _, g, ρ, o, rfl, by simpa using h, R, re, fun _ z => List.mem_cons_of_mem _ z, List.mem_cons_self .., hi0⟩
  rintro n s1 ⟨i, m1, imm1, g1, ρ1, o1, hn, h1, R1, re1, hs1, ho1, hi1⟩
  have hat := R1.imm_at ho1
  have lst0 : ∀ a vs n, (a, LO vs n) ∈ imm0 → (a, LO vs n) ∈ imm1 := fun a vs n z => hs1 z
  by_cases hlt : i < vals.length
  · refine next i s1 m1 imm1 g1 o1 _ _ R1 lst0 hat hi1 hlt fun v o2 s2 hsb hat2 hz2 hi2 rv => ?_
    obtain ⟨imm2, R2, hm2, lst, oth⟩ := R1.turn (I := it) ho1 (hcls _ _ hi1) hsb hat2 hz2
    rw [List.drop_eq_getElem_cons hlt] at h1
    unfold forA at h1
    refine wpAny_assign_Name (storeA T R2 (re1.monoL lst) hx (rv.monoL lst) fun s3 m3 R3 re3 => ?_)
    refine hB _ _ _ _ h1 R3 re3 (fun fl afl ρ' g' s' m' imm' hs R' re' rf h' => ?_) (fun _ _ _ _ _ _ _ _ _ _ _ h' => h'.elim)
    have sub : imm0 ⊆ imm' := fun q hq => hs (oth q (hs1 hq) (h0 q hq))
    cases rf with
    | next => exact ⟨n - 1, by omega, i + 1, m', imm', g', ρ', o2, by omega, h', R', re', sub, hs hm2, hi2⟩
    | brk => exact k _ _ _ _ _ _ _ sub R' re' .next h'
    | ret av v rv => exact k _ _ _ _ _ _ _ sub R' re' (.ret av v rv) h'
  · have hin : i = vals.length := by omega
    subst hin
    refine last s1 m1 imm1 g1 o1 _ _ R1 lst0 hat hi1 fun s2 hext hz2 => wpAny_execs_nil ?_
    obtain ⟨imm2, R2, lst, oth⟩ := R1.drop (I := it) ho1 (hcls _ _ hi1) hext hz2
    rw [List.drop_length] at h1
    exact k _ _ _ _ _ _ _ (fun q hq => oth q (hs1 hq) (h0 q hq)) R2 (re1.monoL lst) .next h1

theorem forList_ok (T : X.Ok) (hB : SndS X S.s) {x : Str} {px : Pos} {body : List Stmt} (hx : isLoc X.sc x = true) {κ : AFlow → LEnv → G → Prop} {avs : List AV} {v : Value} {E : Value → Shared → Prop} {Q : Flow → Shared → Prop} {s : Shared} {m : Str → Option Value} {imm : Led} {g : G} {ρ : LEnv}
    (h : forA S x body avs ρ g κ) (R : X.R s m imm g) (re : X.Re m imm ρ) (rv : X.V' imm (.list avs) v) (k : SCont X imm κ Q) :
    wpAny X.M X.A (pyIter v) (fun it s₂ => codeAny X.M X.A (.forLoop (.Name x px) it body [] X.env) (fun r s' => match r with | .ok f => Q f s' | .error e => cameBackBy X.M X.A X.env E e s') s₂) E s := by
  cases rv
  rename_i a vs n at_ hl hr hn
  refine wpAny_pyIter_list (R.list_at at_) ?_
  have R1 := R.push (tk := s.toks) (o := { cls := .type "list_iterator", data := .fields #[.ref a, .int 0 0] }) rfl
  have h0 : ∀ q ∈ imm, q.1 ≠ s.heap.objs.size := fun q hq e => by
    have := Heap.lt_size (R.imm_at hq)
    rw [e] at this
    exact absurd this (Nat.lt_irrefl _)
  have hsub : imm ⊆ (s.heap.objs.size, ({ cls := .type "list_iterator", data := .fields #[.ref a, .int 0 0] } : Obj)) :: imm := fun _ z => List.mem_cons_of_mem _ z
  refine for_run T hB hx (Iat := fun i o => o.cls = .type "list_iterator" ∧ o.data = .fields #[.ref a, .int i 0]) (it := s.heap.objs.size) (imm0 := imm) (vals := avs) (fun i o ho => by rw [ho.1]; decide) ?_ ?_ h R1 (re.mono hsub) ⟨rfl, rfl⟩ h0 fun fl afl ρ' g' s' m' imm' hs R' re' rf h' => k fl afl ρ' g' s' m' imm' hs R' re' rf h'
  · intro i s1 m1 imm1 g1 o1 E1 Q1 R1 lst hat hi hlt kk
    have hv : i < vs.length := by rw [← hl]; exact hlt
    have at1 := lst _ _ _ at_
    refine wpAny_pyNext_list_item ⟨o1, hat, hi.1, hi.2⟩ (R1.list_at at1) (x := vs[i]) (by simpa using List.getElem?_eq_getElem hv) fun h' hit hsb => ?_
    obtain ⟨o2, ho2, hc2, hd2⟩ := hit
    refine kk _ o2 { s1 with heap := h' } hsb ho2 ⟨rfl, rfl⟩ ⟨hc2, hd2⟩ ?_
    exact RepV.monoL (imm := imm) lst (hr i _ _ (List.getElem?_eq_getElem hlt) (List.getElem?_eq_getElem hv))
  · intro s1 m1 imm1 g1 o1 E1 Q1 R1 lst hat hi kk
    have at1 := lst _ _ _ at_
    exact wpAny_pyNext_list_end T.handled ⟨o1, hat, hi.1, hi.2⟩ (R1.list_at at1) (by simp; omega) fun h' hext => kk { s1 with heap := h' } hext ⟨rfl, rfl⟩

theorem whileA_ok (hB : SndS X S.s) {body : List Stmt} {k0 : Nat} {cpos : Pos} {kc : Nat} {κ : AFlow → LEnv → G → Prop} {Q : Flow → Shared → Prop} {E : Value → Shared → Prop} {pos : Pos} {s : Shared} {m : Str → Option Value} {imm : Led} {g : G} {ρ : LEnv} (h : whileA S body k0 ρ g κ) (R : X.R s m imm g) (re : X.Re m imm ρ)
    (k : SCont X imm κ Q) : wpAny X.M X.A (exec (.While (.Constant (.bool true) kc cpos) body [] pos) X.env) Q E s := by
  refine wpAny_While (codeAny_whileLoop (fun n s' => ∃ m' imm' g' ρ', whileA S body n ρ' g' κ ∧ X.R s' m' imm' g' ∧ X.Re m' imm' ρ' ∧ imm ⊆ imm') ?_ k0 ⟨m, imm, g, ρ, h, R, re, fun _ z => z⟩)
  rintro n s1 ⟨m1, imm1, g1, ρ1, h1, R1, re1, hs1⟩
  refine isTrue_plain (wpAny_Constant_bool (wpAny_truthy_bool ?_))
  rw [if_pos rfl]
  cases n with
  | zero => exact h1.elim
  | succ n =>
    unfold whileA at h1
    refine hB _ _ _ _ h1 R1 re1 (fun fl afl ρ' g' s' m' imm' hs R' re' rf h' => ?_) (fun _ _ _ _ _ _ _ _ _ _ _ h' => h'.elim)
    have sub : imm ⊆ imm' := fun q hq => hs (hs1 hq)
    cases rf with
    | next => exact ⟨n, by omega, m', imm', g', ρ', h', R', re', sub⟩
    | brk => exact k _ _ _ _ _ _ _ sub R' re' .next h'
    | ret av v rv => exact k _ _ _ _ _ _ _ sub R' re' (.ret av v rv) h'
end
end Mine

end

-- EvS14
section
open PySem PySem.W PyProof.Rows PySem.Calls PySem.Spec
set_option Elab.async false
set_option maxRecDepth 100000
set_option maxHeartbeats 0
set_option linter.all false
namespace Mine

abbrev rItObj (x left c : Int) : Obj := { cls := .type "range_iterator", dict := none, data := .fields #[rawInt x, rawInt left, rawInt c], slots := #[] }
theorem size_nonneg (a b c : Int) : 0 ≤ Builtin.Range.rangeSize a b c := by
  unfold Builtin.Range.rangeSize
  split <;> split <;> first | omega | (have := Int.ediv_nonneg (a := b - a - 1) (b := c) (by omega) (by omega); omega) | (have := Int.ediv_nonneg (a := a - b - 1) (b := -c) (by omega) (by omega); omega)
theorem size_one (a b : Int) : Builtin.Range.rangeSize a b 1 = if a < b then b - a else 0 := by
  unfold Builtin.Range.rangeSize
  rw [if_pos (by decide)]
  split
  · rw [Int.ediv_one]; omega
  · rfl
theorem size_neg (a b : Int) : Builtin.Range.rangeSize a b (-1) = if a > b then a - b else 0 := by
  unfold Builtin.Range.rangeSize
  rw [if_neg (by decide)]
  split
  · rw [show (-(-1) : Int) = 1 by rfl, Int.ediv_one]; omega
  · rfl
theorem small_ok {a b c : Int} (ha : fitI a) (hb : fitI b) (hc : c = 1 ∨ c = -1) : Builtin.Range.small a b c = true := by
  unfold fitI at *
  unfold Builtin.Range.small Builtin.Range.rangeFitsLong
  rcases hc with rfl | rfl
  · rw [size_one]
    simp only [Bool.and_eq_true, Bool.or_eq_true, decide_eq_true_eq, beq_iff_eq]
    split <;> simp <;> omega
  · rw [size_neg]
    simp only [Bool.and_eq_true, Bool.or_eq_true, decide_eq_true_eq, beq_iff_eq]
    split <;> simp <;> omega
theorem rangeI_len (a b c : Int) : (rangeI a b c).length = (Builtin.Range.rangeSize a b c).toNat := by
  unfold rangeI
  rw [List.length_map]
  exact List.length_range
theorem rangeI_at (a b c : Int) (i : Nat) (hi : i < (rangeI a b c).length) : (rangeI a b c)[i] = .int (a + (i : Int) * c) := by
  apply Option.some.inj
  rw [← List.getElem?_eq_getElem]
  rw [rangeI_len] at hi
  show ((List.range (Builtin.Range.rangeSize a b c).toNat).map fun (i : Nat) => AV.int (a + (i : Int) * c))[i]? = _
  rw [List.getElem?_map, List.getElem?_range hi]
  rfl

section
variable {X : Loc} {S : Sems} {Γ : Funs}

theorem rangeIter_ok (T : X.Ok) (hB : SndS X S.s) {x : Str} {px : Pos} {body : List Stmt} (hx : isLoc X.sc x = true) {κ : AFlow → LEnv → G → Prop} {a b c : Int} {t u v : Tok} {r : Addr} {E : Value → Shared → Prop} {Q : Flow → Shared → Prop} {s : Shared} {m : Str → Option Value} {imm : Led} {g : G} {ρ : LEnv}
    (hsm : Builtin.Range.small a b c = true) (hr : IsRange s.heap r a b c t u v) (h : forA S x body (rangeI a b c) ρ g κ) (R : X.R s m imm g) (re : X.Re m imm ρ) (k : SCont X imm κ Q) :
    wpAny X.M X.A (pyIter (.ref r)) (fun it s₂ => codeAny X.M X.A (.forLoop (.Name x px) it body [] X.env) (fun r s' => match r with | .ok f => Q f s' | .error e => cameBackBy X.M X.A X.env E e s') s₂) E s := by
  refine wpAny_pyIter_range hr hsm ?_
  have R1 := R.push (tk := s.toks) (o := rItObj a (Builtin.Range.rangeSize a b c) c) rfl
  have h0 : ∀ q ∈ imm, q.1 ≠ s.heap.objs.size := fun q hq e => by
    have := Heap.lt_size (R.imm_at hq)
    rw [e] at this
    exact absurd this (Nat.lt_irrefl _)
  have hsub : imm ⊆ (s.heap.objs.size, rItObj a (Builtin.Range.rangeSize a b c) c) :: imm := fun _ z => List.mem_cons_of_mem _ z
  have hpos := size_nonneg a b c
  refine for_run T hB hx (Iat := fun i o => o = rItObj (a + (i : Int) * c) (Builtin.Range.rangeSize a b c - (i : Int)) c) (it := s.heap.objs.size) (imm0 := imm) (vals := rangeI a b c) (fun i o ho => by rw [ho]; show Value.type "range_iterator" ≠ .type "list"; decide) ?_ ?_ h R1 (re.mono hsub) (by simp) h0 fun fl afl ρ' g' s' m' imm' hs R' re' rf h' => k fl afl ρ' g' s' m' imm' hs R' re' rf h'
  · intro i s1 m1 imm1 g1 o1 E1 Q1 R1 lst hat hi hlt kk
    subst hi
    have hlt' := hlt
    rw [rangeI_len] at hlt'
    refine wpAny_pyNext_range_item hat (by omega) fun h' hit hsb => ?_
    refine kk _ _ { s1 with heap := h', toks := s1.toks + 1 } hsb hit ⟨rfl, rfl⟩ ?_ ?_
    · have e1 : a + ((i + 1 : Nat) : Int) * c = a + (i : Int) * c + c := by push_cast; rw [Int.add_mul, Int.one_mul, Int.add_assoc]
      have e2 : Builtin.Range.rangeSize a b c - ((i + 1 : Nat) : Int) = Builtin.Range.rangeSize a b c - (i : Int) - 1 := by push_cast; omega
      rw [e1, e2]
    · rw [rangeI_at]; exact .int _ _
  · intro s1 m1 imm1 g1 o1 E1 Q1 R1 lst hat hi kk
    subst hi
    refine wpAny_pyNext_range_end T.handled hat ?_ fun h' hext => kk { s1 with heap := h' } hext ⟨rfl, rfl⟩
    rw [rangeI_len]
    omega

theorem rangeFor_ok (T : X.Ok) (hS : SndE X S.e) (hB : SndS X S.s) {x : Str} {px p0 pos : Pos} {body : List Stmt} {args : List Expr} (hx : isLoc X.sc x = true) (hg : isGlob X.sc s46 = true) (hp : args.all (fun e => match e with | .Starred .. => false | _ => true) = true)
    {κ : AFlow → LEnv → G → Prop} {E : Value → Shared → Prop} {Q : Flow → Shared → Prop} {s : Shared} {m : Str → Option Value} {imm : Led} {g : G} {ρ : LEnv}
    (h : esA S args ρ g fun vs g => rangeA vs fun l => forA S x body l ρ g κ) (R : X.R s m imm g) (re : X.Re m imm ρ) (k : SCont X imm κ Q) :
    wpAny X.M X.A (eval (.Call (.Name s46 p0) args [] pos) X.env) (fun xv s₁ => wpAny X.M X.A (pyIter xv) (fun it s₂ => codeAny X.M X.A (.forLoop (.Name x px) it body [] X.env) (fun r s' => match r with | .ok f => Q f s' | .error e => cameBackBy X.M X.A X.env E e s') s₂) E s₁) E s := by
  refine Call_ (nameB_ok T R hg (by simp) boot_range ?_)
  cases args with
  | nil => exact h.elim
  | cons e es =>
    have hp' := hp
    simp only [List.all_cons, Bool.and_eq_true] at hp
    refine callWith_type1 (esA_ok hS hp' h R re fun vs avs g1 s1 i1 hs1 R1 rl h1 => ?_) (star_plain hp.1) (stars_plain hp.2)
    have kk : SCont X i1 κ Q := fun fl afl ρ' g' s' m' imm' hs R' re' rf h' => k fl afl ρ' g' s' m' imm' (fun _ z => hs (hs1 z)) R' re' rf h'
    unfold rangeA at h1
    split at h1
    · have h1 := guard_iff.mp h1
      obtain ⟨v, us, rfl, r1, r2⟩ := rl.cons_inv
      rw [r2.nil_inv]
      cases r1
      refine call_range_1 ?_
      exact rangeIter_ok T hB hx (small_ok (by unfold fitI; omega) h1.1 (.inl rfl)) (IsRange.new ..) h1.2 (R1.push rfl) ((re.mono hs1).mono fun _ z => List.mem_cons_of_mem _ z)
        fun fl afl ρ' g' s' m' imm' hs R' re' rf h' => kk fl afl ρ' g' s' m' imm' (fun _ z => hs (List.mem_cons_of_mem _ z)) R' re' rf h'
    · have h1 := guard_iff.mp h1
      obtain ⟨v, us, rfl, r1, r2⟩ := rl.cons_inv
      obtain ⟨v2, us2, rfl, r3, r4⟩ := r2.cons_inv
      rw [r4.nil_inv]
      cases r1
      cases r3
      refine call_range_2 ?_
      exact rangeIter_ok T hB hx (small_ok h1.1.1 h1.1.2 (.inl rfl)) (IsRange.new ..) h1.2 (R1.push rfl) ((re.mono hs1).mono fun _ z => List.mem_cons_of_mem _ z)
        fun fl afl ρ' g' s' m' imm' hs R' re' rf h' => kk fl afl ρ' g' s' m' imm' (fun _ z => hs (List.mem_cons_of_mem _ z)) R' re' rf h'
    · have h1 := guard_iff.mp h1
      obtain ⟨v, us, rfl, r1, r2⟩ := rl.cons_inv
      obtain ⟨v2, us2, rfl, r3, r4⟩ := r2.cons_inv
      obtain ⟨v3, us3, rfl, r5, r6⟩ := r4.cons_inv
      rw [r6.nil_inv]
      cases r1
      cases r3
      cases r5
      obtain ⟨⟨rfl, ha, hb⟩, h2⟩ := h1
      refine call_range_3 (by decide) ?_ (.inl (by unfold Builtin.divisionGoesByPylong; rfl))
      exact rangeIter_ok T hB hx (small_ok ha hb (.inr rfl)) (IsRange.new ..) h2 (R1.push rfl) ((re.mono hs1).mono fun _ z => List.mem_cons_of_mem _ z)
        fun fl afl ρ' g' s' m' imm' hs R' re' rf h' => kk fl afl ρ' g' s' m' imm' (fun _ z => hs (List.mem_cons_of_mem _ z)) R' re' rf h'
    · exact h1.elim
end
end Mine

end

-- EvC1
section
open PySem PySem.W PyProof.Rows PySem.Calls PySem.Spec
set_option Elab.async false
set_option maxRecDepth 100000
set_option maxHeartbeats 0
set_option linter.all false
namespace Mine

theorem closure_none {scope : Scope} {env : Env} (h : scope.names.all (fun z => z.2 == .local) = true) : closureFor scope env = pure [] := by
  unfold closureFor
  have go : ∀ l : List (Str × NameKind), l.all (fun z => z.2 == .local) = true → (forIn l ([] : List (Str × Addr)) fun (x : Str × NameKind) r => do
      if (x.2 == NameKind.free) = true then do
        let c ← cellOf env x.1
        pure (ForInStep.yield ((x.1, c) :: r))
      else pure (ForInStep.yield r)) = (pure [] : Sem (List (Str × Addr))) := by
    intro l
    induction l with
    | nil => intro _; rfl
    | cons q r ih =>
      intro hl
      simp only [List.all_cons, Bool.and_eq_true, beq_iff_eq] at hl
      rw [List.forIn_cons]
      have : (q.2 == NameKind.free) = false := by rw [hl.1]; rfl
      rw [this]
      simp only [Bool.false_eq_true, if_false]
      show (pure (ForInStep.yield []) >>= _) = _
      exact ih hl.2
  have := go scope.names h
  simp only [] at this ⊢
  rw [this]
  rfl

section
variable {X : Loc} {S : Sems} {Γ : Funs}

theorem intsV_at : ∀ {vs : List Value} {ns : List Int} {i : Nat} {v : Value}, IntsAre vs ns → vs[i]? = some v → ∃ n t, ns[i]? = some n ∧ v = .int n t
  | _, _, _, _, .nil, h => by simp at h
  | _, _, 0, v, .cons n t _, h => by simp at h; exact ⟨n, t, rfl, h.symm⟩
  | _, _, i + 1, v, .cons n t r, h => by
    obtain ⟨a, b, c, d⟩ := intsV_at r (i := i) (v := v) (by simpa using h)
    exact ⟨a, b, by simpa using c, d⟩
theorem ints_snoc : ∀ {vs : List Value} {ns : List Int} {n : Int} {t : Tok}, IntsAre vs ns → IntsAre (vs ++ [.int n t]) (ns ++ [n])
  | _, _, n, t, .nil => .cons n t .nil
  | _, _, _, _, .cons a b r => .cons a b (ints_snoc r)

theorem compRest_ok {prog : Program} {w : World} {A : Around} {h₀ : Heap} {L : Addr} {m : Str → Option Value} {env : Env} {x : Str} {scope : Scope} {cl : List (Str × Addr)} {s : Shared} {Sx : List (Addr × Obj) → Prop} {Fin : List Value → List (Addr × Obj) → Prop} {vs : List Value} {ns : List Int} {kk : Int} {kn : Nat} {p1 p2 p3 : Pos} {news : List (Addr × Obj)}
    (hI : IntsAre vs ns) (hk : kk ≠ 0) (hkind : (compEnvC scope cl L env).scope.kind = .function) (hx : scope.names.lookup x = some .local) (hdb : (x == Str.ofString "__debug__") = false) (hS : Sx news)
    (fin : ∀ ys, IntsAre ys (ns.map fun n => Int.fmod n kk) → Fin ys news) :
    ∀ (k i : Nat) (ys : List Value), k + i = vs.length → IntsAre ys ((ns.take i).map fun n => Int.fmod n kk) → LCg.CompRest prog w A h₀ L m env (.BinOp (.Name x p1) .Mod (.Constant (.int kk) kn p2) p3) x scope cl s Sx (fun i v => vs.toArray[i]? = some v) Fin k i ys news := by
  intro k
  induction k with
  | zero =>
    intro i ys hi hy
    refine LCg.CompRest.zero (fin ys ?_)
    rw [List.take_of_length_le (by rw [← ints_len hI]; omega)] at hy
    exact hy
  | succ k ih =>
    intro i ys hi hy
    refine LCg.CompRest.succ fun v I oI C oC D m₂ h tk E' hP hns hm F N off hne => ?_
    have hv : vs[i]? = some v := by simpa using hP
    obtain ⟨n, t, hn, rfl⟩ := intsV_at hI hv
    have hC := (N (C, oC) (by simp)).1
    have hl : (compEnvC scope cl C env).kindOf x = some .local := lookup_relabel_local hx
    refine wpAny_BinOp (ldVarK (show h.Ns C m₂ from hns.ns hC) hm (wpAny_Constant_int (mod_int' hk ?_)) hkind hl hdb)
    refine LCg.CompEnd.intro F N news (fun _ z => z) off hS (ih (i + 1) _ (by omega) ?_)
    rw [List.take_succ, List.map_append, hn]
    exact ints_snoc hy

theorem comp1_ok (T : X.Ok) (hS : SndE X S.e) {y x : Str} {py p1 p2 p3 px cpos pos ic : Pos} {kk : Int} {kn : Nat} {scope : Scope} {ia ib : Expr} {ρ : LEnv} {g : G} {κ : AFlow → LEnv → G → Prop} (hc : compOk X.sc y py cpos scope x = true)
    (h : S.e (.Subscript ia ib ic) ρ g fun v g => (match v with
      | .ilist ys => guardA (kk ≠ 0) (κ .next (aput y (.ilist (ys.map fun n => Int.fmod n kk)) ρ) g)
      | _ => False)) {E : Value → Shared → Prop} {Q : Flow → Shared → Prop} {s : Shared} {m : Str → Option Value} {imm : Led}
    (R : X.R s m imm g) (re : X.Re m imm ρ) (k : SCont X imm κ Q) :
    wpAny X.M X.A (exec (.Assign [.Name y py] (.ListComp (.BinOp (.Name x p1) .Mod (.Constant (.int kk) kn p2) p3) [⟨.Name x px, .Subscript ia ib ic, [], 0⟩] scope cpos) pos) X.env) Q E s := by
  simp only [compOk, Bool.and_eq_true, beq_iff_eq, Bool.not_eq_true'] at hc
  obtain ⟨c1, c2, c3, c4, c5, c6, c7, c8⟩ := hc
  have hker : X.env.scope.kind = .function := T.kind
  refine LCg.Assign_ListComp_U R.fr rfl ?_ (closure_none c4) (fun z hz => ?_) c5 (fun z hz _ => ?_) c7 (loc_kind c1) ?_ (hS _ _ _ _ h R re fun v av g1 s1 i1 hs1 R1 rv h1 => ?_) (fun _ => rfl)
  · have hb : X.env.blockKind = .function := by unfold Env.blockKind; rw [hker]; rfl
    have hkd := loc_kind (name := X.name) (L := X.L) (a := X.a) (cd := X.cd) c1
    unfold swapsWith
    show (pure (X.env.blockKind == .function && X.env.kindOf y == some .local && py.line == cpos.line && !(scope.names.any fun (n, k) => n == y && (k == .local || k == .cell))) : Sem Bool) = pure true
    rw [hb, hkd, c2, c3]
    simp
  · have := List.all_eq_true.mp c4 z hz
    simp only [beq_iff_eq] at this
    rw [this]; decide
  · have := List.all_eq_true.mp c6 z hz
    exact beq_iff_eq.mp this
  · rw [hker]; rfl
  · cases av <;> try exact h1.elim
    rename_i ys
    dsimp only at h1
    obtain ⟨hk0, h2⟩ := guard_iff.mp h1
    cases rv
    rename_i a vs n at_ hI hln
    obtain ⟨frs, tt, p1, p2, r⟩ := R1
    have hvl := ints_len hI
    refine LCg.CompSrc.ledger (k := n) T.handled r.fr r.news (List.mem_append_left _ at_) (by rw [List.size_toArray, hvl]; show ys.length ≤ 2 ^ 24; exact Nat.le_trans hln (by decide)) fun gg => ?_
    rw [List.size_toArray]
    refine compRest_ok (vs := vs) (ns := ys) hI hk0 c5 c7 c8 (.inr ⟨_, List.mem_append_left _ at_, rfl, n, rfl⟩) (fun zs hz => ?_) vs.length 0 [] (by omega) .nil
    intro D h' tk F' N' off
    have hsub : i1 ⊆ (D, LO zs zs.length) :: i1 := fun _ z => List.mem_cons_of_mem _ z
    have off1 : ∀ (l : List (Addr × Obj)), LCg.Off1 D l → ∀ q ∈ l, q.1 ≠ D := by
      intro l
      induction l with
      | nil => intro _ q hq; cases hq
      | cons a b ih =>
        intro ho q hq
        rcases List.mem_cons.mp hq with rfl | hq
        · exact ho.1
        · exact ih ho.2 q hq
    refine k _ _ (aput y (.ilist (ys.map fun n => Int.fmod n kk)) ρ) g1 { s1 with heap := h', toks := tk } _ ((D, LO zs zs.length) :: i1) (fun _ z => hsub (hs1 z)) ⟨frs, tt, p1, p2, F', r.z, r.up, r.mu.mono hsub, N', ?_⟩ ?_ .next h2
    · rw [List.cons_append, List.map_cons, List.nodup_cons]
      refine ⟨fun hm => ?_, r.nd⟩
      obtain ⟨q, hq, e'⟩ := List.mem_map.mp hm
      exact off1 _ off q hq e'
    · intro z bv hy
      rw [aget_aput] at hy
      show ∃ v, (if z = y then some (Value.ref D) else m z) = some v ∧ _
      by_cases e : z = y
      · rw [if_pos e] at hy ⊢
        cases hy
        exact ⟨_, rfl, .ilist D _ zs zs.length hz (List.mem_cons_self ..) (by rw [List.length_map]; exact hln)⟩
      · rw [if_neg e] at hy ⊢
        obtain ⟨u, h3, h4⟩ := re z bv hy
        exact ⟨u, h3, h4.mono fun _ z => hsub (hs1 z)⟩

theorem compA_ok (T : X.Ok) (hS : SndE X S.e) {t e : Expr} {pos : Pos} {ρ : LEnv} {g : G} {κ : AFlow → LEnv → G → Prop} (h : compA X.sc S t e ρ g κ) {E : Value → Shared → Prop} {Q : Flow → Shared → Prop} {s : Shared} {m : Str → Option Value} {imm : Led}
    (R : X.R s m imm g) (re : X.Re m imm ρ) (k : SCont X imm κ Q) : wpAny X.M X.A (exec (.Assign [t] e pos) X.env) Q E s := by
  unfold compA at h
  split at h
  · split at h
    · rename_i hc
      simp only [Bool.and_eq_true, beq_iff_eq] at hc
      obtain ⟨hc, rfl⟩ := hc
      exact comp1_ok T hS hc h R re k
    · exact h.elim
  · exact h.elim
end
end Mine

end

-- EvS15
section
open PySem PySem.W PyProof.Rows PySem.Calls PySem.Spec
set_option Elab.async false
set_option maxRecDepth 100000
set_option maxHeartbeats 0
set_option linter.all false
namespace Mine
section
variable {X : Loc} {S : Sems} {Γ : Funs}

theorem noswap {e : Expr} {t : Option Expr} {n : Nat} {env : Env} (h : noSwap e = true) : swapsWith e t n env = pure false := by
  cases e <;> first | rfl | cases h
theorem notInteractive (T : X.Ok) : interactive X.env = false := by
  unfold interactive
  show (X.sc.kind == .module && _) = false
  rw [T.kind]; rfl

theorem putsA_len : ∀ {ts : List Expr} {l : List AV} {ρ : LEnv} {κ : LEnv → Prop}, putsA X.sc ts l ρ κ → (assignEach ts X.env).length = l.length ∧ (assignEach ts X.env).findIdx? (·.1) = none := by
  intro ts
  induction ts with
  | nil =>
    intro l ρ κ h
    cases l with
    | nil => exact ⟨rfl, rfl⟩
    | cons _ _ => exact h.elim
  | cons t r ih =>
    intro l ρ κ h
    cases t <;> try (cases l <;> exact h.elim)
    cases l with
    | nil => exact h.elim
    | cons v vs =>
      unfold putsA at h
      split at h
      · obtain ⟨h1, h2⟩ := ih h
        refine ⟨?_, ?_⟩
        · show (assignEach r X.env).length + 1 = _
          rw [h1]; rfl
        · show List.findIdx? (·.1) ((false, _) :: assignEach r X.env) = none
          rw [List.findIdx?_cons]
          simp [h2]
      · exact h.elim
theorem putsA_ok (T : X.Ok) {imm : Led} {g : G} {E : Value → Shared → Prop} {Q : Unit → Shared → Prop} {κ : LEnv → Prop} : ∀ {ts : List Expr} {l : List AV} {vs : List Value} {ρ : LEnv} {s : Shared} {m : Str → Option Value}, putsA X.sc ts l ρ κ → RepL X.hb X.W imm l vs → X.R s m imm g → X.Re m imm ρ →
    (∀ s' m' ρ', X.R s' m' imm g → X.Re m' imm ρ' → κ ρ' → Q () s') → wpAny X.M X.A (assignInOrder ((assignEach ts X.env).map (·.2)) vs) Q E s := by
  intro ts
  induction ts with
  | nil =>
    intro l vs ρ s m h rl R re k
    cases l with
    | nil => rw [rl.nil_inv]; exact wpAny_pure (k _ _ _ R re h)
    | cons _ _ => exact h.elim
  | cons t r ih =>
    intro l vs ρ s m h rl R re k
    cases t <;> try (cases l <;> exact h.elim)
    cases l with
    | nil => exact h.elim
    | cons v vs' =>
      unfold putsA at h
      split at h
      · rename_i hx
        obtain ⟨u, us, rfl, r1, r2⟩ := rl.cons_inv
        show wpAny X.M X.A (assignInOrder (assign (.Name _ _) X.env :: ((assignEach r X.env).map (·.2))) (u :: us)) Q E s
        unfold assignInOrder
        exact wpAny_bind (wpAny_holding (wpAny_assign_Name (storeA T R re hx r1 fun s1 m1 R1 re1 => ih h r2 R1 re1 k)))
      · exact h.elim

theorem st1A_ok (T : X.Ok) (hΓ : X.FOk Γ) (hS : SndE X S.e) (hT : SndT X S.t) (hB : SndS X S.s) : SndSt X (st1A X.sc S) := by
  intro st ρ g κ h E Q s m imm R re k kx
  unfold st1A at h
  split at h
  · exact wpAny_Pass (k _ _ _ _ _ _ _ (fun _ z => z) R re .next h)
  · exact wpAny_Break (k _ _ _ _ _ _ _ (fun _ z => z) R re .brk h)
  · exact wpAny_Return_some (hS _ _ _ _ h R re fun v av g1 s1 i1 hs1 R1 rv h1 => k _ _ _ _ _ _ _ hs1 R1 (re.mono hs1) (.ret av v rv) h1)
  · exact wpAny_Return_none (k _ _ _ _ _ _ _ (fun _ z => z) R re (.ret _ _ .none) h)
  · split at h
    · exact wpAny_Expr_any (hS _ _ _ _ h R re fun v av g1 s1 i1 hs1 R1 rv h1 => k _ _ _ _ _ _ _ hs1 R1 (re.mono hs1) .next h1) (notInteractive T) rfl
    · exact h.elim
  · refine wpAny_Assert_holds (hT _ _ _ _ h R re fun c g1 s1 i1 hs1 R1 h1 => ?_)
    cases c with
    | true => exact ⟨rfl, k _ _ _ _ _ _ _ hs1 R1 (re.mono hs1) .next h1⟩
    | false => exact h1.elim
  · refine wpAny_If (hT _ _ _ _ h R re fun c g1 s1 i1 hs1 R1 h1 => ?_)
    have k1 : SCont X i1 κ Q := fun fl afl ρ' g' s' m' imm' hs R' re' rf h' => k fl afl ρ' g' s' m' imm' (fun _ z => hs (hs1 z)) R' re' rf h'
    have kx1 : SExc X i1 κ E := fun e ρ' g' s' h' m' imm' hs R' re' hx h'' => kx e ρ' g' s' h' m' imm' (fun _ z => hs (hs1 z)) R' re' hx h''
    cases c with
    | true => rw [if_pos rfl]; exact hB _ _ _ _ h1 R1 (re.mono hs1) k1 kx1
    | false => rw [if_neg (by decide)]; exact hB _ _ _ _ h1 R1 (re.mono hs1) k1 kx1
  · split at h
    · exact whileA_ok hB h R re k
    · exact h.elim
  · split at h
    · exact h.elim
    · rename_i hx
      split at h
      · split at h
        · rename_i hg
          simp only [Bool.and_eq_true, beq_iff_eq] at hg
          obtain ⟨⟨hg, rfl⟩, hp⟩ := hg
          simp only [plainArgs, Bool.and_eq_true] at hp
          exact wpAny_For (rangeFor_ok T hS hB hx hg hp.1 h R re k) (fun _ => rfl)
        · exact h.elim
      · refine wpAny_For (hS _ _ _ _ h R re fun v av g1 s1 i1 hs1 R1 rv h1 => ?_) (fun _ => rfl)
        cases av <;> try exact h1.elim
        exact forList_ok T hB hx h1 R1 (re.mono hs1) rv fun fl afl ρ' g' s' m' imm' hs R' re' rf h' => k fl afl ρ' g' s' m' imm' (fun _ z => hs (hs1 z)) R' re' rf h'
      · refine wpAny_For (hS _ _ _ _ h R re fun v av g1 s1 i1 hs1 R1 rv h1 => ?_) (fun _ => rfl)
        cases av <;> try exact h1.elim
        exact forList_ok T hB hx h1 R1 (re.mono hs1) rv fun fl afl ρ' g' s' m' imm' hs R' re' rf h' => k fl afl ρ' g' s' m' imm' (fun _ z => hs (hs1 z)) R' re' rf h'
      · exact h.elim
  · split at h
    · exact compA_ok T hS h R re k
    · rename_i hns
      split at h
      · split at h
        · rename_i hx
          refine wpAny_Assign_Name (hS _ _ _ _ h R re fun v av g1 s1 i1 hs1 R1 rv h1 => storeA T R1 (re.mono hs1) hx rv fun s2 m2 R2 re2 => k _ _ _ _ _ _ _ hs1 R2 re2 .next h1) (noswap hns)
        · exact h.elim
      · refine plainObj_wpAny_Assign_Attribute (hS _ _ _ _ h R re fun v av g1 s1 i1 hs1 R1 rv h1 => hS _ _ _ _ h1 R1 (re.mono hs1) fun ov oa g2 s2 i2 hs2 R2 ro h2 => ?_) (noswap hns)
        exact setA_ok T.ctx R2 ro (rv.mono hs2) h2 fun s3 g3 R3 h3 => k _ _ _ _ _ _ _ (fun _ z => hs2 (hs1 z)) R3 ((re.mono hs1).mono hs2) .next h3
      · refine wpAny_Assign_Subscript (hS _ _ _ _ h R re fun v av g1 s1 i1 hs1 R1 rv h1 => hS _ _ _ _ h1 R1 (re.mono hs1) fun ov oa g2 s2 i2 hs2 R2 ro h2 => hS _ _ _ _ h2 R2 ((re.mono hs1).mono hs2) fun iv ia g3 s3 i3 hs3 R3 ri h3 => ?_) (noswap hns)
        split at h3
        · rename_i et
          cases ro
          cases ri
          obtain ⟨⟨h0, h1', h2'⟩, h4⟩ := guard_iff.mp h3
          exact setTape_ok R3 ((rv.mono hs2).mono hs3) et h0 h1' h2' fun s4 R4 => k _ _ _ _ _ _ _ (fun _ z => hs3 (hs2 (hs1 z))) R4 (((re.mono hs1).mono hs2).mono hs3) .next h4
        · exact h3.elim
      · split at h
        · exact h.elim
        · rename_i hnt
          refine wpAny_Assign_stores (hS _ _ _ _ h R re fun v av g1 s1 i1 hs1 R1 rv h1 => ?_) (by unfold swapsWithSole; exact noswap hns) ?_
          · cases av <;> try exact h1.elim
            cases rv
            rename_i l a vs n at_ hl hr hn
            have hp := h1
            obtain ⟨q1, q2⟩ := putsA_len hp
            obtain ⟨frs, t, p1, p2, r⟩ := R1
            show wpAny X.M X.A (assign (.Tuple _ 0 _) X.env (.ref a)) _ _ _
            refine kun_list r.fr r.news (Rel.list_at ⟨frs, t, p1, p2, r⟩ at_) T.handled (by rw [q1, List.size_toArray, hl]) q2 fun h' F' N' => ?_
            exact putsA_ok T (s := { s1 with heap := h' }) hp ⟨hl, hr⟩ (r.step F' N') (re.mono hs1) fun s2 m2 ρ2 R2 re2 h2 => k _ _ _ _ _ _ _ hs1 R2 re2 .next h2
          · unfold swappedStores
            split
            · rename_i q
              split at q
              · rename_i e1 e2
                exact absurd rfl (hnt _ _ _)
              · rename_i e1 e2
                exact absurd rfl (hnt _ _ _)
              · cases q
            · rfl
      · exact h.elim
  · split at h
    · split at h
      · rename_i hx
        unfold nameA at h
        split at h
        · obtain ⟨av, hv, h⟩ := elim_iff.mp h
          · obtain ⟨v, h1, h2⟩ := re _ _ hv
            refine wpAny_AugAssign_Name (wpAny_loadName_local T.kind (loc_kind hx) R.fr.ns h1 (hS _ _ _ _ h R re fun vb b g1 s1 i1 hs1 R1 rb h3 => ?_))
            have ra := RepV.mono hs1 h2
            unfold augA at h3
            split at h3
            · cases ra; cases rb
              exact P.iadd_int (storeA (s := { s1 with toks := s1.toks + 1 }) T R1.tk (re.mono hs1) hx (.int _ _) fun s2 m2 R2 re2 => k _ _ _ _ _ _ _ hs1 R2 re2 .next h3)
            · cases ra; cases rb
              exact P.isub_int (storeA (s := { s1 with toks := s1.toks + 1 }) T R1.tk (re.mono hs1) hx (.int _ _) fun s2 m2 R2 re2 => k _ _ _ _ _ _ _ hs1 R2 re2 .next h3)
            · exact h3.elim
        · rename_i e1 e2
          unfold isLoc at hx
          rw [e2] at hx
          cases hx
        · exact h.elim
      · exact h.elim
    · refine wpAny_AugAssign_AttributeAny (hS _ _ _ _ h R re fun ov oa g1 s1 i1 hs1 R1 ro h1 => attrA_ok T.ctx R1 ro h1 fun a va tk h2 ra => hS _ _ _ _ h2 (s := { s1 with toks := tk }) R1.tk (re.mono hs1) fun vb b g2 s2 i2 hs2 R2 rb h3 => ?_)
      have ra := RepV.mono hs2 ra
      have ro := RepV.mono hs2 ro
      unfold augA at h3
      split at h3
      · cases ra; cases rb
        exact P.iadd_int (setA_ok (s := { s2 with toks := s2.toks + 1 }) T.ctx R2.tk ro (.int _ _) h3 fun s3 g3 R3 h4 => k _ _ _ _ _ _ _ (fun _ z => hs2 (hs1 z)) R3 ((re.mono hs1).mono hs2) .next h4)
      · cases ra; cases rb
        exact P.isub_int (setA_ok (s := { s2 with toks := s2.toks + 1 }) T.ctx R2.tk ro (.int _ _) h3 fun s3 g3 R3 h4 => k _ _ _ _ _ _ _ (fun _ z => hs2 (hs1 z)) R3 ((re.mono hs1).mono hs2) .next h4)
      · exact h3.elim
    · exact h.elim
  · split at h
    · rename_i hg
      simp only [Bool.and_eq_true, beq_iff_eq] at hg
      obtain ⟨hg, rfl⟩ := hg
      exact raise_ok T hg R fun h' e hx => kx e _ _ _ _ _ _ (fun _ z => z) R re hx h
    · exact h.elim
  · split at h
    · rename_i hg
      simp only [Bool.and_eq_true, beq_iff_eq] at hg
      obtain ⟨hg, rfl⟩ := hg
      refine wpAny_Try_except (hB _ _ _ _ h R re (fun fl afl ρ' g' s' m' imm' hs R' re' rf h' => ?_) fun e ρ' g' s' h' m' imm' hs R' re' hx h'' => ?_)
      · cases rf with
        | next => exact wpAny_execs_nil (k _ _ _ _ _ _ _ hs R' re' .next h')
        | brk => exact k _ _ _ _ _ _ _ hs R' re' .brk h'
        | ret av v rv => exact k _ _ _ _ _ _ _ hs R' re' (.ret av v rv) h'
      · exact catch_ok T hg R' hx fun s2 R2 => k _ _ _ _ _ _ _ hs R2 re' .next h''
    · exact h.elim
  · exact h.elim

theorem sA_ok (hSt : SndSt X (st1A X.sc S)) : SndS X (sA X.sc S) := by
  intro st
  induction st with
  | nil => intro ρ g κ h E Q s m imm R re k kx; exact wpAny_execs_nil (k _ _ _ _ _ _ _ (fun _ z => z) R re .next h)
  | cons st r ih =>
    intro ρ g κ h E Q s m imm R re k kx
    refine wpAny_execs_cons (hSt st ρ g _ h R re (fun fl afl ρ' g' s' m' imm' hs R' re' rf h' => ?_) fun e ρ' g' s' h' m' imm' hs R' re' hx h'' => kx e ρ' g' s' h' m' imm' hs R' re' hx h'')
    cases rf with
    | next => exact ih ρ' g' κ h' R' re' (fun fl afl ρ2 g2 s2 m2 i2 hs2 R2 re2 rf2 h2 => k _ _ _ _ _ _ _ (fun _ z => hs2 (hs z)) R2 re2 rf2 h2) fun e ρ2 g2 s2 h2 m2 i2 hs2 R2 re2 hx2 h2' => kx _ _ _ _ _ _ _ (fun _ z => hs2 (hs z)) R2 re2 hx2 h2'
    | brk => exact k _ _ _ _ _ _ _ hs R' re' .brk h'
    | ret av v rv => exact k _ _ _ _ _ _ _ hs R' re' (.ret av v rv) h'

theorem sems_ok (T : X.Ok) (hΓ : X.FOk Γ) : ∀ n, SndE X (sems Γ X.sc n).e ∧ SndT X (sems Γ X.sc n).t ∧ SndS X (sems Γ X.sc n).s
  | 0 => ⟨fun _ _ _ _ h => h.elim, fun _ _ _ _ h => h.elim, fun _ _ _ _ h => h.elim⟩
  | n + 1 =>
    have ⟨a, b, c⟩ := sems_ok T hΓ n
    ⟨eA_ok T hΓ a b, tA_ok T a b, sA_ok (st1A_ok T hΓ a b c)⟩
end
end Mine

end

-- EvS16
section
open PySem PySem.W PyProof.Rows PySem.Calls PySem.Spec
set_option Elab.async false
set_option maxRecDepth 100000
set_option maxHeartbeats 0
set_option linter.all false
namespace Mine
noncomputable section
noncomputable def fnR (r : FRow) : FuncData := fnOf r.nm r.ql (fPar r.d) (fBody r.d) (fScope r.d) .none .none .none r.pm none (.ref r.code) .none
end
theorem fr_obj (P : Params) (V : VT) : frows.map (fun r => (KF P V).lookup r.a) = frows.map (fun r => some (⟨.type "function", none, .func (fnR r), #[]⟩ : Obj)) := by kernel_rfl
theorem fr_code (P : Params) (V : VT) : frows.map (fun r => codeIn (KF P V) (.ref r.code) r.ql) = frows.map (fun _ => true) := by kernel_rfl
theorem fr_co : frows.map (fun r => (fScope r.d).isCoroutine) = frows.map (fun _ => false) := by kernel_rfl
theorem fr_gen : frows.map (fun r => (fScope r.d).isGenerator) = frows.map (fun _ => false) := by kernel_rfl
theorem fr_kind : frows.map (fun r => (fScope r.d).kind) = frows.map (fun _ => .function) := by kernel_rfl
theorem fr_cell : frows.map (fun r => (fScope r.d).names.all fun x => x.2 != .cell) = frows.map (fun _ => true) := by kernel_rfl
theorem fr_loc : frows.map (fun r => (parsOf r).all fun x => (fScope r.d).names.lookup x == some .local) = frows.map (fun _ => true) := by kernel_rfl
theorem fr_nodup : frows.map (fun r => decide ((parsOf r).Nodup)) = frows.map (fun _ => true) := by kernel_rfl
theorem fr_len : frows.map (fun r => decide ((parsOf r).length ≤ 5)) = frows.map (fun _ => true) := by kernel_rfl
theorem fr_b0 : (frows.filter fun r => (parsOf r).length == 0).map (fun r => bindArgs (fnR r) ⟨[], []⟩) = (frows.filter fun r => (parsOf r).length == 0).map (fun r => pure ((parsOf r).zip [])) := by kernel_rfl
theorem fr_b1 (a : Value) : (frows.filter fun r => (parsOf r).length == 1).map (fun r => bindArgs (fnR r) ⟨[a], []⟩) = (frows.filter fun r => (parsOf r).length == 1).map (fun r => pure ((parsOf r).zip [a])) := by kernel_rfl
theorem fr_b2 (a b : Value) : (frows.filter fun r => (parsOf r).length == 2).map (fun r => bindArgs (fnR r) ⟨[a, b], []⟩) = (frows.filter fun r => (parsOf r).length == 2).map (fun r => pure ((parsOf r).zip [a, b])) := by kernel_rfl
theorem fr_b3 (a b c : Value) : (frows.filter fun r => (parsOf r).length == 3).map (fun r => bindArgs (fnR r) ⟨[a, b, c], []⟩) = (frows.filter fun r => (parsOf r).length == 3).map (fun r => pure ((parsOf r).zip [a, b, c])) := by kernel_rfl
theorem fr_b4 (a b c d : Value) : (frows.filter fun r => (parsOf r).length == 4).map (fun r => bindArgs (fnR r) ⟨[a, b, c, d], []⟩) = (frows.filter fun r => (parsOf r).length == 4).map (fun r => pure ((parsOf r).zip [a, b, c, d])) := by kernel_rfl
theorem fr_b5 (a b c d e : Value) : (frows.filter fun r => (parsOf r).length == 5).map (fun r => bindArgs (fnR r) ⟨[a, b, c, d, e], []⟩) = (frows.filter fun r => (parsOf r).length == 5).map (fun r => pure ((parsOf r).zip [a, b, c, d, e])) := by kernel_rfl
theorem fr_bind {r : FRow} (hr : r ∈ frows) {vals : List Value} (h : (parsOf r).length = vals.length) : bindArgs (fnR r) ⟨vals, []⟩ = pure ((parsOf r).zip vals) := by
  have hl := map_at fr_len hr
  simp only [decide_eq_true_eq] at hl
  match vals, h with
  | [], h => exact map_at fr_b0 (List.mem_filter.mpr ⟨hr, by simpa using h⟩)
  | [a], h => exact map_at (fr_b1 a) (List.mem_filter.mpr ⟨hr, by simpa using h⟩)
  | [a, b], h => exact map_at (fr_b2 a b) (List.mem_filter.mpr ⟨hr, by simpa using h⟩)
  | [a, b, c], h => exact map_at (fr_b3 a b c) (List.mem_filter.mpr ⟨hr, by simpa using h⟩)
  | [a, b, c, d], h => exact map_at (fr_b4 a b c d) (List.mem_filter.mpr ⟨hr, by simpa using h⟩)
  | [a, b, c, d, e], h => exact map_at (fr_b5 a b c d e) (List.mem_filter.mpr ⟨hr, by simpa using h⟩)
  | _ :: _ :: _ :: _ :: _ :: _ :: _, h => simp at h; omega
theorem frow_mem {a : Addr} : ∀ {l : List FRow} {r : FRow}, frowOf a l = some r → r ∈ l ∧ r.a = a
  | [], r, h => by simp [frowOf] at h
  | q :: l, r, h => by
    unfold frowOf at h
    cases c : Nat.beq q.a a with
    | true =>
      rw [c] at h
      cases h
      exact ⟨List.mem_cons_self .., Nat.eq_of_beq_eq_true c⟩
    | false =>
      rw [c] at h
      have := frow_mem h
      exact ⟨List.mem_cons_of_mem _ this.1, this.2⟩

theorem rev_lookup {vals : List Value} : ∀ {ps : List Str}, ps.Nodup → ps.length = vals.length → ∀ x v, (ps.zip vals).lookup x = some v → (ps.zip vals).reverse.lookup x = some v := by
  intro ps hn hl x v h
  have mem : (x, v) ∈ (ps.zip vals) := by
    clear hn hl
    induction ps generalizing vals with
    | nil => simp at h
    | cons p r ih =>
      cases vals with
      | nil => simp at h
      | cons u us =>
        rw [List.zip_cons_cons, List.lookup_cons] at h
        split at h
        · rename_i e
          have := beq_iff_eq.mp e
          cases h
          subst this
          simp
        · rw [List.zip_cons_cons]
          exact List.mem_cons_of_mem _ (ih h)
  have keys : ((ps.zip vals).map (·.1)).Nodup := by
    rw [List.map_fst_zip (by omega)]
    exact hn
  have gen : ∀ l : List (Str × Value), (l.map (·.1)).Nodup → (x, v) ∈ l → l.lookup x = some v := by
    intro l
    induction l with
    | nil => intro _ hm; cases hm
    | cons q r ih =>
      intro hn hm
      rw [List.map_cons, List.nodup_cons] at hn
      rw [List.lookup_cons]
      rcases List.mem_cons.mp hm with rfl | hm
      · simp
      · have : (x == q.1) = false := by
          simp only [beq_eq_false_iff_ne, ne_eq]
          rintro rfl
          exact hn.1 (List.mem_map_of_mem (f := (·.1)) hm)
        rw [this]
        exact ih hn.2 hm
  refine gen _ ?_ (List.mem_reverse.mpr mem)
  rw [List.map_reverse]
  exact (List.reverse_perm _).nodup_iff.mpr keys
theorem zip_rep {hb W imm} : ∀ {ps : List Str} {avs : List AV} {vals : List Value}, RepL hb W imm avs vals → ∀ x av, aget x (ps.zip avs) = some av → ∃ v, (ps.zip vals).lookup x = some v ∧ RepV hb W imm av v := by
  intro ps
  induction ps with
  | nil => intro avs vals _ x av h; simp [aget] at h
  | cons p r ih =>
    intro avs vals rl x av h
    cases avs with
    | nil => simp [aget] at h
    | cons a as =>
      obtain ⟨v, us, rfl, r1, r2⟩ := rl.cons_inv
      rw [List.zip_cons_cons] at h ⊢
      unfold aget at h
      rw [List.lookup_cons]
      cases c : (p == x) with
      | true =>
        rw [c] at h
        have c' := beq_iff_eq.mp c
        subst c'
        simp at h
        subst h
        exact ⟨v, by simp, r1⟩
      | false =>
        rw [c] at h
        have : (x == p) = false := by
          simp only [beq_eq_false_iff_ne, ne_eq] at c ⊢
          exact fun e => c e.symm
        rw [this]
        exact ih r2 x av h
end Mine

end

-- EvS17
section
open PySem PySem.W PyProof.Rows PySem.Calls PySem.Spec
set_option Elab.async false
set_option maxRecDepth 100000
set_option maxHeartbeats 0
set_option linter.all false
namespace Mine

theorem rel_back {hb : Heap} {W : Adrs} {w : World} {L L' : Addr} {f0 frs : Led} {h' : Shared} {m m' : Str → Option Value} {imm' : Led} {g' : G} {oL : Obj} {es : Array DictEntry} {ep : Nat}
    (R : Rel hb W w L' ((L, oL) :: frs) h' m' imm' g') (up : TI.SameUp f0 frs) (hd : oL.data = .dict es ep) (hns : ∀ (hh : Heap) sl, hh.get? L = some { oL with slots := sl } → hh.Ns L m) (above : hb.objs.size ≤ L) : Rel hb W w L f0 h' m imm' g' := by
  obtain ⟨fs, t, p1, p2, r⟩ := R
  cases fs with
  | nil => exact r.up.elim
  | cons q qs =>
    obtain ⟨qa, qo⟩ := q
    obtain ⟨e1, ⟨sl, e2⟩, su⟩ := r.up
    have e1' : qa = L := e1
    have e2' : qo = { oL with slots := sl } := e2
    subst e1'
    subst e2'
    have sh : imm' ++ (t ++ (p1 ++ (p2 ++ (qa, ({ oL with slots := sl } : Obj)) :: qs))) = (imm' ++ (t ++ (p1 ++ p2))) ++ (qa, ({ oL with slots := sl } : Obj)) :: qs := by simp
    have N := r.news
    have nd := r.nd
    rw [sh] at N nd
    obtain ⟨n1, n2⟩ := nodup_mid nd
    have hL := (N (qa, ({ oL with slots := sl } : Obj)) (by simp)).1
    have sh2 : imm' ++ (t ++ (p1 ++ (p2 ++ qs))) = (imm' ++ (t ++ (p1 ++ p2))) ++ qs := by simp
    refine ⟨qs, t, p1, p2, ⟨hns _ sl hL, r.fr.keep, above⟩, r.z, up.trans su, r.mu, ?_, ?_⟩
    · rw [sh2]
      intro x hx
      rcases List.mem_append.mp hx with z | z
      · obtain ⟨a, _, c⟩ := N x (List.mem_append_left _ z)
        exact ⟨a, n1 x z, c⟩
      · obtain ⟨a, _, c⟩ := N x (List.mem_append_right _ (.tail _ z))
        exact ⟨a, n2 x z, c⟩
    · rw [sh2]
      refine List.Nodup.sublist ?_ nd
      simp only [List.map_append, List.map_cons]
      exact List.Sublist.append_left (List.sublist_cons_self _ _) _

theorem step_ok {prog : Program} {w : World} {V : VT} {hb : Heap} {W : Adrs} {p : Program} {loose : List Str} {mg mb : Str → Option Value} {n : Nat} {Γ : Funs} (hΓ : FunsOk prog w V hb W p loose mg mb n Γ) : FunsOk prog w V hb W p loose mg mb (n + 1) (stepF Γ) := by
    intro f avs g κ h A l f0 name sc L a cd s m imm vals R C hA hk hF hh hd rel rl kk
    unfold stepF at h
    split at h
    · exact h.elim
    · rename_i r hr
      obtain ⟨hlen, h⟩ := guard_iff.mp h
      obtain ⟨hm, hf⟩ := frow_mem hr
      clear hr
      have hr := hm
      subst hf
      have hco := map_at fr_co hr
      have hgen := map_at fr_gen hr
      have hkind := map_at fr_kind hr
      have hcell := map_at fr_cell hr
      have hloc := map_at fr_loc hr
      have hnd := map_at fr_nodup hr
      have hnd := of_decide_eq_true hnd
      have X := C.k.keeps rel.fr.keep
      have hlv : (parsOf r).length = vals.length := hlen.trans rl.1
      obtain ⟨frs, t, p1, p2, rx⟩ := rel
      obtain ⟨oL, es, ep, hL, hLd, hLk, hLf⟩ := rx.fr.ns
      have hLt := Heap.lt_size hL
      refine codeAny_call_def (fd := fnR r) (body := fBody r.d) (binds := (parsOf r).zip vals) (by show A.depth < 1000; omega) (X _ _ (map_at (fr_obj w.params V) hr)) rfl (C.top.nolimit.keeps rx.fr.keep) (codeRec_of X (map_at (fr_code w.params V) hr)) rfl (BindsTo.of_eq (fr_bind hr hlv))
        (fun x hx => by have := List.all_eq_true.mp hcell x hx; simpa using this) (fun x hx => ?_) (fun h₀ hns hkeep => ?_) hco hgen hkind
      · have hx' : x.1 ∈ parsOf r := (List.of_mem_zip (a := x.1) (b := x.2) hx).1
        have := List.all_eq_true.mp hloc _ hx'
        exact beq_iff_eq.mp this
      · let X' : Loc := ⟨prog, w, V, hb, W, p, loose, mg, mb, A, envOf name sc L a cd :: l, (L, oL) :: frs, fScope r.d, n, r.ql, s.heap.objs.size, r.a, .ref r.code⟩
        have hkm : (envOf name sc L a cd).scope.kind ≠ .module := by
          show sc.kind ≠ .module
          rw [hk]; decide
        have T' : X'.Ok := ⟨C, hkind, hA, ⟨hkm, rfl, ⟨es, ep, hLd⟩, hF.up rx.up⟩, (by show A.depth + 1 + n ≤ 900; omega), hh⟩
        have sh : imm ++ (t ++ (p1 ++ (p2 ++ (L, oL) :: frs))) = (imm ++ (t ++ (p1 ++ p2))) ++ (L, oL) :: frs := by simp
        have sh2 : imm ++ (t ++ (p1 ++ (p2 ++ frs))) = (imm ++ (t ++ (p1 ++ p2))) ++ frs := by simp
        have R' : X'.R { s with heap := h₀, toks := s.toks + ((parsOf r).zip vals).length } (fun x => ((parsOf r).zip vals).reverse.lookup x) imm g := by
          refine ⟨(L, oL) :: frs, t, p1, p2, ⟨hns, fun b o e => hkeep b o (rx.fr.keep b o e), Nat.le_trans rx.fr.above (Nat.le_of_lt hLt)⟩, rx.z, TI.SameUp.refl _, rx.mu, ?_, ?_⟩
          · intro q hq
            rw [sh] at hq
            have old : q ∈ imm ++ (t ++ (p1 ++ (p2 ++ frs))) → h₀.get? q.1 = some q.2 ∧ q.1 ≠ s.heap.objs.size ∧ hb.get? q.1 = none := fun z => by
              obtain ⟨a1, _, a3⟩ := rx.news q z
              exact ⟨hkeep _ _ a1, Nat.ne_of_lt (Heap.lt_size a1), a3⟩
            rcases List.mem_append.mp hq with z | z
            · exact old (by rw [sh2]; exact List.mem_append_left _ z)
            · rcases List.mem_cons.mp z with rfl | z
              · exact ⟨hkeep _ _ hL, Nat.ne_of_lt hLt, Heap.get?_none_of_le rx.fr.above⟩
              · exact old (by rw [sh2]; exact List.mem_append_right _ z)
          · rw [sh]
            have nd := rx.nd
            rw [sh2] at nd
            simp only [List.map_append, List.map_cons] at nd ⊢
            obtain ⟨d1, d2, d3⟩ := List.nodup_append.mp nd
            have ne : ∀ x ∈ imm ++ (t ++ (p1 ++ (p2 ++ frs))), x.1 ≠ L := fun x hx => (rx.news x hx).2.1
            refine List.nodup_append.mpr ⟨d1, List.nodup_cons.mpr ⟨fun hm => ?_, d2⟩, fun x hx y hy => ?_⟩
            · obtain ⟨q, hq, e⟩ := List.mem_map.mp hm
              exact ne q (by rw [sh2]; exact List.mem_append_right _ hq) e
            · rcases List.mem_cons.mp hy with rfl | hy
              · intro e
                have hx' : x ∈ (imm ++ (t ++ (p1 ++ p2))).map (·.1) := by simpa using hx
                obtain ⟨q, hq, e'⟩ := List.mem_map.mp hx'
                exact ne q (by rw [sh2]; exact List.mem_append_left _ hq) (e'.trans e)
              · exact d3 x hx y hy
        have re' : X'.Re (fun x => ((parsOf r).zip vals).reverse.lookup x) imm ((parsOf r).zip avs) := fun x av hx => by
          obtain ⟨v, h1, h2⟩ := zip_rep rl x av hx
          exact ⟨v, rev_lookup hnd hlv x v h1, h2⟩
        have hns' : ∀ (hx : Heap) sl, hx.get? L = some { oL with slots := sl } → hx.Ns L m := fun hx sl e => ⟨_, es, ep, e, hLd, hLk, hLf⟩
        refine (sems_ok (X := X') T' hΓ 24).2.2 _ _ _ _ h (s := { s with heap := h₀, toks := s.toks + ((parsOf r).zip vals).length }) R' re' (fun fl afl ρ' g' s' m' imm' hs R2 re2 rf h' => ?_) (fun _ _ _ _ _ _ _ _ _ _ _ h' => h'.elim)
        have back : Rel hb W w L f0 s' m imm' g' := rel_back R2 rx.up hLd hns' rx.fr.above
        cases rf with
        | next => exact kk _ _ _ _ _ hs back .none h'
        | brk => exact h'.elim
        | ret av v rv => exact kk _ _ _ _ _ hs back rv h'
theorem gam_ok {prog : Program} {w : World} {V : VT} {hb : Heap} {W : Adrs} {p : Program} {loose : List Str} {mg mb : Str → Option Value} : ∀ n, FunsOk prog w V hb W p loose mg mb n (gam n)
  | 0 => fun f avs g κ h => h.elim
  | n + 1 => step_ok (gam_ok n)
theorem FunsOk.mono {prog : Program} {w : World} {V : VT} {hb : Heap} {W : Adrs} {p : Program} {loose : List Str} {mg mb : Str → Option Value} {n n' : Nat} {Γ Γ' : Funs} (h : FunsOk prog w V hb W p loose mg mb n Γ) (hn : n ≤ n') (hs : ∀ f a g κ, Γ' f a g κ → Γ f a g κ) : FunsOk prog w V hb W p loose mg mb n' Γ' :=
  fun f avs g κ hh {A l f0 name sc L a cd s m imm vals R} C hA hk hF hd he rel rl kk => h f avs g κ (hs _ _ _ _ hh) C hA hk hF hd (by omega) rel rl kk
end Mine

end

-- EvL1
section
open PySem PySem.W PyProof.Rows PySem.Calls PySem.Spec
set_option Elab.async false
set_option maxRecDepth 100000
set_option maxHeartbeats 0
set_option linter.all false
namespace Mine
theorem is_makes (P : Params) (V : VT) : makesIn (KF P V) 342 = true := by kernel_rfl
theorem is_init (P : Params) (V : VT) : findIn (KF P V) (.ref 342) (Str.ofString "__init__") = some (some (.ref 35)) := by kernel_rfl
theorem is_initFn (P : Params) (V : VT) : isFn (KF P V) (.ref 35) = true := by kernel_rfl
theorem is_keep (P : Params) (V : VT) : keepIn (KF P V) (.ref 342) = true := by kernel_rfl

section
variable {hb : Heap} {W W' : Adrs} {imm imm' : Led} {w : World}
theorem rep_IS {x : AV} {v : Value} (hx : isIS x = true) (r : RepV hb W imm x v) : RepV hb W' imm' x v := by
  cases r <;> first | (simp [isIS] at hx; done) | skip
  · exact .int _ _
  · exact .str _ _ ‹_›
theorem repD_IS {f : List (Str × AV)} {es : List DictEntry} (hf : f.all (fun q => isIS q.2) = true) (r : RepD hb W imm w f es) : RepD hb W' imm' w f es := by
  induction r with
  | nil => exact .nil
  | cons x t h _ ih =>
    simp only [List.all_cons, Bool.and_eq_true] at hf
    exact .cons x t (rep_IS hf.1 h) (ih hf.2)
theorem rep_hl {ns : List Int} {v : Value} (r : RepV hb W imm (.hlist ns) v) : RepV hb W' imm' (.hlist ns) v := by
  cases r
  exact .hlist _ _ _ ‹_› ‹_› ‹_›
end

-- the tape is taken out of the ledger of lists
theorem Rel.toTape {hb : Heap} {W : Adrs} {w : World} {L : Addr} {f0 : Led} {s : Shared} {m : Str → Option Value} {imm : Led} (R : Rel hb W w L f0 s m imm ⟨none, none, none⟩) {a : Addr} {vs : List Value} {n : Nat} {nums : List Int} {seed : Int}
    (hm : (a, LO vs n) ∈ imm) (rl : RepL hb W imm [.int 0, .ilist nums, .int seed] vs) :
    ∃ imm', Rel hb { W with tp := a } w L f0 s m imm' ⟨some [.int 0, .ilist nums, .int seed], none, none⟩ := by
  obtain ⟨frs, t, p1, p2, r⟩ := R
  have ht : t = [] := r.mu.tape
  have h1 : p1 = [] := r.mu.s1
  have h2 : p2 = [] := r.mu.s2
  subst ht h1 h2
  obtain ⟨pre, post, rfl⟩ := List.append_of_mem hm
  have N := r.news
  have nd := r.nd
  have perm : ((pre ++ post) ++ ([(a, LO vs n)] ++ ([] ++ ([] ++ frs)))).Perm ((pre ++ (a, LO vs n) :: post) ++ ([] ++ ([] ++ ([] ++ frs)))) := by
    simp only [List.nil_append, List.append_assoc, List.cons_append, List.singleton_append]
    refine List.Perm.append_left pre ?_
    exact List.perm_middle
  refine ⟨pre ++ post, frs, [(a, LO vs n)], [], [], r.fr, r.z, r.up, ⟨?_, rfl, rfl⟩, fun q hq => N q (perm.mem_iff.mp hq), ?_⟩
  · obtain ⟨v1, u1, rfl, r1, l1⟩ := rl.cons_inv
    obtain ⟨v2, u2, rfl, r2, l2⟩ := l1.cons_inv
    obtain ⟨v3, u3, rfl, r3, l3⟩ := l2.cons_inv
    have l3' := l3.nil_inv
    subst l3'
    refine ⟨[v1, v2, v3], LO [v1, v2, v3] n, .cons (rep_IS rfl r1) (.cons ?_ (.cons (rep_IS rfl r3) RepL.nil)), ⟨rfl, n, rfl⟩, rfl⟩
    cases r2
    rename_i b us k hI hn at_
    refine .ilist b _ us k hI ?_ hn
    rcases List.mem_append.mp at_ with z | z
    · exact List.mem_append_left _ z
    · rcases List.mem_cons.mp z with e | z
      · exfalso
        have e4 : us = [v1, Value.ref b, v3] := by
          have := congrArg (fun q : Addr × Obj => match q.2.data with | .seq x _ => x.toList | _ => []) e
          exact this
        subst e4
        cases hI with
        | cons _ _ q => cases q
      · exact List.mem_append_right _ z
  · exact (perm.map (·.1)).nodup_iff.mpr nd

theorem tape_W {hb : Heap} {W W' : Adrs} {imm : Led} {t : Led} {nums : List Int} {i seed : Int} (h : TapeAt hb W imm (some [.int i, .ilist nums, .int seed]) t) (hW : W'.tp = W.tp) : TapeAt hb W' imm (some [.int i, .ilist nums, .int seed]) t := by
  obtain ⟨vs, o, rl, ho, e⟩ := h
  refine ⟨vs, o, ?_, ho, by rw [hW]; exact e⟩
  obtain ⟨v1, u1, rfl, r1, l1⟩ := rl.cons_inv
  obtain ⟨v2, u2, rfl, r2, l2⟩ := l1.cons_inv
  obtain ⟨v3, u3, rfl, r3, l3⟩ := l2.cons_inv
  rw [l3.nil_inv]
  refine .cons (rep_IS rfl r1) (.cons ?_ (.cons (rep_IS rfl r3) RepL.nil))
  cases r2
  exact .ilist _ _ _ _ ‹_› ‹_› ‹_›

-- a stemmer is born
theorem Rel.born1 {hb : Heap} {W : Adrs} {w : World} {L : Addr} {f0 frs t : Led} {s s' : Shared} {m : Str → Option Value} {imm : Led} {nums : List Int} {i seed : Int} {x dx : Addr}
    (r : RelX hb W w L s m imm ⟨some [.int i, .ilist nums, .int seed], none, none⟩ f0 frs t [] []) (F : Fr hb L s'.heap m) (N : News hb L s'.heap ((x, instObj 342 dx) :: (dx, dictOf [] 0) :: (imm ++ (t ++ ([] ++ ([] ++ frs)))))) (z : s'.gens = s.gens ∧ s'.os = s.os)
    (h1 : ∀ q ∈ imm ++ (t ++ ([] ++ ([] ++ frs))), q.1 < dx) (h2 : dx < x) :
    Rel hb { W with x1 := x, d1 := dx } w L f0 s' m imm ⟨some [.int i, .ilist nums, .int seed], some [], none⟩ := by
  have perm : (imm ++ (t ++ ([(x, instObj 342 dx), (dx, dictOf [] 0)] ++ ([] ++ frs)))).Perm ((x, instObj 342 dx) :: (dx, dictOf [] 0) :: (imm ++ (t ++ ([] ++ ([] ++ frs))))) := by
    simp only [List.nil_append]
    rw [← List.append_assoc imm t, ← List.append_assoc imm t]
    refine (List.perm_append_comm_assoc _ _ _).trans ?_
    exact List.Perm.refl _
  refine ⟨frs, t, [(x, instObj 342 dx), (dx, dictOf [] 0)], [], F, ⟨z.1.trans r.z.1, z.2.trans r.z.2⟩, r.up, ⟨tape_W r.mu.tape rfl, ⟨[], 0, .nil, rfl⟩, rfl⟩, fun q hq => N q (perm.mem_iff.mp hq), ?_⟩
  refine (perm.map (·.1)).nodup_iff.mpr ?_
  simp only [List.map_cons, List.nodup_cons]
  refine ⟨fun hm => ?_, fun hm => ?_, r.nd⟩
  · rcases List.mem_cons.mp hm with e | hm
    · have e' : x = dx := e
      rw [e'] at h2
      exact Nat.lt_irrefl _ h2
    · obtain ⟨q, hq, e⟩ := List.mem_map.mp hm
      have e' : q.1 = x := e
      have := h1 q hq
      rw [e'] at this
      exact Nat.lt_irrefl _ (Nat.lt_trans this h2)
  · obtain ⟨q, hq, e⟩ := List.mem_map.mp hm
    have e' : q.1 = dx := e
    have := h1 q hq
    rw [e'] at this
    exact Nat.lt_irrefl _ this
theorem Rel.born2 {hb : Heap} {W : Adrs} {w : World} {L : Addr} {f0 frs t p1 : Led} {s s' : Shared} {m : Str → Option Value} {imm : Led} {nums : List Int} {i seed : Int} {x dx : Addr} {f : List (Str × AV)} (hf : f.all (fun q => isIS q.2) = true)
    (r : RelX hb W w L s m imm ⟨some [.int i, .ilist nums, .int seed], some f, none⟩ f0 frs t p1 []) (F : Fr hb L s'.heap m) (N : News hb L s'.heap ((x, instObj 342 dx) :: (dx, dictOf [] 0) :: (imm ++ (t ++ (p1 ++ ([] ++ frs)))))) (z : s'.gens = s.gens ∧ s'.os = s.os)
    (h1 : ∀ q ∈ imm ++ (t ++ (p1 ++ ([] ++ frs))), q.1 < dx) (h2 : dx < x) :
    Rel hb { W with x2 := x, d2 := dx } w L f0 s' m imm ⟨some [.int i, .ilist nums, .int seed], some f, some []⟩ := by
  have perm : (imm ++ (t ++ (p1 ++ ([(x, instObj 342 dx), (dx, dictOf [] 0)] ++ frs)))).Perm ((x, instObj 342 dx) :: (dx, dictOf [] 0) :: (imm ++ (t ++ (p1 ++ ([] ++ frs))))) := by
    simp only [List.nil_append]
    have e : ∀ (l : Led), imm ++ (t ++ (p1 ++ l)) = (imm ++ (t ++ p1)) ++ l := fun l => by simp
    rw [e, e]
    refine (List.perm_append_comm_assoc _ _ _).trans ?_
    exact List.Perm.refl _
  have hs1 : StAt hb { W with x2 := x, d2 := dx } imm w W.x1 W.d1 (some f) p1 := by
    obtain ⟨es, n, hd, e⟩ := r.mu.s1
    exact ⟨es, n, repD_IS hf hd, e⟩
  refine ⟨frs, t, p1, [(x, instObj 342 dx), (dx, dictOf [] 0)], F, ⟨z.1.trans r.z.1, z.2.trans r.z.2⟩, r.up, ⟨tape_W r.mu.tape rfl, hs1, ⟨[], 0, .nil, rfl⟩⟩, fun q hq => N q (perm.mem_iff.mp hq), ?_⟩
  refine (perm.map (·.1)).nodup_iff.mpr ?_
  simp only [List.map_cons, List.nodup_cons]
  refine ⟨fun hm => ?_, fun hm => ?_, r.nd⟩
  · rcases List.mem_cons.mp hm with e | hm
    · have e' : x = dx := e
      rw [e'] at h2
      exact Nat.lt_irrefl _ h2
    · obtain ⟨q, hq, e⟩ := List.mem_map.mp hm
      have e' : q.1 = x := e
      have := h1 q hq
      rw [e'] at this
      exact Nat.lt_irrefl _ (Nat.lt_trans this h2)
  · obtain ⟨q, hq, e⟩ := List.mem_map.mp hm
    have e' : q.1 = dx := e
    have := h1 q hq
    rw [e'] at this
    exact Nat.lt_irrefl _ this
end Mine

end

-- EvL2
section
open PySem PySem.W PyProof.Rows PySem.Calls PySem.Spec
set_option Elab.async false
set_option maxRecDepth 100000
set_option maxHeartbeats 0
set_option linter.all false
namespace Mine
noncomputable section
noncomputable def lawB : List Stmt := fBody (dS 25)
noncomputable def lawSc : Scope := fScope (dS 25)
noncomputable def lawS (i : Nat) : Stmt := (lawB[i]?).getD (.Pass ⟨0, 0, 0, 0⟩)
noncomputable def aVal : Stmt → Expr
  | .Assign _ e _ => e
  | _ => .Name s0 ⟨0, 0, 0, 0⟩
noncomputable def aPos : Stmt → Pos × Pos
  | .Assign [.Name _ a] _ d => (a, d)
  | _ => default
noncomputable def cPos : Expr → Pos × Pos
  | .Call (.Name _ a) _ _ d => (a, d)
  | _ => default
noncomputable def lawR : List Stmt := lawB.drop 3
end
theorem law_split : lawB = lawS 0 :: lawS 1 :: lawS 2 :: lawR := by kernel_rfl
theorem law_s0 : lawS 0 = .Assign [.Name s145 (aPos (lawS 0)).1] (aVal (lawS 0)) (aPos (lawS 0)).2 := by kernel_rfl
theorem law_s1 : lawS 1 = .Assign [.Name s186 (aPos (lawS 1)).1] (.Call (.Name s68 (cPos (aVal (lawS 1))).1) [] [] (cPos (aVal (lawS 1))).2) (aPos (lawS 1)).2 := by kernel_rfl
theorem law_s2 : lawS 2 = .Assign [.Name s187 (aPos (lawS 2)).1] (.Call (.Name s68 (cPos (aVal (lawS 2))).1) [] [] (cPos (aVal (lawS 2))).2) (aPos (lawS 2)).2 := by kernel_rfl
theorem law_loc : isLoc lawSc s145 = true ∧ isLoc lawSc s186 = true ∧ isLoc lawSc s187 = true := by refine ⟨?_, ?_, ?_⟩ <;> kernel_rfl
theorem law_glob : isGlob lawSc s68 = true := by kernel_rfl
theorem law_gtab : aget s68 gtab = some (.ref 342) := by kernel_rfl
theorem law_ns : noSwap (aVal (lawS 0)) = true := by kernel_rfl
noncomputable def lawRow : FRow := ⟨467, s185, s185, dS 25, .str s122 867, 466⟩
theorem law_in : lawRow ∈ frows := by
  have : frows.getLast? = some lawRow := by kernel_rfl
  exact List.mem_of_getLast? this
theorem law_pars : parsOf lawRow = [s138] := by kernel_rfl

theorem under_f (A : Around) (as : Args) : (A.under (Code.builtin "type.__call__" as)).frames = A.frames := by
  obtain ⟨a, b⟩ := as
  rfl
section
variable {X : Loc}
abbrev Loc.wW (X : Loc) (W : Adrs) : Loc := { X with W := W }
theorem wW_ok (T : X.Ok) (W : Adrs) : (X.wW W).Ok := ⟨T.ctx, T.kind, T.frames, T.frs, T.depth, T.handled⟩
theorem make_ok {Γ : Funs} (T : X.Ok) (hΓ : ∀ W, (X.wW W).FOk Γ) (hn : X.A₀.depth + 2 + X.n ≤ 900) (hg : isGlob X.sc s68 = true) {np cp : Pos} {s : Shared} {m : Str → Option Value} {imm : Led} {g : G} {frs t p1 p2 : Led} (r : RelX X.hb X.W X.w X.L s m imm g X.f0 frs t p1 p2) {E : Value → Shared → Prop} {Q : Value → Shared → Prop}
    (k : ∀ x dx h', Fr X.hb X.L h' m → News X.hb X.L h' ((x, instObj 342 dx) :: (dx, dictOf [] 0) :: (imm ++ (t ++ (p1 ++ (p2 ++ frs))))) → (∀ q ∈ imm ++ (t ++ (p1 ++ (p2 ++ frs))), q.1 < dx) → dx < x →
      ∃ (W' : Adrs) (b : Bool) (imm' : Led) (g' : G) (κ : AV → G → Prop), W'.x b = x ∧ (X.wW W').R { s with heap := h' } m imm' g' ∧ Γ 35 [.stem b] g' κ ∧
        ∀ (v : Value) av g2 s2 i2, imm' ⊆ i2 → (X.wW W').R s2 m i2 g2 → κ av g2 → RepV X.hb W' i2 av v → v = .none ∧ Q (.ref x) s2) :
    wpAny X.M X.A (eval (.Call (.Name s68 np) [] [] cp) X.env) Q E s := by
  have R : X.R s m imm g := ⟨frs, t, p1, p2, r⟩
  refine Call_ (nameG_ok T R hg law_gtab (callWith_K0 (kIn T R) (is_keep _ _) ?_))
  refine call_cls r.fr T.ctx.k r.news (is_makes _ _) (is_init _ _) (is_initFn _ _) fun x dx h' F' N' h1 h2 => ?_
  obtain ⟨W', b, imm', g', κ, hx, R', hgam, kk⟩ := k x dx h' F' N' h1 h2
  refine hΓ W' 35 [.stem b] g' κ hgam (name := X.name) (sc := X.sc) (L := X.L) (a := X.a) (cd := X.cd) (l := X.l) (f0 := X.f0) T.ctx ((under_f _ _).trans (Around.frames_deeper T.frames)) T.kind T.frs T.handled ?_ R' (.cons ?_ RepL.nil) fun v av g2 s2 i2 hs R2 rv hk => ?_
  · rw [depth_under_kw]
    show X.A₀.depth + 1 + 1 + X.n ≤ 900
    omega
  · have := RepV.stem (hb := X.hb) (W := W') (imm := imm') b
    rw [← hx]
    exact this
  · obtain ⟨rfl, q⟩ := kk v av g2 s2 i2 hs R2 hk rv
    exact ⟨rfl, q⟩
end
end Mine

end

-- EvL3
section
open PySem PySem.W PyProof.Rows PySem.Calls PySem.Spec
set_option Elab.async false
set_option maxRecDepth 100000
set_option maxHeartbeats 0
set_option linter.all false
namespace Mine

abbrev tapeL (i : Int) (nums : List Int) (seed : Int) : List AV := [.int i, .ilist nums, .int seed]
structure LawAbs (Γ : Funs) (ns nums : List Int) (seed : Int) (F : List (Str × AV)) : Prop where
  h0 : (sems Γ lawSc 24).e (aVal (lawS 0)) [(s138, .hlist ns)] ⟨none, none, none⟩ fun v g => v = .list (tapeL 0 nums seed) ∧ g = ⟨none, none, none⟩
  h1 : Γ 35 [.stem false] ⟨some (tapeL 0 nums seed), some [], none⟩ fun v g => v = .none ∧ g = ⟨some (tapeL 0 nums seed), some F, none⟩
  h2 : Γ 35 [.stem true] ⟨some (tapeL 0 nums seed), some F, some []⟩ fun v g => v = .none ∧ g = ⟨some (tapeL 0 nums seed), some F, some F⟩
  h3 : (sems Γ lawSc 24).s lawR [(s138, .hlist ns), (s145, .tape), (s186, .stem false), (s187, .stem true)] ⟨some (tapeL 0 nums seed), some F, some F⟩ fun fl _ _ => fl = .ret (.bool true)
  hF : F.all (fun q => isIS q.2) = true

theorem law_walk {prog : Program} {w : World} {V : VT} {p : Program} {loose : List Str} {mg mb : Str → Option Value} {s : Shared} (C : Ctx w V s.heap p loose mg mb) {a : Addr} {vs : List Value} {ns nums : List Int} {seed : Int} {F : List (Str × AV)}
    (hl : s.heap.IsList a vs.toArray) (hI : IntsAre vs ns) {Γ : Funs} (hΓ0 : ∀ W, FunsOk prog w V s.heap W p loose mg mb 10 Γ) (hns1000 : ns.length ≤ 1000) (HL : LawAbs Γ ns nums seed F) {E : Value → Shared → Prop} :
    wpAny (model prog w) callerA (call (.ref 467) [.ref a]) (fun v s' => v = .bool true ∧ (∀ b o, s.heap.get? b = some o → s'.heap.get? b = some o) ∧ s'.gens = s.gens ∧ s'.os = s.os) E s := by
  have hr := law_in
  refine wpAny_call (codeAny_call_def (fd := fnR lawRow) (body := lawB) (binds := [(s138, .ref a)]) (by decide +kernel) (C.k _ _ (map_at (fr_obj w.params V) hr)) rfl C.top.nolimit (codeRec_of C.k (map_at (fr_code w.params V) hr)) rfl
    (BindsTo.of_eq (by have := fr_bind hr (vals := [.ref a]) (by rw [law_pars]; rfl); rw [law_pars] at this; exact this))
    (fun x hx => by have := List.all_eq_true.mp (map_at fr_cell hr) x hx; simpa using this) (fun x hx => ?_) (fun h₀ hns hkeep => ?_) (map_at fr_co hr) (map_at fr_gen hr) (map_at fr_kind hr))
  · have hx' := List.mem_singleton.mp hx
    subst hx'
    have := List.all_eq_true.mp (map_at fr_loc hr) s138 (by rw [law_pars]; simp)
    exact beq_iff_eq.mp this
  let W0 : Adrs := ⟨s.gens, s.os, 0, 0, 0, 0, 0⟩
  let X : Loc := ⟨prog, w, V, s.heap, W0, p, loose, mg, mb, callerA, [], [], lawSc, 10, s185, s.heap.objs.size, 467, .ref 466⟩
  have T : X.Ok := ⟨C, map_at fr_kind hr, rfl, trivial, (by show callerA.depth + 1 + 10 ≤ 900; decide +kernel), rfl⟩
  have hΓ : ∀ W, (X.wW W).FOk Γ := fun W => hΓ0 W
  have R0 : X.R { s with heap := h₀, toks := s.toks + 1 } (fun x => [(s138, Value.ref a)].reverse.lookup x) [] ⟨none, none, none⟩ :=
    ⟨[], [], [], [], ⟨hns, hkeep, Nat.le_refl _⟩, ⟨rfl, rfl⟩, trivial, ⟨rfl, rfl, rfl⟩, News.nil, List.nodup_nil⟩
  have re0 : X.Re (fun x => [(s138, Value.ref a)].reverse.lookup x) [] [(s138, .hlist ns)] := fun x av h => by
    unfold aget at h
    cases q : (s138 == x) with
    | true =>
      rw [q] at h
      have q' := beq_iff_eq.mp q
      subst q'
      cases h
      exact ⟨.ref a, by show [(s138, Value.ref a)].lookup s138 = _; simp, .hlist a ns vs hI hl hns1000⟩
    | false => rw [q] at h; cases h
  show wpAny X.M X.A (execs lawB X.env) _ _ _
  rw [law_split, law_s0, law_s1, law_s2]
  -- the tape
  refine wpAny_execs_cons (wpAny_Assign_Name ((sems_ok (X := X) T (hΓ W0) 24).1 _ _ _ _ HL.h0 R0 re0 fun v av g' s1 i1 hs1 R1 rv h1 => ?_) (noswap law_ns))
  obtain ⟨rfl, rfl⟩ := h1
  cases rv
  rename_i b us n at_ hlen hrep hlen2
  obtain ⟨i2, R2⟩ := Rel.toTape R1 at_ ⟨hlen, hrep⟩
  let W1 : Adrs := { W0 with tp := b }
  have R2' : (X.wW W1).R s1 (fun x => [(s138, Value.ref a)].reverse.lookup x) i2 ⟨some (tapeL 0 nums seed), none, none⟩ := R2
  have re2 : (X.wW W1).Re (fun x => [(s138, Value.ref a)].reverse.lookup x) i2 [(s138, .hlist ns)] := fun x av h => by
    obtain ⟨u, e1, e2⟩ := re0 x av h
    refine ⟨u, e1, ?_⟩
    unfold aget at h
    cases q : (s138 == x) with
    | true => rw [q] at h; cases h; exact rep_hl e2
    | false => rw [q] at h; cases h
  refine storeA (X := X.wW W1) (wW_ok T W1) R2' re2 law_loc.1 (av := .tape) .tape fun s3 m3 R3 re3 => ?_
  -- the first stemmer
  refine wpAny_execs_cons (wpAny_Assign_Name ?_ rfl)
  obtain ⟨frs, t, p1, p2, r3⟩ := R3
  have e1 : p1 = [] := r3.mu.s1
  have e2 : p2 = [] := r3.mu.s2
  subst e1 e2
  refine make_ok (X := X.wW W1) (wW_ok T W1) (fun W => hΓ W) (by show callerA.depth + 2 + 10 ≤ 900; decide +kernel) law_glob r3 fun x dx h' F' N' q1 q2 => ?_
  refine ⟨{ W1 with x1 := x, d1 := dx }, false, _, _, _, rfl, Rel.born1 r3 F' N' ⟨rfl, rfl⟩ q1 q2, HL.h1, fun v av g2 s4 i4 hs4 R4 hk rv => ?_⟩
  obtain ⟨rfl, rfl⟩ := hk
  cases rv
  refine ⟨rfl, ?_⟩
  let W2 : Adrs := { W1 with x1 := x, d1 := dx }
  have T2 : (X.wW W2).Ok := wW_ok T W2
  have re4 : (X.wW W2).Re m3 i4 (aput s145 .tape [(s138, .hlist ns)]) := fun y bv hy => by
    obtain ⟨u, f1, f2⟩ := re3 y bv hy
    refine ⟨u, f1, ?_⟩
    rw [aget_aput] at hy
    by_cases e : y = s145
    · rw [if_pos e] at hy; cases hy; cases f2; exact .tape
    · rw [if_neg e] at hy
      unfold aget at hy
      cases q : (s138 == y) with
      | true => rw [q] at hy; cases hy; exact rep_hl f2
      | false => rw [q] at hy; cases hy
  refine storeA (X := X.wW W2) T2 R4 re4 law_loc.2.1 (av := .stem false) (.stem false) fun s5 m5 R5 re5 => ?_
  -- the second stemmer
  refine wpAny_execs_cons (wpAny_Assign_Name ?_ rfl)
  obtain ⟨frs5, t5, p15, p25, r5⟩ := R5
  have e2 : p25 = [] := r5.mu.s2
  subst e2
  refine make_ok (X := X.wW W2) T2 (fun W => hΓ W) (by show callerA.depth + 2 + 10 ≤ 900; decide +kernel) law_glob r5 fun x' dx' h'' F'' N'' q1' q2' => ?_
  refine ⟨{ W2 with x2 := x', d2 := dx' }, true, _, _, _, rfl, Rel.born2 HL.hF r5 F'' N'' ⟨rfl, rfl⟩ q1' q2', HL.h2, fun v av g2 s6 i6 hs6 R6 hk rv => ?_⟩
  obtain ⟨rfl, rfl⟩ := hk
  cases rv
  refine ⟨rfl, ?_⟩
  let W3 : Adrs := { W2 with x2 := x', d2 := dx' }
  have T3 : (X.wW W3).Ok := wW_ok T W3
  have re6 : (X.wW W3).Re m5 i6 (aput s186 (.stem false) (aput s145 .tape [(s138, .hlist ns)])) := fun y bv hy => by
    obtain ⟨u, f1, f2⟩ := re5 y bv hy
    refine ⟨u, f1, ?_⟩
    rw [aget_aput] at hy
    by_cases e : y = s186
    · rw [if_pos e] at hy; cases hy; cases f2; exact .stem false
    · rw [if_neg e] at hy
      rw [aget_aput] at hy
      by_cases e : y = s145
      · rw [if_pos e] at hy; cases hy; cases f2; exact .tape
      · rw [if_neg e] at hy
        unfold aget at hy
        cases q : (s138 == y) with
        | true => rw [q] at hy; cases hy; exact rep_hl f2
        | false => rw [q] at hy; cases hy
  refine storeA (X := X.wW W3) T3 R6 re6 law_loc.2.2 (av := .stem true) (.stem true) fun s7 m7 R7 re7 => ?_
  have er : aput s187 (.stem true) (aput s186 (.stem false) (aput s145 .tape [(s138, .hlist ns)])) = [(s138, .hlist ns), (s145, .tape), (s186, .stem false), (s187, .stem true)] := by kernel_rfl
  rw [er] at re7
  refine (sems_ok (X := X.wW W3) T3 (hΓ W3) 24).2.2 _ _ _ _ HL.h3 R7 re7 (fun fl afl ρ' g' s' m' imm' hs R' re' rf h' => ?_) (fun _ _ _ _ _ _ _ _ _ _ _ h' => by cases h')
  subst h'
  cases rf
  rename_i v rv
  cases rv
  obtain ⟨frs', t', p1', p2', r'⟩ := R'
  exact ⟨rfl, r'.fr.keep, r'.z.1, r'.z.2⟩
end Mine

end

-- EvP0
section
open PySem PySem.W PyProof.Rows
set_option Elab.async false
set_option maxRecDepth 100000
set_option maxHeartbeats 0
set_option linter.all false
namespace Mine
noncomputable section
noncomputable def gS (x : Str) (f : List (Str × AV)) : List Nat := match aget x f with
  | some (.str l) => l
  | _ => []
noncomputable def gI (x : Str) (f : List (Str × AV)) : Int := match aget x f with
  | some (.int i) => i
  | _ => 0
-- the fields of a stemmer
noncomputable def stF (cur : List Nat) (c l lb b k p m : Int) : List (Str × AV) := [(s10, .str cur), (s11, .int c), (s12, .int l), (s14, .int lb), (s15, .int b), (s16, .int k), (s74, .int p), (s75, .int m)]
-- what find_among finds: the longest entry ahead of (behind) the text
structure Ent where
  s : List Nat
  r : Int
noncomputable def entsOf (a : Addr) : List Ent :=
  bif Nat.beq a 284 then [⟨[107, 97, 104], 1⟩, ⟨[108, 97, 104], 1⟩, ⟨[112, 117, 110], 1⟩]
  else bif Nat.beq a 294 then [⟨[110, 121, 97], 1⟩, ⟨[107, 117], 1⟩, ⟨[109, 117], 1⟩]
  else bif Nat.beq a 301 then [⟨[105], 2⟩, ⟨[97, 110], 1⟩]
  else bif Nat.beq a 332 then [⟨[100, 105], 1⟩, ⟨[107, 101], 3⟩, ⟨[109, 101], 1⟩, ⟨[109, 101, 109], 5⟩, ⟨[109, 101, 110], 2⟩, ⟨[109, 101, 110, 103], 1⟩, ⟨[112, 101, 109], 6⟩, ⟨[112, 101, 110], 4⟩, ⟨[112, 101, 110, 103], 3⟩, ⟨[116, 101, 114], 1⟩]
  else bif Nat.beq a 339 then [⟨[98, 101], 2⟩, ⟨[112, 101], 1⟩]
  else []
-- the longest entry that stands ahead of t
noncomputable def bestPre (t : List Nat) : List Ent → Option Ent
  | [] => none
  | e :: r => match bestPre t r with
    | some b => if e.s.isPrefixOf t && decide (b.s.length < e.s.length) then some e else some b
    | none => if e.s.isPrefixOf t then some e else none
noncomputable def bestSuf (t : List Nat) : List Ent → Option Ent
  | [] => none
  | e :: r => match bestSuf t r with
    | some b => if e.s.isSuffixOf t && decide (b.s.length < e.s.length) then some e else some b
    | none => if e.s.isSuffixOf t then some e else none
noncomputable def resOf : Option Ent → Int
  | some e => e.r
  | none => 0
noncomputable def lenOf : Option Ent → Int
  | some e => e.s.length
  | none => 0
-- what the seekers tell, as contracts
noncomputable def ctFA (vs : List AV) (g : G) (κ : AV → G → Prop) : Prop := match vs with
  | [.stem b, .ref a] => elimA (g.st b) fun f => guardA (0 ≤ gI s11 f ∧ gI s11 f ≤ gI s12 f ∧ gI s12 f ≤ (gS s10 f).length)
      (κ (.int (resOf (bestPre ((gS s10 f).take (gI s12 f).toNat |>.drop (gI s11 f).toNat) (entsOf a)))) (g.setSt b (aput s11 (.int (gI s11 f + lenOf (bestPre ((gS s10 f).take (gI s12 f).toNat |>.drop (gI s11 f).toNat) (entsOf a)))) f)))
  | _ => False
noncomputable def ctFAB (vs : List AV) (g : G) (κ : AV → G → Prop) : Prop := match vs with
  | [.stem b, .ref a] => elimA (g.st b) fun f => guardA (0 ≤ gI s14 f ∧ gI s14 f ≤ gI s11 f ∧ gI s11 f ≤ (gS s10 f).length)
      (κ (.int (resOf (bestSuf ((gS s10 f).take (gI s11 f).toNat |>.drop (gI s14 f).toNat) (entsOf a)))) (g.setSt b (aput s11 (.int (gI s11 f - lenOf (bestSuf ((gS s10 f).take (gI s11 f).toNat |>.drop (gI s14 f).toNat) (entsOf a)))) f)))
  | _ => False
noncomputable def tapeV (i : Int) (nums : List Int) (seed : Int) : List AV := [.int i, .ilist nums, .int seed]
noncomputable def ctNext (vs : List AV) (g : G) (κ : AV → G → Prop) : Prop := match vs, g.tape with
  | [.tape, .int many], some [.int i, .ilist nums, .int seed] => guardA (0 < many ∧ 0 ≤ i)
      (bif many == 3 then (∀ (i' seed' : Int), 0 ≤ i' → κ (.int 0) ⟨some (tapeV i' nums seed'), g.s1, g.s2⟩) ∧ (∀ (i' seed' : Int), 0 ≤ i' → κ (.int 1) ⟨some (tapeV i' nums seed'), g.s1, g.s2⟩) ∧ (∀ (i' seed' : Int), 0 ≤ i' → κ (.int 2) ⟨some (tapeV i' nums seed'), g.s1, g.s2⟩)
       else ∀ (r i' seed' : Int), 0 ≤ r → r < many → 0 ≤ i' → κ (.int r) ⟨some (tapeV i' nums seed'), g.s1, g.s2⟩)
  | _, _ => False
noncomputable def funA : Funs := fun f vs g κ => bif Nat.beq f 133 then ctFA vs g κ else bif Nat.beq f 140 then ctFAB vs g κ else bif Nat.beq f 390 then ctNext vs g κ else gam 3 f vs g κ
end
end Mine

end

-- EvP1
section
open PySem PySem.W PyProof.Rows
set_option Elab.async false
set_option maxRecDepth 100000
set_option maxHeartbeats 0
set_option linter.all false
namespace Mine
noncomputable section
noncomputable def wBody : Stmt → List Stmt
  | .While _ b _ _ => b
  | .For _ _ b _ _ => b
  | _ => []
noncomputable def nth (l : List Stmt) (i : Nat) : Stmt := (l[i]?).getD (.Pass ⟨0, 0, 0, 0⟩)
noncomputable def faB : List Stmt := fBody (dM 2 14)
noncomputable def fabB : List Stmt := fBody (dM 2 15)
noncomputable def faSc : Scope := fScope (dM 2 14)
noncomputable def fabSc : Scope := fScope (dM 2 15)
noncomputable def faW1 : List Stmt := wBody (nth faB 7)
noncomputable def faW2 : List Stmt := wBody (nth faB 8)
noncomputable def fabW1 : List Stmt := wBody (nth fabB 7)
noncomputable def fabW2 : List Stmt := wBody (nth fabB 8)
noncomputable def faFor : List Stmt := wBody (nth faW1 4)
noncomputable def fabFor : List Stmt := wBody (nth fabW1 4)
noncomputable def mkG (b : Bool) (tp : Option (List AV)) (F : List (Str × AV)) (o : Option (List (Str × AV))) : G := match b with
  | false => ⟨tp, some F, o⟩
  | true => ⟨tp, o, some F⟩
noncomputable def env9 (b : Bool) (a : Addr) (i j c l ci cj : Int) (fk : Bool) : LEnv := [(s6, .stem b), (s33, .ref a), (s34, .int i), (s35, .int j), (s36, .int c), (s37, .int l), (s38, .int ci), (s39, .int cj), (s40, .bool fk)]
noncomputable def env14 (b : Bool) (a : Addr) (i j c l ci cj : Int) (fk : Bool) (k d co : Int) (w : Addr) (i2 : Int) : LEnv := [(s6, .stem b), (s33, .ref a), (s34, .int i), (s35, .int j), (s36, .int c), (s37, .int l), (s38, .int ci), (s39, .int cj), (s40, .bool fk), (s1, .int k), (s41, .int d), (s42, .int co), (s44, .ref w), (s45, .int i2)]
noncomputable def env13 (b : Bool) (a : Addr) (i j c l ci cj : Int) (fk : Bool) (k d co : Int) (w : Addr) : LEnv := [(s6, .stem b), (s33, .ref a), (s34, .int i), (s35, .int j), (s36, .int c), (s37, .int l), (s38, .int ci), (s39, .int cj), (s40, .bool fk), (s1, .int k), (s41, .int d), (s42, .int co), (s44, .ref w)]
noncomputable def env9b (b : Bool) (a : Addr) (i j c l ci cj : Int) (fk : Bool) : LEnv := [(s6, .stem b), (s33, .ref a), (s34, .int i), (s35, .int j), (s36, .int c), (s51, .int l), (s38, .int ci), (s39, .int cj), (s40, .bool fk)]
noncomputable def env14b (b : Bool) (a : Addr) (i j c l ci cj : Int) (fk : Bool) (k d co : Int) (w : Addr) (i2 : Int) : LEnv := [(s6, .stem b), (s33, .ref a), (s34, .int i), (s35, .int j), (s36, .int c), (s51, .int l), (s38, .int ci), (s39, .int cj), (s40, .bool fk), (s1, .int k), (s41, .int d), (s42, .int co), (s44, .ref w), (s45, .int i2)]
noncomputable def env13b (b : Bool) (a : Addr) (i j c l ci cj : Int) (fk : Bool) (k d co : Int) (w : Addr) : LEnv := [(s6, .stem b), (s33, .ref a), (s34, .int i), (s35, .int j), (s36, .int c), (s51, .int l), (s38, .int ci), (s39, .int cj), (s40, .bool fk), (s1, .int k), (s41, .int d), (s42, .int co), (s44, .ref w)]
noncomputable def rsOf (a : Addr) : List Addr := (refsOf ((nget a ltab).getD [])).getD []
noncomputable def aOk (a : Addr) : Prop := a = 284 ∨ a = 294 ∨ a = 301 ∨ a = 332 ∨ a = 339
end
end Mine

end

-- EvP2
section
open PySem PySem.W PyProof.Rows
set_option Elab.async false
set_option maxRecDepth 100000
set_option maxHeartbeats 0
set_option linter.all false
namespace Mine
section
variable (Γ : Funs) (cur : List Nat) (c0 l0 lb b0 k0 p m : Int) (tp : Option (List AV)) (o : Option (List (Str × AV))) (a w : Addr) (i j c l ci cj k d co i2 : Int) (fk b : Bool) (κ : AFlow → LEnv → G → Prop)

theorem fa_for_step : (sems Γ faSc 22).s faFor (env14 b a i j c l ci cj fk k d co w i2) (mkG b tp (stF cur c0 l0 lb b0 k0 p m) o) κ =
    (bif (c + co == l) then κ .brk (env14 b a i j c l ci cj fk k (-1) co w i2) (mkG b tp (stF cur c0 l0 lb b0 k0 p m) o)
     else guardA (0 ≤ c + co) (elimA cur[(c + co).toNat]? fun ch => bif Nat.beq w 342 then False else elimA (nget w amtab) fun e => guardA (0 ≤ i2) (elimA e.s[i2.toNat]? fun x =>
       bif !(((ch : Int) - (x : Int)) == 0) then κ .brk (env14 b a i j c l ci cj fk k ((ch : Int) - (x : Int)) co w i2) (mkG b tp (stF cur c0 l0 lb b0 k0 p m) o)
       else κ .next (env14 b a i j c l ci cj fk k ((ch : Int) - (x : Int)) (co + 1) w i2) (mkG b tp (stF cur c0 l0 lb b0 k0 p m) o)))) := by
  cases b <;> kernel_rfl
theorem fab_for_step : (sems Γ fabSc 22).s fabFor (env14b b a i j c l ci cj fk k d co w i2) (mkG b tp (stF cur c0 l0 lb b0 k0 p m) o) κ =
    (bif (c - co == l) then κ .brk (env14b b a i j c l ci cj fk k (-1) co w i2) (mkG b tp (stF cur c0 l0 lb b0 k0 p m) o)
     else guardA (0 ≤ c - 1 - co) (elimA cur[(c - 1 - co).toNat]? fun ch => bif Nat.beq w 342 then False else elimA (nget w amtab) fun e => guardA (0 ≤ i2) (elimA e.s[i2.toNat]? fun x =>
       bif !(((ch : Int) - (x : Int)) == 0) then κ .brk (env14b b a i j c l ci cj fk k ((ch : Int) - (x : Int)) co w i2) (mkG b tp (stF cur c0 l0 lb b0 k0 p m) o)
       else κ .next (env14b b a i j c l ci cj fk k ((ch : Int) - (x : Int)) (co + 1) w i2) (mkG b tp (stF cur c0 l0 lb b0 k0 p m) o)))) := by
  cases b <;> kernel_rfl

noncomputable def tailA (κ : AFlow → LEnv → G → Prop) (mk : Int → Int → Int → Int → Bool → LEnv) (g : G) (i j ci cj : Int) (fk : Bool) : Prop :=
  bif decide (j - i ≤ 1) then (bif decide (i > 0) then κ .brk (mk i j ci cj fk) g else bif j == i then κ .brk (mk i j ci cj fk) g else bif fk then κ .brk (mk i j ci cj fk) g else κ .next (mk i j ci cj true) g)
  else κ .next (mk i j ci cj fk) g
theorem fa_rest : sA faSc (sems Γ faSc 22) (faW1.drop 5) (env14 b a i j c l ci cj fk k d co w i2) (mkG b tp (stF cur c0 l0 lb b0 k0 p m) o) κ =
    (bif decide (d < 0) then tailA κ (fun i j ci cj fk => env14 b a i j c l ci cj fk k d co w i2) (mkG b tp (stF cur c0 l0 lb b0 k0 p m) o) i k ci co fk
     else tailA κ (fun i j ci cj fk => env14 b a i j c l ci cj fk k d co w i2) (mkG b tp (stF cur c0 l0 lb b0 k0 p m) o) k j co cj fk) := by
  cases b <;> kernel_rfl
theorem fab_rest : sA fabSc (sems Γ fabSc 22) (fabW1.drop 5) (env14b b a i j c l ci cj fk k d co w i2) (mkG b tp (stF cur c0 l0 lb b0 k0 p m) o) κ =
    (bif decide (d < 0) then tailA κ (fun i j ci cj fk => env14b b a i j c l ci cj fk k d co w i2) (mkG b tp (stF cur c0 l0 lb b0 k0 p m) o) i k ci co fk
     else tailA κ (fun i j ci cj fk => env14b b a i j c l ci cj fk k d co w i2) (mkG b tp (stF cur c0 l0 lb b0 k0 p m) o) k j co cj fk) := by
  cases b <;> kernel_rfl

noncomputable def kmid (i j : Int) : Int := i + Int.fdiv (j - i) 2
noncomputable def cmin (ci cj : Int) : Int := if cj < ci then cj else ci
theorem fa_turn (ha : aOk a) : (sems Γ faSc 23).s faW1 (env14 b a i j c l ci cj fk k d co w i2) (mkG b tp (stF cur c0 l0 lb b0 k0 p m) o) κ =
    guardA (0 ≤ kmid i j) (elimA (rsOf a)[(kmid i j).toNat]? fun w' => bif Nat.beq w' 342 then False else elimA (nget w' amtab) fun e => guardA (fitI (cmin ci cj) ∧ fitI (e.s.length : Int))
      (forA (sems Γ faSc 22) s45 faFor (rangeI (cmin ci cj) (e.s.length : Int) 1) (env14 b a i j c l ci cj fk (kmid i j) 0 (cmin ci cj) w' i2) (mkG b tp (stF cur c0 l0 lb b0 k0 p m) o)
        fun fl ρ g => match fl with | .next => sA faSc (sems Γ faSc 22) (faW1.drop 5) ρ g κ | fl => κ fl ρ g)) := by
  rcases ha with rfl | rfl | rfl | rfl | rfl <;> cases b <;> kernel_rfl
theorem fa_turn0 (ha : aOk a) : (sems Γ faSc 23).s faW1 (env9 b a i j c l ci cj fk) (mkG b tp (stF cur c0 l0 lb b0 k0 p m) o) κ =
    guardA (0 ≤ kmid i j) (elimA (rsOf a)[(kmid i j).toNat]? fun w' => bif Nat.beq w' 342 then False else elimA (nget w' amtab) fun e => guardA (fitI (cmin ci cj) ∧ fitI (e.s.length : Int))
      (forA (sems Γ faSc 22) s45 faFor (rangeI (cmin ci cj) (e.s.length : Int) 1) (env13 b a i j c l ci cj fk (kmid i j) 0 (cmin ci cj) w') (mkG b tp (stF cur c0 l0 lb b0 k0 p m) o)
        fun fl ρ g => match fl with | .next => sA faSc (sems Γ faSc 22) (faW1.drop 5) ρ g κ | fl => κ fl ρ g)) := by
  rcases ha with rfl | rfl | rfl | rfl | rfl <;> cases b <;> kernel_rfl
theorem fab_turn (ha : aOk a) : (sems Γ fabSc 23).s fabW1 (env14b b a i j c l ci cj fk k d co w i2) (mkG b tp (stF cur c0 l0 lb b0 k0 p m) o) κ =
    guardA (0 ≤ kmid i j) (elimA (rsOf a)[(kmid i j).toNat]? fun w' => bif Nat.beq w' 342 then False else elimA (nget w' amtab) fun e => guardA (-1 = -1 ∧ fitI ((e.s.length : Int) - 1 - cmin ci cj) ∧ fitI (-1))
      (forA (sems Γ fabSc 22) s45 fabFor (rangeI ((e.s.length : Int) - 1 - cmin ci cj) (-1) (-1)) (env14b b a i j c l ci cj fk (kmid i j) 0 (cmin ci cj) w' i2) (mkG b tp (stF cur c0 l0 lb b0 k0 p m) o)
        fun fl ρ g => match fl with | .next => sA fabSc (sems Γ fabSc 22) (fabW1.drop 5) ρ g κ | fl => κ fl ρ g)) := by
  rcases ha with rfl | rfl | rfl | rfl | rfl <;> cases b <;> kernel_rfl
theorem fab_turn0 (ha : aOk a) : (sems Γ fabSc 23).s fabW1 (env9b b a i j c l ci cj fk) (mkG b tp (stF cur c0 l0 lb b0 k0 p m) o) κ =
    guardA (0 ≤ kmid i j) (elimA (rsOf a)[(kmid i j).toNat]? fun w' => bif Nat.beq w' 342 then False else elimA (nget w' amtab) fun e => guardA (-1 = -1 ∧ fitI ((e.s.length : Int) - 1 - cmin ci cj) ∧ fitI (-1))
      (forA (sems Γ fabSc 22) s45 fabFor (rangeI ((e.s.length : Int) - 1 - cmin ci cj) (-1) (-1)) (env13b b a i j c l ci cj fk (kmid i j) 0 (cmin ci cj) w') (mkG b tp (stF cur c0 l0 lb b0 k0 p m) o)
        fun fl ρ g => match fl with | .next => sA fabSc (sems Γ fabSc 22) (fabW1.drop 5) ρ g κ | fl => κ fl ρ g)) := by
  rcases ha with rfl | rfl | rfl | rfl | rfl <;> cases b <;> kernel_rfl
end
end Mine

end

-- EvP3
section
open PySem PySem.W PyProof.Rows
set_option Elab.async false
set_option maxRecDepth 100000
set_option maxHeartbeats 0
set_option linter.all false
namespace Mine
noncomputable def amA (w : Addr) (κ : Am → Prop) : Prop := bif Nat.beq w 342 then False else elimA (nget w amtab) κ
noncomputable def endA (κ : AV → G → Prop) : AFlow → LEnv → G → Prop := fun fl _ g => match fl with
  | .ret v => κ v g
  | .next => κ .none g
  | _ => False
section
variable (Γ : Funs) (cur : List Nat) (c0 l0 lb b0 k0 p m : Int) (tp : Option (List AV)) (o : Option (List (Str × AV))) (a w : Addr) (i j c l ci cj k d co i2 : Int) (fk b : Bool) (κ : AFlow → LEnv → G → Prop) (κv : AV → G → Prop)

theorem fa_turn2 (ha : aOk a) : (sems Γ faSc 23).s faW2 (env14 b a i j c l ci cj fk k d co w i2) (mkG b tp (stF cur c0 l0 lb b0 k0 p m) o) κ =
    guardA (0 ≤ i) (elimA (rsOf a)[i.toNat]? fun w' => amA w' fun e =>
      bif decide (ci ≥ (e.s.length : Int)) then amA w' fun e2 => amA w' fun e3 => κ (.ret (.int e3.res)) (env14 b a i j c l ci cj fk k d co w' i2) (mkG b tp (stF cur (c + (e2.s.length : Int)) l0 lb b0 k0 p m) o)
      else amA w' fun e => bif decide (e.sub < 0) then κ (.ret (.int 0)) (env14 b a e.sub j c l ci cj fk k d co w' i2) (mkG b tp (stF cur c0 l0 lb b0 k0 p m) o)
      else κ .next (env14 b a e.sub j c l ci cj fk k d co w' i2) (mkG b tp (stF cur c0 l0 lb b0 k0 p m) o)) := by
  rcases ha with rfl | rfl | rfl | rfl | rfl <;> cases b <;> kernel_rfl
theorem fab_turn2 (ha : aOk a) : (sems Γ fabSc 23).s fabW2 (env14b b a i j c l ci cj fk k d co w i2) (mkG b tp (stF cur c0 l0 lb b0 k0 p m) o) κ =
    guardA (0 ≤ i) (elimA (rsOf a)[i.toNat]? fun w' => amA w' fun e =>
      bif decide (ci ≥ (e.s.length : Int)) then amA w' fun e2 => amA w' fun e3 => κ (.ret (.int e3.res)) (env14b b a i j c l ci cj fk k d co w' i2) (mkG b tp (stF cur (c - (e2.s.length : Int)) l0 lb b0 k0 p m) o)
      else amA w' fun e => bif decide (e.sub < 0) then κ (.ret (.int 0)) (env14b b a e.sub j c l ci cj fk k d co w' i2) (mkG b tp (stF cur c0 l0 lb b0 k0 p m) o)
      else κ .next (env14b b a e.sub j c l ci cj fk k d co w' i2) (mkG b tp (stF cur c0 l0 lb b0 k0 p m) o)) := by
  rcases ha with rfl | rfl | rfl | rfl | rfl <;> cases b <;> kernel_rfl
theorem fa_whole (ha : aOk a) : stepF Γ 133 [.stem b, .ref a] (mkG b tp (stF cur c0 l0 lb b0 k0 p m) o) κv =
    whileA (sems Γ faSc 23) faW1 16 (env9 b a 0 ((rsOf a).length : Int) c0 l0 0 0 false) (mkG b tp (stF cur c0 l0 lb b0 k0 p m) o)
      fun fl ρ g => match fl with | .next => sA faSc (sems Γ faSc 23) (faB.drop 8) ρ g (endA κv) | fl => endA κv fl ρ g := by
  rcases ha with rfl | rfl | rfl | rfl | rfl <;> cases b <;> kernel_rfl
theorem fab_whole (ha : aOk a) : stepF Γ 140 [.stem b, .ref a] (mkG b tp (stF cur c0 l0 lb b0 k0 p m) o) κv =
    whileA (sems Γ fabSc 23) fabW1 16 (env9b b a 0 ((rsOf a).length : Int) c0 lb 0 0 false) (mkG b tp (stF cur c0 l0 lb b0 k0 p m) o)
      fun fl ρ g => match fl with | .next => sA fabSc (sems Γ fabSc 23) (fabB.drop 8) ρ g (endA κv) | fl => endA κv fl ρ g := by
  rcases ha with rfl | rfl | rfl | rfl | rfl <;> cases b <;> kernel_rfl
theorem fa_second (ρ : LEnv) (g : G) : sA faSc (sems Γ faSc 23) (faB.drop 8) ρ g κ =
    whileA (sems Γ faSc 23) faW2 16 ρ g fun fl ρ g => match fl with | .next => κ (.ret (.int (-1))) ρ g | fl => κ fl ρ g := by
  kernel_rfl
theorem fab_second (ρ : LEnv) (g : G) : sA fabSc (sems Γ fabSc 23) (fabB.drop 8) ρ g κ =
    whileA (sems Γ fabSc 23) fabW2 16 ρ g fun fl ρ g => match fl with | .next => κ (.ret (.int (-1))) ρ g | fl => κ fl ρ g := by
  kernel_rfl
end
end Mine

end

-- EvP4
section
open PySem PySem.W PyProof.Rows
set_option Elab.async false
set_option maxRecDepth 100000
set_option maxHeartbeats 0
set_option linter.all false
namespace Mine
noncomputable section
noncomputable def amW (w : Addr) : Am := (nget w amtab).getD ⟨[], 0, 0⟩
noncomputable def wsOf (a : Addr) : List Am := (rsOf a).map amW
end
theorem ams_ok {a w : Addr} (ha : aOk a) (hw : w ∈ rsOf a) : Nat.beq w 342 = false ∧ nget w amtab = some (amW w) := by
  have h : (rsOf a).map (fun w => (Nat.beq w 342, nget w amtab)) = (rsOf a).map (fun w => (false, some (amW w))) := by
    rcases ha with rfl | rfl | rfl | rfl | rfl <;> kernel_rfl
  have := map_at h hw
  simp only [Prod.mk.injEq] at this
  exact this
theorem amA_ok {a w : Addr} (ha : aOk a) (hw : w ∈ rsOf a) {κ : Am → Prop} (h : κ (amW w)) : amA w κ := by
  obtain ⟨h1, h2⟩ := ams_ok ha hw
  unfold amA
  rw [h1, h2]
  exact h
noncomputable def cmpF : List Nat → List Nat → Int × Nat
  | _, [] => (0, 0)
  | [], _ :: _ => (-1, 0)
  | y :: ys, x :: xs => if y = x then ((cmpF ys xs).1, (cmpF ys xs).2 + 1) else ((y : Int) - x, 0)
theorem rangeI_nil (a : Int) : rangeI a a 1 = [] := by
  have := rangeI_len a a 1
  rw [size_one, if_neg (by omega)] at this
  exact List.eq_nil_of_length_eq_zero this
theorem rangeI_cons (a : Int) (n : Nat) : rangeI a (a + ((n + 1 : Nat) : Int)) 1 = .int a :: rangeI (a + 1) (a + 1 + (n : Int)) 1 := by
  unfold rangeI
  rw [size_one, size_one, if_pos (by omega)]
  have e1 : (a + ((n + 1 : Nat) : Int) - a).toNat = n + 1 := by omega
  have e2 : (if a + 1 < a + 1 + (n : Int) then a + 1 + (n : Int) - (a + 1) else 0).toNat = n := by split <;> omega
  rw [e1, e2, List.range_succ_eq_map]
  simp only [List.map_cons, List.map_map]
  congr 1
  · simp
  · apply List.map_congr_left
    intro i _
    simp only [Function.comp, Nat.succ_eq_add_one]
    congr 1
    push_cast
    omega
theorem rangeN_nil : rangeI (-1) (-1) (-1) = [] := by
  have := rangeI_len (-1) (-1) (-1)
  rw [size_neg, if_neg (by omega)] at this
  exact List.eq_nil_of_length_eq_zero this
theorem rangeN_cons (n : Nat) : rangeI (n : Int) (-1) (-1) = .int (n : Int) :: rangeI ((n : Int) - 1) (-1) (-1) := by
  unfold rangeI
  rw [size_neg, size_neg, if_pos (by omega)]
  have e1 : ((n : Int) - -1).toNat = n + 1 := by omega
  have e2 : (if (n : Int) - 1 > -1 then (n : Int) - 1 - -1 else 0).toNat = n := by split <;> omega
  rw [e1, e2, List.range_succ_eq_map]
  simp only [List.map_cons, List.map_map]
  congr 1
  · simp
    intro i _
    omega

section
variable (Γ : Funs) (cur : List Nat) (c0 l0 lb b0 k0 p m : Int) (tp : Option (List AV)) (o : Option (List (Str × AV))) (a w : Addr) (i j c l ci cj k : Int) (fk b : Bool) (κ : AFlow → LEnv → G → Prop)

theorem aput14 (d co i2 v : Int) : aput s45 (.int v) (env14 b a i j c l ci cj fk k d co w i2) = env14 b a i j c l ci cj fk k d co w v := by kernel_rfl
theorem aput13 (d co v : Int) : aput s45 (.int v) (env13 b a i j c l ci cj fk k d co w) = env14 b a i j c l ci cj fk k d co w v := by kernel_rfl
theorem aput14b (d co i2 v : Int) : aput s45 (.int v) (env14b b a i j c l ci cj fk k d co w i2) = env14b b a i j c l ci cj fk k d co w v := by kernel_rfl
theorem aput13b (d co v : Int) : aput s45 (.int v) (env13b b a i j c l ci cj fk k d co w) = env14b b a i j c l ci cj fk k d co w v := by kernel_rfl

-- one sign of the inner loop, and then the rest
theorem fa_sign (ha : aOk a) (hw : w ∈ rsOf a) {co n : Nat} (hn : (amW w).s.length = co + (n + 1)) (h0 : 0 ≤ c) (h1 : c + co ≤ l) (h2 : l ≤ cur.length) {d : Int} {K : AFlow → LEnv → G → Prop}
    (hb : c + co = l → K .brk (env14 b a i j c l ci cj fk k (-1) co w co) (mkG b tp (stF cur c0 l0 lb b0 k0 p m) o))
    (hx : ∀ y x, cur[(c + co).toNat]? = some y → (amW w).s[co]? = some x → c + co < l → y ≠ x → K .brk (env14 b a i j c l ci cj fk k ((y : Int) - x) co w co) (mkG b tp (stF cur c0 l0 lb b0 k0 p m) o))
    (he : ∀ y, cur[(c + co).toNat]? = some y → (amW w).s[co]? = some y → c + co < l → K .next (env14 b a i j c l ci cj fk k 0 ((co + 1 : Nat) : Int) w co) (mkG b tp (stF cur c0 l0 lb b0 k0 p m) o)) :
    (sems Γ faSc 22).s faFor (env14 b a i j c l ci cj fk k d co w co) (mkG b tp (stF cur c0 l0 lb b0 k0 p m) o) K := by
  rw [fa_for_step]
  by_cases hl : c + co = l
  · have : (c + (co : Int) == l) = true := by simpa using hl
    rw [this]
    exact hb hl
  · have : (c + (co : Int) == l) = false := by simpa using hl
    rw [this]
    simp only [cond_false]
    refine guard_iff.mpr ⟨by omega, ?_⟩
    have hlt : (c + co).toNat < cur.length := by omega
    refine elim_iff.mpr ⟨cur[(c + co).toNat], List.getElem?_eq_getElem hlt, ?_⟩
    obtain ⟨q1, q2⟩ := ams_ok ha hw
    rw [q1, q2]
    have hlt2 : co < (amW w).s.length := by omega
    show guardA (0 ≤ (co : Int)) (elimA (amW w).s[(co : Int).toNat]? _)
    refine guard_iff.mpr ⟨by omega, elim_iff.mpr ⟨(amW w).s[co], by rw [Int.toNat_natCast]; exact List.getElem?_eq_getElem hlt2, ?_⟩⟩
    by_cases e : cur[(c + co).toNat] = (amW w).s[co]
    · have z : (((cur[(c + co).toNat] : Nat) : Int) - (((amW w).s[co] : Nat) : Int)) = 0 := by rw [e]; omega
      rw [z]
      exact he _ (List.getElem?_eq_getElem hlt) (by rw [e]; exact List.getElem?_eq_getElem hlt2) (by omega)
    · have z : ((((cur[(c + co).toNat] : Nat) : Int) - (((amW w).s[co] : Nat) : Int)) == 0) = false := by
        simp only [beq_eq_false_iff_ne, ne_eq]; omega
      rw [z]
      exact hx _ _ (List.getElem?_eq_getElem hlt) (List.getElem?_eq_getElem hlt2) (by omega) e
end
end Mine

end

-- EvP5
section
open PySem PySem.W PyProof.Rows
set_option Elab.async false
set_option maxRecDepth 100000
set_option maxHeartbeats 0
set_option linter.all false
namespace Mine
theorem drop_at {l : List Nat} {k : Nat} {y : Nat} (h : l[k]? = some y) : l.drop k = y :: l.drop (k + 1) := by
  obtain ⟨hk, e⟩ := List.getElem?_eq_some_iff.mp h
  rw [List.drop_eq_getElem_cons hk, e]
noncomputable def txF (cur : List Nat) (c l : Int) : List Nat := (cur.take l.toNat).drop c.toNat
noncomputable def txB (cur : List Nat) (c l : Int) : List Nat := ((cur.take c.toNat).drop l.toNat).reverse
theorem txF_at {cur : List Nat} {c l : Int} {co : Nat} (h0 : 0 ≤ c) (h1 : c + co < l) : (txF cur c l)[co]? = cur[(c + co).toNat]? := by
  unfold txF
  rw [List.getElem?_drop, List.getElem?_take]
  have e : c.toNat + co = (c + co).toNat := by omega
  rw [e, if_pos (by omega)]
theorem txF_end {cur : List Nat} {c l : Int} {co : Nat} (h0 : 0 ≤ c) (h1 : c + co = l) (h2 : l ≤ cur.length) : (txF cur c l).drop co = [] := by
  unfold txF
  rw [List.drop_drop]
  apply List.drop_eq_nil_of_le
  rw [List.length_take]
  omega
section
variable (Γ : Funs) (cur : List Nat) (c0 l0 lb b0 k0 p m : Int) (tp : Option (List AV)) (o : Option (List (Str × AV))) (a w : Addr) (i j c l ci cj k : Int) (fk b : Bool) (κ : AFlow → LEnv → G → Prop)

theorem fa_inner (ha : aOk a) (hw : w ∈ rsOf a) (h0 : 0 ≤ c) (h2 : l ≤ cur.length) : ∀ (n co : Nat) (d i2 : Int), (amW w).s.length = co + n → c + co ≤ l → d = 0 →
    (∀ i2', κ .next (env14 b a i j c l ci cj fk k (cmpF ((txF cur c l).drop co) ((amW w).s.drop co)).1 (((co + (cmpF ((txF cur c l).drop co) ((amW w).s.drop co)).2 : Nat)) : Int) w i2') (mkG b tp (stF cur c0 l0 lb b0 k0 p m) o)) →
    forA (sems Γ faSc 22) s45 faFor (rangeI co ((co : Int) + (n : Int)) 1) (env14 b a i j c l ci cj fk k d co w i2) (mkG b tp (stF cur c0 l0 lb b0 k0 p m) o) κ := by
  intro n
  induction n with
  | zero =>
    intro co d i2 hn h1 hd h
    subst hd
    have e : (amW w).s.drop co = [] := List.drop_eq_nil_of_le (by omega)
    rw [e] at h
    rw [show ((co : Int) + ((0 : Nat) : Int)) = co by simp, rangeI_nil]
    unfold forA
    have := h i2
    unfold cmpF at this
    simpa using this
  | succ n ih =>
    intro co d i2 hn h1 hd h
    rw [rangeI_cons]
    unfold forA
    rw [aput14]
    have hlt : co < (amW w).s.length := by omega
    refine fa_sign Γ cur c0 l0 lb b0 k0 p m tp o a w i j c l ci cj k fk b ha hw hn h0 h1 h2 (fun e => ?_) (fun y x hy hx hc hne => ?_) fun y hy hx hc => ?_
    · have := h co
      rw [txF_end h0 e h2, drop_at (List.getElem?_eq_getElem hlt)] at this
      unfold cmpF at this
      simpa using this
    · have := h co
      rw [drop_at hx, drop_at (by rw [txF_at h0 hc]; exact hy)] at this
      unfold cmpF at this
      rw [if_neg hne] at this
      simpa using this
    · have e : ((co : Int) + 1) = ((co + 1 : Nat) : Int) := by push_cast; rfl
      show forA _ _ _ (rangeI ((co : Int) + 1) ((co : Int) + 1 + (n : Int)) 1) _ _ _
      rw [e]
      refine ih (co + 1) 0 co (by omega) (by omega) rfl fun i2' => ?_
      have := h i2'
      rw [drop_at hx, drop_at (by rw [txF_at h0 hc]; exact hy)] at this
      unfold cmpF at this
      rw [if_pos rfl] at this
      simp only at this
      rw [show co + 1 + (cmpF ((txF cur c l).drop (co + 1)) ((amW w).s.drop (co + 1))).2 = co + ((cmpF ((txF cur c l).drop (co + 1)) ((amW w).s.drop (co + 1))).2 + 1) by omega]
      exact this
end
end Mine

end

-- EvP6
section
open PySem PySem.W PyProof.Rows
set_option Elab.async false
set_option maxRecDepth 100000
set_option maxHeartbeats 0
set_option linter.all false
namespace Mine
theorem txB_at {cur : List Nat} {c l : Int} {co : Nat} (h0 : 0 ≤ l) (h1 : l < c - co) (h2 : c ≤ cur.length) : (txB cur c l)[co]? = cur[(c - 1 - co).toNat]? := by
  unfold txB
  have hlen : ((cur.take c.toNat).drop l.toNat).length = c.toNat - l.toNat := by
    rw [List.length_drop, List.length_take]; omega
  rw [List.getElem?_reverse (by rw [hlen]; omega), hlen, List.getElem?_drop, List.getElem?_take]
  have e : l.toNat + (c.toNat - l.toNat - 1 - co) = (c - 1 - co).toNat := by omega
  rw [e, if_pos (by omega)]
theorem txB_end {cur : List Nat} {c l : Int} {co : Nat} (h0 : 0 ≤ l) (h1 : c - co = l) (h2 : c ≤ cur.length) : (txB cur c l).drop co = [] := by
  apply List.drop_eq_nil_of_le
  unfold txB
  rw [List.length_reverse, List.length_drop, List.length_take]
  omega
section
variable (Γ : Funs) (cur : List Nat) (c0 l0 lb b0 k0 p m : Int) (tp : Option (List AV)) (o : Option (List (Str × AV))) (a w : Addr) (i j c l ci cj k : Int) (fk b : Bool) (κ : AFlow → LEnv → G → Prop)

theorem fa_inner13 {x : Str} {S : Sems} {body : List Stmt} {n : Nat} {co : Int} {d : Int} {g : G} : forA S s45 body (rangeI co (co + ((n + 1 : Nat) : Int)) 1) (env13 b a i j c l ci cj fk k d co w) g κ = forA S s45 body (rangeI co (co + ((n + 1 : Nat) : Int)) 1) (env14 b a i j c l ci cj fk k d co w 0) g κ := by
  rw [rangeI_cons]
  unfold forA
  rw [aput14, aput13]
theorem fab_inner13 {S : Sems} {body : List Stmt} {n : Nat} {co : Int} {d : Int} {g : G} : forA S s45 body (rangeI (n : Int) (-1) (-1)) (env13b b a i j c l ci cj fk k d co w) g κ = forA S s45 body (rangeI (n : Int) (-1) (-1)) (env14b b a i j c l ci cj fk k d co w 0) g κ := by
  rw [rangeN_cons]
  unfold forA
  rw [aput14b, aput13b]

theorem fab_sign (ha : aOk a) (hw : w ∈ rsOf a) {co n : Nat} (hn : (amW w).s.length = co + (n + 1)) (h0 : 0 ≤ l) (h1 : l ≤ c - co) (h2 : c ≤ cur.length) {d : Int} {K : AFlow → LEnv → G → Prop}
    (hb : c - co = l → K .brk (env14b b a i j c l ci cj fk k (-1) co w n) (mkG b tp (stF cur c0 l0 lb b0 k0 p m) o))
    (hx : ∀ y x, cur[(c - 1 - co).toNat]? = some y → (amW w).s.reverse[co]? = some x → l < c - co → y ≠ x → K .brk (env14b b a i j c l ci cj fk k ((y : Int) - x) co w n) (mkG b tp (stF cur c0 l0 lb b0 k0 p m) o))
    (he : ∀ y, cur[(c - 1 - co).toNat]? = some y → (amW w).s.reverse[co]? = some y → l < c - co → K .next (env14b b a i j c l ci cj fk k 0 ((co + 1 : Nat) : Int) w n) (mkG b tp (stF cur c0 l0 lb b0 k0 p m) o)) :
    (sems Γ fabSc 22).s fabFor (env14b b a i j c l ci cj fk k d co w n) (mkG b tp (stF cur c0 l0 lb b0 k0 p m) o) K := by
  rw [fab_for_step]
  by_cases hl : c - co = l
  · have : (c - (co : Int) == l) = true := by simpa using hl
    rw [this]
    exact hb hl
  · have : (c - (co : Int) == l) = false := by simpa using hl
    rw [this]
    simp only [cond_false]
    refine guard_iff.mpr ⟨by omega, ?_⟩
    have hlt : (c - 1 - co).toNat < cur.length := by omega
    refine elim_iff.mpr ⟨cur[(c - 1 - co).toNat], List.getElem?_eq_getElem hlt, ?_⟩
    obtain ⟨q1, q2⟩ := ams_ok ha hw
    rw [q1, q2]
    have hlt2 : n < (amW w).s.length := by omega
    have hrev : (amW w).s.reverse[co]? = some (amW w).s[n] := by
      rw [List.getElem?_reverse (by omega), hn, show co + (n + 1) - 1 - co = n by omega]
      exact List.getElem?_eq_getElem hlt2
    show guardA (0 ≤ (n : Int)) (elimA (amW w).s[(n : Int).toNat]? _)
    refine guard_iff.mpr ⟨by omega, elim_iff.mpr ⟨(amW w).s[n], by rw [Int.toNat_natCast]; exact List.getElem?_eq_getElem hlt2, ?_⟩⟩
    by_cases e : cur[(c - 1 - co).toNat] = (amW w).s[n]
    · have z : (((cur[(c - 1 - co).toNat] : Nat) : Int) - (((amW w).s[n] : Nat) : Int)) = 0 := by rw [e]; omega
      rw [z]
      exact he _ (List.getElem?_eq_getElem hlt) (by rw [e]; exact hrev) (by omega)
    · have z : ((((cur[(c - 1 - co).toNat] : Nat) : Int) - (((amW w).s[n] : Nat) : Int)) == 0) = false := by
        simp only [beq_eq_false_iff_ne, ne_eq]; omega
      rw [z]
      exact hx _ _ (List.getElem?_eq_getElem hlt) hrev (by omega) e

theorem fab_inner (ha : aOk a) (hw : w ∈ rsOf a) (h0 : 0 ≤ l) (h2 : c ≤ cur.length) : ∀ (n co : Nat) (d i2 : Int), (amW w).s.length = co + n → l ≤ c - co → d = 0 →
    (∀ i2', κ .next (env14b b a i j c l ci cj fk k (cmpF ((txB cur c l).drop co) ((amW w).s.reverse.drop co)).1 (((co + (cmpF ((txB cur c l).drop co) ((amW w).s.reverse.drop co)).2 : Nat)) : Int) w i2') (mkG b tp (stF cur c0 l0 lb b0 k0 p m) o)) →
    forA (sems Γ fabSc 22) s45 fabFor (rangeI ((n : Int) - 1) (-1) (-1)) (env14b b a i j c l ci cj fk k d co w i2) (mkG b tp (stF cur c0 l0 lb b0 k0 p m) o) κ := by
  intro n
  induction n with
  | zero =>
    intro co d i2 hn h1 hd h
    subst hd
    have e : (amW w).s.reverse.drop co = [] := List.drop_eq_nil_of_le (by rw [List.length_reverse]; omega)
    rw [e] at h
    rw [show ((0 : Nat) : Int) - 1 = -1 by rfl, rangeN_nil]
    unfold forA
    have := h i2
    unfold cmpF at this
    simpa using this
  | succ n ih =>
    intro co d i2 hn h1 hd h
    rw [show ((n + 1 : Nat) : Int) - 1 = (n : Int) by push_cast; omega, rangeN_cons]
    unfold forA
    rw [aput14b]
    have hlt : co < (amW w).s.reverse.length := by rw [List.length_reverse]; omega
    refine fab_sign Γ cur c0 l0 lb b0 k0 p m tp o a w i j c l ci cj k fk b ha hw hn h0 h1 h2 (fun e => ?_) (fun y x hy hx hc hne => ?_) fun y hy hx hc => ?_
    · have := h n
      rw [txB_end h0 e h2, drop_at (List.getElem?_eq_getElem hlt)] at this
      unfold cmpF at this
      simpa using this
    · have := h n
      rw [drop_at hx, drop_at (by rw [txB_at h0 hc h2]; exact hy)] at this
      unfold cmpF at this
      rw [if_neg hne] at this
      simpa using this
    · refine ih (co + 1) 0 n (by omega) (by push_cast; omega) rfl fun i2' => ?_
      have := h i2'
      rw [drop_at hx, drop_at (by rw [txB_at h0 hc h2]; exact hy)] at this
      unfold cmpF at this
      rw [if_pos rfl] at this
      simp only at this
      rw [show co + 1 + (cmpF ((txB cur c l).drop (co + 1)) ((amW w).s.reverse.drop (co + 1))).2 = co + ((cmpF ((txB cur c l).drop (co + 1)) ((amW w).s.reverse.drop (co + 1))).2 + 1) by omega]
      exact this
end
end Mine

end

-- EvP7
section
open PySem PySem.W PyProof.Rows
set_option Elab.async false
set_option maxRecDepth 100000
set_option maxHeartbeats 0
set_option linter.all false
namespace Mine
theorem cmpF_le : ∀ (t w : List Nat), (cmpF t w).2 ≤ t.length
  | _, [] => by simp [cmpF]
  | [], _ :: _ => by simp [cmpF]
  | y :: ys, x :: xs => by
    unfold cmpF
    split
    · have := cmpF_le ys xs
      simp; omega
    · simp
-- the seek, plain
noncomputable def seek1 (ws : List (List Nat)) (t : List Nat) : Nat → Nat → Nat → Nat → Nat → Bool → Option (Nat × Nat)
  | 0, _, _, _, _, _ => none
  | n + 1, i, j, ci, cj, fk => match ws[i + (j - i) / 2]? with
    | none => none
    | some w =>
      let k := i + (j - i) / 2
      let r := cmpF (t.drop (min ci cj)) (w.drop (min ci cj))
      let co := min ci cj + r.2
      if r.1 < 0 then
        (if k - i ≤ 1 then (if 0 < i then some (i, ci) else if k = i then some (i, ci) else if fk then some (i, ci) else seek1 ws t n i k ci co true) else seek1 ws t n i k ci co fk)
      else (if j - k ≤ 1 then (if 0 < k then some (k, co) else if j = k then some (k, co) else if fk then some (k, co) else seek1 ws t n k j co cj true) else seek1 ws t n k j co cj fk)
theorem kmid_nat {i j : Nat} (h : i ≤ j) : kmid i j = ((i + (j - i) / 2 : Nat) : Int) := by
  unfold kmid
  rw [Int.fdiv_eq_ediv_of_nonneg _ (by omega)]
  omega
theorem cmin_nat (ci cj : Nat) : cmin ci cj = ((min ci cj : Nat) : Int) := by
  unfold cmin
  split <;> omega
noncomputable def wordsOf (a : Addr) : List (List Nat) := (rsOf a).map fun w => (amW w).s
theorem words_at {a : Addr} {k : Nat} {w : List Nat} (h : (wordsOf a)[k]? = some w) : ∃ r, (rsOf a)[k]? = some r ∧ r ∈ rsOf a ∧ (amW r).s = w := by
  unfold wordsOf at h
  rw [List.getElem?_map] at h
  obtain ⟨r, h1, h2⟩ := Option.map_eq_some_iff.mp h
  exact ⟨r, h1, List.mem_of_getElem? h1, h2⟩
theorem words_short {a w : Addr} (ha : aOk a) (hw : w ∈ rsOf a) : 0 < (amW w).s.length ∧ (amW w).s.length ≤ 4 := by
  have h : (rsOf a).map (fun w => decide (0 < (amW w).s.length ∧ (amW w).s.length ≤ 4)) = (rsOf a).map (fun w => true) := by
    rcases ha with rfl | rfl | rfl | rfl | rfl <;> kernel_rfl
  exact of_decide_eq_true (map_at h hw)
theorem txF_len {cur : List Nat} {c l : Int} (h0 : 0 ≤ c) (h2 : l ≤ cur.length) : (txF cur c l).length = (l - c).toNat := by
  unfold txF
  rw [List.length_drop, List.length_take]
  omega
theorem rangeI_empty {x y : Int} (h : y ≤ x) : rangeI x y 1 = [] := by
  have := rangeI_len x y 1
  rw [size_one, if_neg (by omega)] at this
  exact List.eq_nil_of_length_eq_zero this

-- the tail of a turn
theorem tail_ok {κ : AFlow → LEnv → G → Prop} {mk : Int → Int → Int → Int → Bool → LEnv} {g : G} {i j ci cj : Nat} {fk : Bool} {ws : List (List Nat)} {t : List Nat} {n : Nat} {r : Nat × Nat} (hij : i ≤ j)
    (h : (if j - i ≤ 1 then (if 0 < i then some (i, ci) else if j = i then some (i, ci) else if fk then some (i, ci) else seek1 ws t n i j ci cj true) else seek1 ws t n i j ci cj fk) = some r)
    (hb : (r = (i, ci)) → κ .brk (mk i j ci cj fk) g) (hn : ∀ fk', seek1 ws t n i j ci cj fk' = some r → κ .next (mk i j ci cj fk') g) : tailA κ mk g i j ci cj fk := by
  unfold tailA
  by_cases h1 : j - i ≤ 1
  · rw [if_pos h1] at h
    rw [show decide ((j : Int) - i ≤ 1) = true by simp; omega]
    simp only [cond_true]
    by_cases h2 : 0 < i
    · rw [if_pos h2] at h
      rw [show decide ((i : Int) > 0) = true by simp; omega]
      exact hb (Option.some.inj h).symm
    · rw [if_neg h2] at h
      rw [show decide ((i : Int) > 0) = false by simp; omega]
      simp only [cond_false]
      by_cases h3 : j = i
      · rw [if_pos h3] at h
        rw [show ((j : Int) == i) = true by simp [h3]]
        exact hb (Option.some.inj h).symm
      · rw [if_neg h3] at h
        rw [show ((j : Int) == i) = false by simp; omega]
        simp only [cond_false]
        cases fk with
        | true => exact hb (Option.some.inj h).symm
        | false => exact hn true h
  · rw [if_neg h1] at h
    rw [show decide ((j : Int) - i ≤ 1) = false by simp; omega]
    exact hn fk h
end Mine

end

-- EvP8
section
open PySem PySem.W PyProof.Rows
set_option Elab.async false
set_option maxRecDepth 100000
set_option maxHeartbeats 0
set_option linter.all false
namespace Mine
section
variable (Γ : Funs) (cur : List Nat) (c0 l0 lb b0 k0 p m : Int) (tp : Option (List AV)) (o : Option (List (Str × AV))) (a : Addr) (c l : Int) (b : Bool) (κ : AFlow → LEnv → G → Prop)

noncomputable def seekK (ws : List (List Nat)) (t : List Nat) (n : Nat) (r : Nat × Nat) (i j ci cj : Nat) (fk : Bool) (w : List Nat) (k : Nat) : Prop :=
  (if (cmpF (t.drop (min ci cj)) (w.drop (min ci cj))).1 < 0 then
        (if k - i ≤ 1 then (if 0 < i then some (i, ci) else if k = i then some (i, ci) else if fk then some (i, ci) else seek1 ws t n i k ci (min ci cj + (cmpF (t.drop (min ci cj)) (w.drop (min ci cj))).2) true) else seek1 ws t n i k ci (min ci cj + (cmpF (t.drop (min ci cj)) (w.drop (min ci cj))).2) fk)
      else (if j - k ≤ 1 then (if 0 < k then some (k, min ci cj + (cmpF (t.drop (min ci cj)) (w.drop (min ci cj))).2) else if j = k then some (k, min ci cj + (cmpF (t.drop (min ci cj)) (w.drop (min ci cj))).2) else if fk then some (k, min ci cj + (cmpF (t.drop (min ci cj)) (w.drop (min ci cj))).2) else seek1 ws t n k j (min ci cj + (cmpF (t.drop (min ci cj)) (w.drop (min ci cj))).2) cj true) else seek1 ws t n k j (min ci cj + (cmpF (t.drop (min ci cj)) (w.drop (min ci cj))).2) cj fk)) = some r

theorem seek1_inv {ws : List (List Nat)} {t : List Nat} {n : Nat} {r : Nat × Nat} {i j ci cj : Nat} {fk : Bool} (h : seek1 ws t (n + 1) i j ci cj fk = some r) : ∃ w, ws[i + (j - i) / 2]? = some w ∧ seekK ws t n r i j ci cj fk w (i + (j - i) / 2) := by
  unfold seek1 at h
  split at h
  · cases h
  · rename_i w hw
    exact ⟨w, hw, h⟩

-- behind the inner loop
theorem fa_after {t : List Nat} (ht : t = txF cur c l) {i j ci cj : Nat} {fk : Bool} {n : Nat} {r : Nat × Nat} {w : Addr} {k : Nat} (hk : k = i + (j - i) / 2) (hij : i ≤ j) (h1 : ci ≤ t.length) (h2 : cj ≤ t.length)
    (hs : seekK (wordsOf a) t n r i j ci cj fk (amW w).s k)
    (next : ∀ (i j ci cj : Nat) (fk : Bool) (kk d co : Int) (w : Addr) (i2 : Int), i ≤ j → ci ≤ t.length → cj ≤ t.length → seek1 (wordsOf a) t n i j ci cj fk = some r → κ .next (env14 b a i j c l ci cj fk kk d co w i2) (mkG b tp (stF cur c0 l0 lb b0 k0 p m) o))
    (done : ∀ (j cj : Int) (fk : Bool) (kk d co : Int) (w : Addr) (i2 : Int), κ .brk (env14 b a r.1 j c l r.2 cj fk kk d co w i2) (mkG b tp (stF cur c0 l0 lb b0 k0 p m) o)) (i2' : Int) :
    sA faSc (sems Γ faSc 22) (faW1.drop 5) (env14 b a i j c l ci cj fk k (cmpF (t.drop (min ci cj)) ((amW w).s.drop (min ci cj))).1 (((min ci cj + (cmpF (t.drop (min ci cj)) ((amW w).s.drop (min ci cj))).2 : Nat)) : Int) w i2') (mkG b tp (stF cur c0 l0 lb b0 k0 p m) o) κ := by
  rw [fa_rest]
  have hco : min ci cj + (cmpF (t.drop (min ci cj)) ((amW w).s.drop (min ci cj))).2 ≤ t.length := by
    have := cmpF_le (t.drop (min ci cj)) ((amW w).s.drop (min ci cj))
    rw [List.length_drop] at this
    omega
  unfold seekK at hs
  by_cases hd : (cmpF (t.drop (min ci cj)) ((amW w).s.drop (min ci cj))).1 < 0
  · rw [if_pos hd] at hs
    rw [show decide ((cmpF (t.drop (min ci cj)) ((amW w).s.drop (min ci cj))).1 < 0) = true by simpa using hd]
    simp only [cond_true]
    exact tail_ok (by omega) hs (fun e => by subst e; exact done _ _ _ _ _ _ _ _) fun fk' h' => next _ _ _ _ _ _ _ _ _ _ (by omega) h1 hco h'
  · rw [if_neg hd] at hs
    rw [show decide ((cmpF (t.drop (min ci cj)) ((amW w).s.drop (min ci cj))).1 < 0) = false by simpa using hd]
    simp only [cond_false]
    exact tail_ok (by omega) hs (fun e => by subst e; exact done _ _ _ _ _ _ _ _) fun fk' h' => next _ _ _ _ _ _ _ _ _ _ (by omega) hco h2 h'

theorem fa_phase1 (ha : aOk a) (h0 : 0 ≤ c) (hcl : c ≤ l) (hl : l ≤ cur.length) (hfit : cur.length ≤ 1000000) {t : List Nat} (ht : t = txF cur c l) {r : Nat × Nat}
    (done : ∀ (j cj : Int) (fk : Bool) (kk d co : Int) (w : Addr) (i2 : Int), κ .next (env14 b a r.1 j c l r.2 cj fk kk d co w i2) (mkG b tp (stF cur c0 l0 lb b0 k0 p m) o)) :
    ∀ (n i j ci cj : Nat) (fk : Bool) (kk d co : Int) (w : Addr) (i2 : Int), i ≤ j → ci ≤ t.length → cj ≤ t.length → seek1 (wordsOf a) t n i j ci cj fk = some r →
      whileA (sems Γ faSc 23) faW1 n (env14 b a i j c l ci cj fk kk d co w i2) (mkG b tp (stF cur c0 l0 lb b0 k0 p m) o) κ := by
  have htl : t.length = (l - c).toNat := by rw [ht]; exact txF_len h0 hl
  intro n
  induction n with
  | zero => intro i j ci cj fk kk d co w i2 hij h1 h2 h; cases h
  | succ n ih =>
    intro i j ci cj fk kk d co w i2 hij h1 h2 h
    obtain ⟨wd, hw, hs⟩ := seek1_inv h
    obtain ⟨r', hr1, hr2, rfl⟩ := words_at hw
    obtain ⟨q1, q2⟩ := ams_ok ha hr2
    obtain ⟨s1, s2⟩ := words_short ha hr2
    unfold whileA
    rw [fa_turn _ _ _ _ _ _ _ _ _ _ _ _ _ _ _ _ _ _ _ _ _ _ _ _ _ _ ha, kmid_nat hij, cmin_nat]
    refine guard_iff.mpr ⟨by omega, elim_iff.mpr ⟨r', by rw [Int.toNat_natCast]; exact hr1, ?_⟩⟩
    rw [q1, q2]
    show guardA _ _
    refine guard_iff.mpr ⟨by unfold fitI; omega, ?_⟩
    have fin := fa_after Γ cur c0 l0 lb b0 k0 p m tp o a c l b (fun fl ρ g => match fl with
        | .next => whileA (sems Γ faSc 23) faW1 n ρ g κ
        | .brk => κ .next ρ g
        | .ret v => κ (.ret v) ρ g
        | .exc => False) ht (k := i + (j - i) / 2) rfl hij h1 h2 hs (fun i j ci cj fk kk d co w i2 a1 a2 a3 a4 => ih i j ci cj fk kk d co w i2 a1 a2 a3 a4) (fun j cj fk kk d co w i2 => done j cj fk kk d co w i2)
    by_cases hlt : min ci cj < (amW r').s.length
    · have e : ((amW r').s.length : Int) = ((min ci cj : Nat) : Int) + (((amW r').s.length - min ci cj : Nat) : Int) := by omega
      rw [e]
      refine fa_inner Γ cur c0 l0 lb b0 k0 p m tp o a r' i j c l ci cj _ fk b _ ha hr2 h0 hl ((amW r').s.length - min ci cj) (min ci cj) 0 i2 (by omega) (by omega) rfl fun i2' => ?_
      rw [← ht]
      exact fin i2'
    · rw [rangeI_empty (by omega)]
      unfold forA
      have := fin i2
      have e : (amW r').s.drop (min ci cj) = [] := List.drop_eq_nil_of_le (by omega)
      have z : ∀ t, cmpF t [] = (0, 0) := fun t => by cases t <;> rfl
      rw [e, z] at this
      simp only [Nat.add_zero] at this
      exact this
end
end Mine

end

-- EvP9
section
open PySem PySem.W PyProof.Rows
set_option Elab.async false
set_option maxRecDepth 100000
set_option maxHeartbeats 0
set_option linter.all false
namespace Mine
noncomputable def entriesOf (a : Addr) : List Am := (rsOf a).map amW
-- the second loop: res and length of what is found
noncomputable def seek2 (es : List Am) : Nat → Int → Nat → Option (Int × Nat)
  | 0, _, _ => none
  | n + 1, i, ci => if i < 0 then none else match es[i.toNat]? with
    | none => none
    | some e => if e.s.length ≤ ci then some (e.res, e.s.length) else if e.sub < 0 then some (0, 0) else seek2 es n e.sub ci
theorem entries_at {a : Addr} {k : Nat} {e : Am} (h : (entriesOf a)[k]? = some e) : ∃ r, (rsOf a)[k]? = some r ∧ r ∈ rsOf a ∧ amW r = e := by
  unfold entriesOf at h
  rw [List.getElem?_map] at h
  obtain ⟨r, h1, h2⟩ := Option.map_eq_some_iff.mp h
  exact ⟨r, h1, List.mem_of_getElem? h1, h2⟩
noncomputable def seekAll (a : Addr) (ws : List (List Nat)) (es : List Am) (t : List Nat) : Option (Int × Nat) :=
  (seek1 ws t 16 0 ws.length 0 0 false).bind fun r => seek2 es 16 (r.1 : Int) r.2
section
variable (Γ : Funs) (cur : List Nat) (c0 l0 lb b0 k0 p m : Int) (tp : Option (List AV)) (o : Option (List (Str × AV))) (a : Addr) (c l : Int) (b : Bool) (κ : AFlow → LEnv → G → Prop)

theorem fa_first (ha : aOk a) (h0 : 0 ≤ c) (hcl : c ≤ l) (hl : l ≤ cur.length) (hfit : cur.length ≤ 1000000) {t : List Nat} (ht : t = txF cur c l) {r : Nat × Nat}
    (done : ∀ (j cj : Int) (fk : Bool) (kk d co : Int) (w : Addr) (i2 : Int), κ .next (env14 b a r.1 j c l r.2 cj fk kk d co w i2) (mkG b tp (stF cur c0 l0 lb b0 k0 p m) o))
    (n j : Nat) (fk : Bool) (h : seek1 (wordsOf a) t (n + 1) 0 j 0 0 fk = some r) :
      whileA (sems Γ faSc 23) faW1 (n + 1) (env9 b a (0 : Nat) j c l (0 : Nat) (0 : Nat) fk) (mkG b tp (stF cur c0 l0 lb b0 k0 p m) o) κ := by
  have htl : t.length = (l - c).toNat := by rw [ht]; exact txF_len h0 hl
  obtain ⟨wd, hw, hs⟩ := seek1_inv h
  obtain ⟨r', hr1, hr2, rfl⟩ := words_at hw
  obtain ⟨q1, q2⟩ := ams_ok ha hr2
  obtain ⟨s1, s2⟩ := words_short ha hr2
  unfold whileA
  rw [fa_turn0 _ _ _ _ _ _ _ _ _ _ _ _ _ _ _ _ _ _ _ _ _ ha, kmid_nat (by omega), cmin_nat]
  refine guard_iff.mpr ⟨by omega, elim_iff.mpr ⟨r', by rw [Int.toNat_natCast]; exact hr1, ?_⟩⟩
  rw [q1, q2]
  show guardA _ _
  refine guard_iff.mpr ⟨by unfold fitI; omega, ?_⟩
  have fin := fa_after Γ cur c0 l0 lb b0 k0 p m tp o a c l b (fun fl ρ g => match fl with
        | .next => whileA (sems Γ faSc 23) faW1 n ρ g κ
        | .brk => κ .next ρ g
        | .ret v => κ (.ret v) ρ g
        | .exc => False) ht (k := 0 + (j - 0) / 2) rfl (by omega) (by omega) (by omega) hs (fun i j ci cj fk kk d co w i2 a1 a2 a3 a4 => fa_phase1 Γ cur c0 l0 lb b0 k0 p m tp o a c l b κ ha h0 hcl hl hfit ht done n i j ci cj fk kk d co w i2 a1 a2 a3 a4) (fun j cj fk kk d co w i2 => done j cj fk kk d co w i2)
  have e : ((amW r').s.length : Int) = ((min 0 0 : Nat) : Int) + ((((amW r').s.length - 1) + 1 : Nat) : Int) := by omega
  rw [e, fa_inner13 (x := s0)]
  refine fa_inner Γ cur c0 l0 lb b0 k0 p m tp o a r' (0 : Nat) j c l (0 : Nat) (0 : Nat) _ fk b _ ha hr2 h0 hl (((amW r').s.length - 1) + 1) (min 0 0) 0 0 (by omega) (by omega) rfl fun i2' => ?_
  rw [← ht]
  exact fin i2'

theorem fa_phase2 (ha : aOk a) (hc : c = c0) {res : Int × Nat} {κv : AV → G → Prop}
    (done : κv (.int res.1) (mkG b tp (stF cur (c0 + (res.2 : Int)) l0 lb b0 k0 p m) o)) :
    ∀ (n : Nat) (i : Int) (j : Int) (ci : Nat) (cj : Int) (fk : Bool) (kk d co : Int) (w : Addr) (i2 : Int), seek2 (entriesOf a) n i ci = some res →
      whileA (sems Γ faSc 23) faW2 n (env14 b a i j c l ci cj fk kk d co w i2) (mkG b tp (stF cur c0 l0 lb b0 k0 p m) o) fun fl ρ g => match fl with | .next => endA κv (.ret (.int (-1))) ρ g | fl => endA κv fl ρ g := by
  subst hc
  intro n
  induction n with
  | zero => intro i j ci cj fk kk d co w i2 h; cases h
  | succ n ih =>
    intro i j ci cj fk kk d co w i2 h
    unfold seek2 at h
    split at h
    · cases h
    · rename_i hi
      split at h
      · cases h
      · rename_i e he
        obtain ⟨r', hr1, hr2, rfl⟩ := entries_at he
        unfold whileA
        rw [fa_turn2 _ _ _ _ _ _ _ _ _ _ _ _ _ _ _ _ _ _ _ _ _ _ _ _ _ _ ha]
        refine guard_iff.mpr ⟨by omega, elim_iff.mpr ⟨r', hr1, amA_ok ha hr2 ?_⟩⟩
        by_cases hq : (amW r').s.length ≤ ci
        · rw [if_pos hq] at h
          rw [show decide ((ci : Int) ≥ ((amW r').s.length : Int)) = true by simp; omega]
          simp only [cond_true]
          refine amA_ok ha hr2 (amA_ok ha hr2 ?_)
          cases h
          exact done
        · rw [if_neg hq] at h
          rw [show decide ((ci : Int) ≥ ((amW r').s.length : Int)) = false by simp; omega]
          simp only [cond_false]
          refine amA_ok ha hr2 ?_
          by_cases hs : (amW r').sub < 0
          · rw [if_pos hs] at h
            rw [show decide ((amW r').sub < 0) = true by simpa using hs]
            cases h
            show κv (.int 0) _
            simpa using done
          · rw [if_neg hs] at h
            rw [show decide ((amW r').sub < 0) = false by simpa using hs]
            exact ih _ _ _ _ _ _ _ _ _ _ h

theorem fa_all (ha : aOk a) (h0 : 0 ≤ c0) (hcl : c0 ≤ l0) (hl : l0 ≤ cur.length) (hfit : cur.length ≤ 1000000) {res : Int × Nat} {κv : AV → G → Prop} (h : seekAll a (wordsOf a) (entriesOf a) (txF cur c0 l0) = some res)
    (done : κv (.int res.1) (mkG b tp (stF cur (c0 + (res.2 : Int)) l0 lb b0 k0 p m) o)) : stepF Γ 133 [.stem b, .ref a] (mkG b tp (stF cur c0 l0 lb b0 k0 p m) o) κv := by
  unfold seekAll at h
  obtain ⟨r, h1, h2⟩ := Option.bind_eq_some_iff.mp h
  rw [fa_whole _ _ _ _ _ _ _ _ _ _ _ _ _ _ ha]
  have hlen : (wordsOf a).length = (rsOf a).length := by unfold wordsOf; rw [List.length_map]
  rw [hlen] at h1
  refine fa_first Γ cur c0 l0 lb b0 k0 p m tp o a c0 l0 b _ ha h0 hcl hl hfit rfl (fun j cj fk kk d co w i2 => ?_) 15 _ _ h1
  show sA faSc (sems Γ faSc 23) (faB.drop 8) _ _ (endA κv)
  rw [fa_second]
  exact fa_phase2 Γ cur c0 l0 lb b0 k0 p m tp o a c0 l0 b ha rfl done 16 _ _ _ _ _ _ _ _ _ _ h2
end
end Mine

end

-- EvPA
section
open PySem PySem.W PyProof.Rows
set_option Elab.async false
set_option maxRecDepth 100000
set_option maxHeartbeats 0
set_option linter.all false
namespace Mine
noncomputable def wordsOfR (a : Addr) : List (List Nat) := (rsOf a).map fun w => (amW w).s.reverse
theorem wordsR_at {a : Addr} {k : Nat} {w : List Nat} (h : (wordsOfR a)[k]? = some w) : ∃ r, (rsOf a)[k]? = some r ∧ r ∈ rsOf a ∧ (amW r).s.reverse = w := by
  unfold wordsOfR at h
  rw [List.getElem?_map] at h
  obtain ⟨r, h1, h2⟩ := Option.map_eq_some_iff.mp h
  exact ⟨r, h1, List.mem_of_getElem? h1, h2⟩
theorem txB_len {cur : List Nat} {c l : Int} (h0 : 0 ≤ l) (h2 : c ≤ cur.length) : (txB cur c l).length = (c - l).toNat := by
  unfold txB
  rw [List.length_reverse, List.length_drop, List.length_take]
  omega
theorem rangeN_empty {x : Int} (h : x ≤ -1) : rangeI x (-1) (-1) = [] := by
  have := rangeI_len x (-1) (-1)
  rw [size_neg, if_neg (by omega)] at this
  exact List.eq_nil_of_length_eq_zero this
section
variable (Γ : Funs) (cur : List Nat) (c0 l0 lb b0 k0 p m : Int) (tp : Option (List AV)) (o : Option (List (Str × AV))) (a : Addr) (c l : Int) (b : Bool) (κ : AFlow → LEnv → G → Prop)
-- behind the inner loop
theorem fab_after {t : List Nat} (ht : t = txB cur c l) {i j ci cj : Nat} {fk : Bool} {n : Nat} {r : Nat × Nat} {w : Addr} {k : Nat} (hk : k = i + (j - i) / 2) (hij : i ≤ j) (h1 : ci ≤ t.length) (h2 : cj ≤ t.length)
    (hs : seekK (wordsOfR a) t n r i j ci cj fk (amW w).s.reverse k)
    (next : ∀ (i j ci cj : Nat) (fk : Bool) (kk d co : Int) (w : Addr) (i2 : Int), i ≤ j → ci ≤ t.length → cj ≤ t.length → seek1 (wordsOfR a) t n i j ci cj fk = some r → κ .next (env14b b a i j c l ci cj fk kk d co w i2) (mkG b tp (stF cur c0 l0 lb b0 k0 p m) o))
    (done : ∀ (j cj : Int) (fk : Bool) (kk d co : Int) (w : Addr) (i2 : Int), κ .brk (env14b b a r.1 j c l r.2 cj fk kk d co w i2) (mkG b tp (stF cur c0 l0 lb b0 k0 p m) o)) (i2' : Int) :
    sA fabSc (sems Γ fabSc 22) (fabW1.drop 5) (env14b b a i j c l ci cj fk k (cmpF (t.drop (min ci cj)) ((amW w).s.reverse.drop (min ci cj))).1 (((min ci cj + (cmpF (t.drop (min ci cj)) ((amW w).s.reverse.drop (min ci cj))).2 : Nat)) : Int) w i2') (mkG b tp (stF cur c0 l0 lb b0 k0 p m) o) κ := by
  rw [fab_rest]
  have hco : min ci cj + (cmpF (t.drop (min ci cj)) ((amW w).s.reverse.drop (min ci cj))).2 ≤ t.length := by
    have := cmpF_le (t.drop (min ci cj)) ((amW w).s.reverse.drop (min ci cj))
    rw [List.length_drop] at this
    omega
  unfold seekK at hs
  by_cases hd : (cmpF (t.drop (min ci cj)) ((amW w).s.reverse.drop (min ci cj))).1 < 0
  · rw [if_pos hd] at hs
    rw [show decide ((cmpF (t.drop (min ci cj)) ((amW w).s.reverse.drop (min ci cj))).1 < 0) = true by simpa using hd]
    simp only [cond_true]
    exact tail_ok (by omega) hs (fun e => by subst e; exact done _ _ _ _ _ _ _ _) fun fk' h' => next _ _ _ _ _ _ _ _ _ _ (by omega) h1 hco h'
  · rw [if_neg hd] at hs
    rw [show decide ((cmpF (t.drop (min ci cj)) ((amW w).s.reverse.drop (min ci cj))).1 < 0) = false by simpa using hd]
    simp only [cond_false]
    exact tail_ok (by omega) hs (fun e => by subst e; exact done _ _ _ _ _ _ _ _) fun fk' h' => next _ _ _ _ _ _ _ _ _ _ (by omega) hco h2 h'

theorem fab_phase1 (ha : aOk a) (h0 : 0 ≤ l) (hcl : l ≤ c) (hl : c ≤ cur.length) (hfit : cur.length ≤ 1000000) {t : List Nat} (ht : t = txB cur c l) {r : Nat × Nat}
    (done : ∀ (j cj : Int) (fk : Bool) (kk d co : Int) (w : Addr) (i2 : Int), κ .next (env14b b a r.1 j c l r.2 cj fk kk d co w i2) (mkG b tp (stF cur c0 l0 lb b0 k0 p m) o)) :
    ∀ (n i j ci cj : Nat) (fk : Bool) (kk d co : Int) (w : Addr) (i2 : Int), i ≤ j → ci ≤ t.length → cj ≤ t.length → seek1 (wordsOfR a) t n i j ci cj fk = some r →
      whileA (sems Γ fabSc 23) fabW1 n (env14b b a i j c l ci cj fk kk d co w i2) (mkG b tp (stF cur c0 l0 lb b0 k0 p m) o) κ := by
  have htl : t.length = (c - l).toNat := by rw [ht]; exact txB_len h0 hl
  intro n
  induction n with
  | zero => intro i j ci cj fk kk d co w i2 hij h1 h2 h; cases h
  | succ n ih =>
    intro i j ci cj fk kk d co w i2 hij h1 h2 h
    obtain ⟨wd, hw, hs⟩ := seek1_inv h
    obtain ⟨r', hr1, hr2, rfl⟩ := wordsR_at hw
    obtain ⟨q1, q2⟩ := ams_ok ha hr2
    obtain ⟨s1, s2⟩ := words_short ha hr2
    unfold whileA
    rw [fab_turn _ _ _ _ _ _ _ _ _ _ _ _ _ _ _ _ _ _ _ _ _ _ _ _ _ _ ha, kmid_nat hij, cmin_nat]
    refine guard_iff.mpr ⟨by omega, elim_iff.mpr ⟨r', by rw [Int.toNat_natCast]; exact hr1, ?_⟩⟩
    rw [q1, q2]
    show guardA _ _
    refine guard_iff.mpr ⟨by unfold fitI; omega, ?_⟩
    have fin := fab_after Γ cur c0 l0 lb b0 k0 p m tp o a c l b (fun fl ρ g => match fl with
        | .next => whileA (sems Γ fabSc 23) fabW1 n ρ g κ
        | .brk => κ .next ρ g
        | .ret v => κ (.ret v) ρ g
        | .exc => False) ht (k := i + (j - i) / 2) rfl hij h1 h2 hs (fun i j ci cj fk kk d co w i2 a1 a2 a3 a4 => ih i j ci cj fk kk d co w i2 a1 a2 a3 a4) (fun j cj fk kk d co w i2 => done j cj fk kk d co w i2)
    by_cases hlt : min ci cj < (amW r').s.length
    · have e : ((amW r').s.length : Int) - 1 - ((min ci cj : Nat) : Int) = (((amW r').s.length - min ci cj : Nat) : Int) - 1 := by omega
      rw [e]
      refine fab_inner Γ cur c0 l0 lb b0 k0 p m tp o a r' i j c l ci cj _ fk b _ ha hr2 h0 hl ((amW r').s.length - min ci cj) (min ci cj) 0 i2 (by omega) (by omega) rfl fun i2' => ?_
      rw [← ht]
      exact fin i2'
    · rw [rangeN_empty (by omega)]
      unfold forA
      have := fin i2
      have e : (amW r').s.reverse.drop (min ci cj) = [] := List.drop_eq_nil_of_le (by rw [List.length_reverse]; omega)
      have z : ∀ t, cmpF t [] = (0, 0) := fun t => by cases t <;> rfl
      rw [e, z] at this
      simp only [Nat.add_zero] at this
      exact this
theorem fab_first (ha : aOk a) (h0 : 0 ≤ l) (hcl : l ≤ c) (hl : c ≤ cur.length) (hfit : cur.length ≤ 1000000) {t : List Nat} (ht : t = txB cur c l) {r : Nat × Nat}
    (done : ∀ (j cj : Int) (fk : Bool) (kk d co : Int) (w : Addr) (i2 : Int), κ .next (env14b b a r.1 j c l r.2 cj fk kk d co w i2) (mkG b tp (stF cur c0 l0 lb b0 k0 p m) o))
    (n j : Nat) (fk : Bool) (h : seek1 (wordsOfR a) t (n + 1) 0 j 0 0 fk = some r) :
      whileA (sems Γ fabSc 23) fabW1 (n + 1) (env9b b a (0 : Nat) j c l (0 : Nat) (0 : Nat) fk) (mkG b tp (stF cur c0 l0 lb b0 k0 p m) o) κ := by
  have htl : t.length = (c - l).toNat := by rw [ht]; exact txB_len h0 hl
  obtain ⟨wd, hw, hs⟩ := seek1_inv h
  obtain ⟨r', hr1, hr2, rfl⟩ := wordsR_at hw
  obtain ⟨q1, q2⟩ := ams_ok ha hr2
  obtain ⟨s1, s2⟩ := words_short ha hr2
  unfold whileA
  rw [fab_turn0 _ _ _ _ _ _ _ _ _ _ _ _ _ _ _ _ _ _ _ _ _ ha, kmid_nat (by omega), cmin_nat]
  refine guard_iff.mpr ⟨by omega, elim_iff.mpr ⟨r', by rw [Int.toNat_natCast]; exact hr1, ?_⟩⟩
  rw [q1, q2]
  show guardA _ _
  refine guard_iff.mpr ⟨by unfold fitI; omega, ?_⟩
  have fin := fab_after Γ cur c0 l0 lb b0 k0 p m tp o a c l b (fun fl ρ g => match fl with
        | .next => whileA (sems Γ fabSc 23) fabW1 n ρ g κ
        | .brk => κ .next ρ g
        | .ret v => κ (.ret v) ρ g
        | .exc => False) ht (k := 0 + (j - 0) / 2) rfl (by omega) (by omega) (by omega) hs (fun i j ci cj fk kk d co w i2 a1 a2 a3 a4 => fab_phase1 Γ cur c0 l0 lb b0 k0 p m tp o a c l b κ ha h0 hcl hl hfit ht done n i j ci cj fk kk d co w i2 a1 a2 a3 a4) (fun j cj fk kk d co w i2 => done j cj fk kk d co w i2)
  have e : ((amW r').s.length : Int) - 1 - ((min 0 0 : Nat) : Int) = (((amW r').s.length - 1 : Nat) : Int) := by
    have : ((min 0 0 : Nat) : Int) = 0 := rfl
    rw [this]; omega
  rw [e, fab_inner13]
  have e2 : (((amW r').s.length - 1 : Nat) : Int) = (((amW r').s.length : Nat) : Int) - 1 := by omega
  rw [e2]
  refine fab_inner Γ cur c0 l0 lb b0 k0 p m tp o a r' (0 : Nat) j c l (0 : Nat) (0 : Nat) _ fk b _ ha hr2 h0 hl (amW r').s.length (min 0 0) 0 0 (by omega) (by show l ≤ c - 0; omega) rfl fun i2' => ?_
  rw [← ht]
  exact fin i2'

theorem fab_phase2 (ha : aOk a) (hc : c = c0) {res : Int × Nat} {κv : AV → G → Prop}
    (done : κv (.int res.1) (mkG b tp (stF cur (c0 - (res.2 : Int)) l0 lb b0 k0 p m) o)) :
    ∀ (n : Nat) (i : Int) (j : Int) (ci : Nat) (cj : Int) (fk : Bool) (kk d co : Int) (w : Addr) (i2 : Int), seek2 (entriesOf a) n i ci = some res →
      whileA (sems Γ fabSc 23) fabW2 n (env14b b a i j c l ci cj fk kk d co w i2) (mkG b tp (stF cur c0 l0 lb b0 k0 p m) o) fun fl ρ g => match fl with | .next => endA κv (.ret (.int (-1))) ρ g | fl => endA κv fl ρ g := by
  subst hc
  intro n
  induction n with
  | zero => intro i j ci cj fk kk d co w i2 h; cases h
  | succ n ih =>
    intro i j ci cj fk kk d co w i2 h
    unfold seek2 at h
    split at h
    · cases h
    · rename_i hi
      split at h
      · cases h
      · rename_i e he
        obtain ⟨r', hr1, hr2, rfl⟩ := entries_at he
        unfold whileA
        rw [fab_turn2 _ _ _ _ _ _ _ _ _ _ _ _ _ _ _ _ _ _ _ _ _ _ _ _ _ _ ha]
        refine guard_iff.mpr ⟨by omega, elim_iff.mpr ⟨r', hr1, amA_ok ha hr2 ?_⟩⟩
        by_cases hq : (amW r').s.length ≤ ci
        · rw [if_pos hq] at h
          rw [show decide ((ci : Int) ≥ ((amW r').s.length : Int)) = true by simp; omega]
          simp only [cond_true]
          refine amA_ok ha hr2 (amA_ok ha hr2 ?_)
          cases h
          exact done
        · rw [if_neg hq] at h
          rw [show decide ((ci : Int) ≥ ((amW r').s.length : Int)) = false by simp; omega]
          simp only [cond_false]
          refine amA_ok ha hr2 ?_
          by_cases hs : (amW r').sub < 0
          · rw [if_pos hs] at h
            rw [show decide ((amW r').sub < 0) = true by simpa using hs]
            cases h
            show κv (.int 0) _
            simpa using done
          · rw [if_neg hs] at h
            rw [show decide ((amW r').sub < 0) = false by simpa using hs]
            exact ih _ _ _ _ _ _ _ _ _ _ h

theorem fab_all (ha : aOk a) (h0 : 0 ≤ lb) (hcl : lb ≤ c0) (hl : c0 ≤ cur.length) (hfit : cur.length ≤ 1000000) {res : Int × Nat} {κv : AV → G → Prop} (h : seekAll a (wordsOfR a) (entriesOf a) (txB cur c0 lb) = some res)
    (done : κv (.int res.1) (mkG b tp (stF cur (c0 - (res.2 : Int)) l0 lb b0 k0 p m) o)) : stepF Γ 140 [.stem b, .ref a] (mkG b tp (stF cur c0 l0 lb b0 k0 p m) o) κv := by
  unfold seekAll at h
  obtain ⟨r, h1, h2⟩ := Option.bind_eq_some_iff.mp h
  rw [fab_whole _ _ _ _ _ _ _ _ _ _ _ _ _ _ ha]
  have hlen : (wordsOfR a).length = (rsOf a).length := by unfold wordsOfR; rw [List.length_map]
  rw [hlen] at h1
  refine fab_first Γ cur c0 l0 lb b0 k0 p m tp o a c0 lb b _ ha h0 hcl hl hfit rfl (fun j cj fk kk d co w i2 => ?_) 15 _ _ h1
  show sA fabSc (sems Γ fabSc 23) (fabB.drop 8) _ _ (endA κv)
  rw [fab_second]
  exact fab_phase2 Γ cur c0 l0 lb b0 k0 p m tp o a c0 lb b ha rfl done 16 _ _ _ _ _ _ _ _ _ _ h2
end
end Mine

end

-- EvPB
section
open PySem PySem.W PyProof.Rows
set_option Elab.async false
set_option maxRecDepth 100000
set_option maxHeartbeats 0
set_option linter.all false
namespace Mine
theorem w339 : wordsOf 339 = [[98, 101], [112, 101]] ∧ entriesOf 339 = [⟨[98, 101], -1, 2⟩, ⟨[112, 101], -1, 1⟩] := by constructor <;> kernel_rfl
theorem w332 : wordsOf 332 = [[100, 105], [107, 101], [109, 101], [109, 101, 109], [109, 101, 110], [109, 101, 110, 103], [112, 101, 109], [112, 101, 110], [112, 101, 110, 103], [116, 101, 114]] ∧
    entriesOf 332 = [⟨[100, 105], -1, 1⟩, ⟨[107, 101], -1, 3⟩, ⟨[109, 101], -1, 1⟩, ⟨[109, 101, 109], 2, 5⟩, ⟨[109, 101, 110], 2, 2⟩, ⟨[109, 101, 110, 103], 4, 1⟩, ⟨[112, 101, 109], -1, 6⟩, ⟨[112, 101, 110], -1, 4⟩, ⟨[112, 101, 110, 103], 7, 3⟩, ⟨[116, 101, 114], -1, 1⟩] := by constructor <;> kernel_rfl
theorem w284 : wordsOfR 284 = [[104, 97, 107], [104, 97, 108], [110, 117, 112]] ∧ entriesOf 284 = [⟨[107, 97, 104], -1, 1⟩, ⟨[108, 97, 104], -1, 1⟩, ⟨[112, 117, 110], -1, 1⟩] := by constructor <;> kernel_rfl
theorem w294 : wordsOfR 294 = [[97, 121, 110], [117, 107], [117, 109]] ∧ entriesOf 294 = [⟨[110, 121, 97], -1, 1⟩, ⟨[107, 117], -1, 1⟩, ⟨[109, 117], -1, 1⟩] := by constructor <;> kernel_rfl
theorem w301 : wordsOfR 301 = [[105], [110, 97]] ∧ entriesOf 301 = [⟨[105], -1, 2⟩, ⟨[97, 110], -1, 1⟩] := by constructor <;> kernel_rfl

theorem cmp_cons (y : Nat) (ys : List Nat) (x : Nat) (xs : List Nat) : cmpF (y :: ys) (x :: xs) = if y = x then ((cmpF ys xs).1, (cmpF ys xs).2 + 1) else ((y : Int) - x, 0) := rfl
theorem cmp_nil (x : Nat) (xs : List Nat) : cmpF [] (x :: xs) = (-1, 0) := rfl
theorem cmp_end (t : List Nat) : cmpF t [] = (0, 0) := by cases t <;> rfl
end Mine

end

-- EvPC
section
open PySem PySem.W PyProof.Rows
set_option Elab.async false
set_option maxRecDepth 100000
set_option maxHeartbeats 0
set_option linter.all false
namespace Mine
theorem seek332 (t : List Nat) : seekAll 332 (wordsOf 332) (entriesOf 332) t = some (if [109, 101, 110, 103].isPrefixOf t then (1, 4) else if [112, 101, 110, 103].isPrefixOf t then (3, 4) else if [109, 101, 109].isPrefixOf t then (5, 3) else if [109, 101, 110].isPrefixOf t then (2, 3) else if [112, 101, 109].isPrefixOf t then (6, 3) else if [112, 101, 110].isPrefixOf t then (4, 3) else if [116, 101, 114].isPrefixOf t then (1, 3) else if [100, 105].isPrefixOf t then (1, 2) else if [107, 101].isPrefixOf t then (3, 2) else if [109, 101].isPrefixOf t then (1, 2) else (0, 0)) := by
  rw [w332.1, w332.2]
  unfold seekAll
  rcases t with _ | ⟨y0, t⟩
  · skip
    simp [seek1, seek2, cmp_cons, cmp_nil, cmp_end, List.isPrefixOf]
  · skip
    rcases Nat.lt_trichotomy y0 100 with h00 | h00 | h00
    · skip
      simp [seek1, seek2, cmp_cons, cmp_nil, cmp_end, List.isPrefixOf, show ¬ (y0 = 100) by omega, show ¬ (100 = y0) by omega, show (((y0 : Nat) : Int) - 100 < 0) by omega, show ¬ (y0 = 107) by omega, show ¬ (107 = y0) by omega, show (((y0 : Nat) : Int) - 107 < 0) by omega, show ¬ (y0 = 109) by omega, show ¬ (109 = y0) by omega, show (((y0 : Nat) : Int) - 109 < 0) by omega, show ¬ (y0 = 112) by omega, show ¬ (112 = y0) by omega, show (((y0 : Nat) : Int) - 112 < 0) by omega, show ¬ (y0 = 116) by omega, show ¬ (116 = y0) by omega, show (((y0 : Nat) : Int) - 116 < 0) by omega]
    · skip
      subst h00
      rcases t with _ | ⟨y1, t⟩
      · skip
        simp [seek1, seek2, cmp_cons, cmp_nil, cmp_end, List.isPrefixOf]
      · skip
        rcases Nat.lt_trichotomy y1 105 with h10 | h10 | h10
        · skip
          simp [seek1, seek2, cmp_cons, cmp_nil, cmp_end, List.isPrefixOf, show ¬ (y1 = 105) by omega, show ¬ (105 = y1) by omega, show (((y1 : Nat) : Int) - 105 < 0) by omega]
        · skip
          subst h10
          simp [seek1, seek2, cmp_cons, cmp_nil, cmp_end, List.isPrefixOf]
        · skip
          simp [seek1, seek2, cmp_cons, cmp_nil, cmp_end, List.isPrefixOf, show ¬ (y1 = 105) by omega, show ¬ (105 = y1) by omega, show ¬ (((y1 : Nat) : Int) - 105 < 0) by omega]
    · skip
      rcases Nat.lt_trichotomy y0 107 with h01 | h01 | h01
      · skip
        simp [seek1, seek2, cmp_cons, cmp_nil, cmp_end, List.isPrefixOf, show ¬ (y0 = 100) by omega, show ¬ (100 = y0) by omega, show ¬ (((y0 : Nat) : Int) - 100 < 0) by omega, show ¬ (y0 = 107) by omega, show ¬ (107 = y0) by omega, show (((y0 : Nat) : Int) - 107 < 0) by omega, show ¬ (y0 = 109) by omega, show ¬ (109 = y0) by omega, show (((y0 : Nat) : Int) - 109 < 0) by omega, show ¬ (y0 = 112) by omega, show ¬ (112 = y0) by omega, show (((y0 : Nat) : Int) - 112 < 0) by omega, show ¬ (y0 = 116) by omega, show ¬ (116 = y0) by omega, show (((y0 : Nat) : Int) - 116 < 0) by omega]
      · skip
        subst h01
        rcases t with _ | ⟨y1, t⟩
        · skip
          simp [seek1, seek2, cmp_cons, cmp_nil, cmp_end, List.isPrefixOf]
        · skip
          rcases Nat.lt_trichotomy y1 101 with h10 | h10 | h10
          · skip
            simp [seek1, seek2, cmp_cons, cmp_nil, cmp_end, List.isPrefixOf, show ¬ (y1 = 101) by omega, show ¬ (101 = y1) by omega, show (((y1 : Nat) : Int) - 101 < 0) by omega]
          · skip
            subst h10
            simp [seek1, seek2, cmp_cons, cmp_nil, cmp_end, List.isPrefixOf]
          · skip
            simp [seek1, seek2, cmp_cons, cmp_nil, cmp_end, List.isPrefixOf, show ¬ (y1 = 101) by omega, show ¬ (101 = y1) by omega, show ¬ (((y1 : Nat) : Int) - 101 < 0) by omega]
      · skip
        rcases Nat.lt_trichotomy y0 109 with h02 | h02 | h02
        · skip
          simp [seek1, seek2, cmp_cons, cmp_nil, cmp_end, List.isPrefixOf, show ¬ (y0 = 100) by omega, show ¬ (100 = y0) by omega, show ¬ (((y0 : Nat) : Int) - 100 < 0) by omega, show ¬ (y0 = 107) by omega, show ¬ (107 = y0) by omega, show ¬ (((y0 : Nat) : Int) - 107 < 0) by omega, show ¬ (y0 = 109) by omega, show ¬ (109 = y0) by omega, show (((y0 : Nat) : Int) - 109 < 0) by omega, show ¬ (y0 = 112) by omega, show ¬ (112 = y0) by omega, show (((y0 : Nat) : Int) - 112 < 0) by omega, show ¬ (y0 = 116) by omega, show ¬ (116 = y0) by omega, show (((y0 : Nat) : Int) - 116 < 0) by omega]
        · skip
          subst h02
          rcases t with _ | ⟨y1, t⟩
          · skip
            simp [seek1, seek2, cmp_cons, cmp_nil, cmp_end, List.isPrefixOf]
          · skip
            rcases Nat.lt_trichotomy y1 101 with h10 | h10 | h10
            · skip
              simp [seek1, seek2, cmp_cons, cmp_nil, cmp_end, List.isPrefixOf, show ¬ (y1 = 101) by omega, show ¬ (101 = y1) by omega, show (((y1 : Nat) : Int) - 101 < 0) by omega]
            · skip
              subst h10
              rcases t with _ | ⟨y2, t⟩
              · skip
                simp [seek1, seek2, cmp_cons, cmp_nil, cmp_end, List.isPrefixOf]
              · skip
                rcases Nat.lt_trichotomy y2 109 with h20 | h20 | h20
                · skip
                  simp [seek1, seek2, cmp_cons, cmp_nil, cmp_end, List.isPrefixOf, show ¬ (y2 = 109) by omega, show ¬ (109 = y2) by omega, show (((y2 : Nat) : Int) - 109 < 0) by omega, show ¬ (y2 = 110) by omega, show ¬ (110 = y2) by omega, show (((y2 : Nat) : Int) - 110 < 0) by omega]
                · skip
                  subst h20
                  simp [seek1, seek2, cmp_cons, cmp_nil, cmp_end, List.isPrefixOf]
                · skip
                  rcases Nat.lt_trichotomy y2 110 with h21 | h21 | h21
                  · skip
                    simp [seek1, seek2, cmp_cons, cmp_nil, cmp_end, List.isPrefixOf, show ¬ (y2 = 109) by omega, show ¬ (109 = y2) by omega, show ¬ (((y2 : Nat) : Int) - 109 < 0) by omega, show ¬ (y2 = 110) by omega, show ¬ (110 = y2) by omega, show (((y2 : Nat) : Int) - 110 < 0) by omega]
                  · skip
                    subst h21
                    rcases t with _ | ⟨y3, t⟩
                    · skip
                      simp [seek1, seek2, cmp_cons, cmp_nil, cmp_end, List.isPrefixOf]
                    · skip
                      rcases Nat.lt_trichotomy y3 103 with h30 | h30 | h30
                      · skip
                        simp [seek1, seek2, cmp_cons, cmp_nil, cmp_end, List.isPrefixOf, show ¬ (y3 = 103) by omega, show ¬ (103 = y3) by omega, show (((y3 : Nat) : Int) - 103 < 0) by omega]
                      · skip
                        subst h30
                        simp [seek1, seek2, cmp_cons, cmp_nil, cmp_end, List.isPrefixOf]
                      · skip
                        simp [seek1, seek2, cmp_cons, cmp_nil, cmp_end, List.isPrefixOf, show ¬ (y3 = 103) by omega, show ¬ (103 = y3) by omega, show ¬ (((y3 : Nat) : Int) - 103 < 0) by omega]
                  · skip
                    simp [seek1, seek2, cmp_cons, cmp_nil, cmp_end, List.isPrefixOf, show ¬ (y2 = 109) by omega, show ¬ (109 = y2) by omega, show ¬ (((y2 : Nat) : Int) - 109 < 0) by omega, show ¬ (y2 = 110) by omega, show ¬ (110 = y2) by omega, show ¬ (((y2 : Nat) : Int) - 110 < 0) by omega]
            · skip
              simp [seek1, seek2, cmp_cons, cmp_nil, cmp_end, List.isPrefixOf, show ¬ (y1 = 101) by omega, show ¬ (101 = y1) by omega, show ¬ (((y1 : Nat) : Int) - 101 < 0) by omega]
        · skip
          rcases Nat.lt_trichotomy y0 112 with h03 | h03 | h03
          · skip
            simp [seek1, seek2, cmp_cons, cmp_nil, cmp_end, List.isPrefixOf, show ¬ (y0 = 100) by omega, show ¬ (100 = y0) by omega, show ¬ (((y0 : Nat) : Int) - 100 < 0) by omega, show ¬ (y0 = 107) by omega, show ¬ (107 = y0) by omega, show ¬ (((y0 : Nat) : Int) - 107 < 0) by omega, show ¬ (y0 = 109) by omega, show ¬ (109 = y0) by omega, show ¬ (((y0 : Nat) : Int) - 109 < 0) by omega, show ¬ (y0 = 112) by omega, show ¬ (112 = y0) by omega, show (((y0 : Nat) : Int) - 112 < 0) by omega, show ¬ (y0 = 116) by omega, show ¬ (116 = y0) by omega, show (((y0 : Nat) : Int) - 116 < 0) by omega]
          · skip
            subst h03
            rcases t with _ | ⟨y1, t⟩
            · skip
              simp [seek1, seek2, cmp_cons, cmp_nil, cmp_end, List.isPrefixOf]
            · skip
              rcases Nat.lt_trichotomy y1 101 with h10 | h10 | h10
              · skip
                simp [seek1, seek2, cmp_cons, cmp_nil, cmp_end, List.isPrefixOf, show ¬ (y1 = 101) by omega, show ¬ (101 = y1) by omega, show (((y1 : Nat) : Int) - 101 < 0) by omega]
              · skip
                subst h10
                rcases t with _ | ⟨y2, t⟩
                · skip
                  simp [seek1, seek2, cmp_cons, cmp_nil, cmp_end, List.isPrefixOf]
                · skip
                  rcases Nat.lt_trichotomy y2 109 with h20 | h20 | h20
                  · skip
                    simp [seek1, seek2, cmp_cons, cmp_nil, cmp_end, List.isPrefixOf, show ¬ (y2 = 109) by omega, show ¬ (109 = y2) by omega, show (((y2 : Nat) : Int) - 109 < 0) by omega, show ¬ (y2 = 110) by omega, show ¬ (110 = y2) by omega, show (((y2 : Nat) : Int) - 110 < 0) by omega]
                  · skip
                    subst h20
                    simp [seek1, seek2, cmp_cons, cmp_nil, cmp_end, List.isPrefixOf]
                  · skip
                    rcases Nat.lt_trichotomy y2 110 with h21 | h21 | h21
                    · skip
                      simp [seek1, seek2, cmp_cons, cmp_nil, cmp_end, List.isPrefixOf, show ¬ (y2 = 109) by omega, show ¬ (109 = y2) by omega, show ¬ (((y2 : Nat) : Int) - 109 < 0) by omega, show ¬ (y2 = 110) by omega, show ¬ (110 = y2) by omega, show (((y2 : Nat) : Int) - 110 < 0) by omega]
                    · skip
                      subst h21
                      rcases t with _ | ⟨y3, t⟩
                      · skip
                        simp [seek1, seek2, cmp_cons, cmp_nil, cmp_end, List.isPrefixOf]
                      · skip
                        rcases Nat.lt_trichotomy y3 103 with h30 | h30 | h30
                        · skip
                          simp [seek1, seek2, cmp_cons, cmp_nil, cmp_end, List.isPrefixOf, show ¬ (y3 = 103) by omega, show ¬ (103 = y3) by omega, show (((y3 : Nat) : Int) - 103 < 0) by omega]
                        · skip
                          subst h30
                          simp [seek1, seek2, cmp_cons, cmp_nil, cmp_end, List.isPrefixOf]
                        · skip
                          simp [seek1, seek2, cmp_cons, cmp_nil, cmp_end, List.isPrefixOf, show ¬ (y3 = 103) by omega, show ¬ (103 = y3) by omega, show ¬ (((y3 : Nat) : Int) - 103 < 0) by omega]
                    · skip
                      simp [seek1, seek2, cmp_cons, cmp_nil, cmp_end, List.isPrefixOf, show ¬ (y2 = 109) by omega, show ¬ (109 = y2) by omega, show ¬ (((y2 : Nat) : Int) - 109 < 0) by omega, show ¬ (y2 = 110) by omega, show ¬ (110 = y2) by omega, show ¬ (((y2 : Nat) : Int) - 110 < 0) by omega]
              · skip
                simp [seek1, seek2, cmp_cons, cmp_nil, cmp_end, List.isPrefixOf, show ¬ (y1 = 101) by omega, show ¬ (101 = y1) by omega, show ¬ (((y1 : Nat) : Int) - 101 < 0) by omega]
          · skip
            rcases Nat.lt_trichotomy y0 116 with h04 | h04 | h04
            · skip
              simp [seek1, seek2, cmp_cons, cmp_nil, cmp_end, List.isPrefixOf, show ¬ (y0 = 100) by omega, show ¬ (100 = y0) by omega, show ¬ (((y0 : Nat) : Int) - 100 < 0) by omega, show ¬ (y0 = 107) by omega, show ¬ (107 = y0) by omega, show ¬ (((y0 : Nat) : Int) - 107 < 0) by omega, show ¬ (y0 = 109) by omega, show ¬ (109 = y0) by omega, show ¬ (((y0 : Nat) : Int) - 109 < 0) by omega, show ¬ (y0 = 112) by omega, show ¬ (112 = y0) by omega, show ¬ (((y0 : Nat) : Int) - 112 < 0) by omega, show ¬ (y0 = 116) by omega, show ¬ (116 = y0) by omega, show (((y0 : Nat) : Int) - 116 < 0) by omega]
            · skip
              subst h04
              rcases t with _ | ⟨y1, t⟩
              · skip
                simp [seek1, seek2, cmp_cons, cmp_nil, cmp_end, List.isPrefixOf]
              · skip
                rcases Nat.lt_trichotomy y1 101 with h10 | h10 | h10
                · skip
                  simp [seek1, seek2, cmp_cons, cmp_nil, cmp_end, List.isPrefixOf, show ¬ (y1 = 101) by omega, show ¬ (101 = y1) by omega, show (((y1 : Nat) : Int) - 101 < 0) by omega]
                · skip
                  subst h10
                  rcases t with _ | ⟨y2, t⟩
                  · skip
                    simp [seek1, seek2, cmp_cons, cmp_nil, cmp_end, List.isPrefixOf]
                  · skip
                    rcases Nat.lt_trichotomy y2 114 with h20 | h20 | h20
                    · skip
                      simp [seek1, seek2, cmp_cons, cmp_nil, cmp_end, List.isPrefixOf, show ¬ (y2 = 114) by omega, show ¬ (114 = y2) by omega, show (((y2 : Nat) : Int) - 114 < 0) by omega]
                    · skip
                      subst h20
                      simp [seek1, seek2, cmp_cons, cmp_nil, cmp_end, List.isPrefixOf]
                    · skip
                      simp [seek1, seek2, cmp_cons, cmp_nil, cmp_end, List.isPrefixOf, show ¬ (y2 = 114) by omega, show ¬ (114 = y2) by omega, show ¬ (((y2 : Nat) : Int) - 114 < 0) by omega]
                · skip
                  simp [seek1, seek2, cmp_cons, cmp_nil, cmp_end, List.isPrefixOf, show ¬ (y1 = 101) by omega, show ¬ (101 = y1) by omega, show ¬ (((y1 : Nat) : Int) - 101 < 0) by omega]
            · skip
              simp [seek1, seek2, cmp_cons, cmp_nil, cmp_end, List.isPrefixOf, show ¬ (y0 = 100) by omega, show ¬ (100 = y0) by omega, show ¬ (((y0 : Nat) : Int) - 100 < 0) by omega, show ¬ (y0 = 107) by omega, show ¬ (107 = y0) by omega, show ¬ (((y0 : Nat) : Int) - 107 < 0) by omega, show ¬ (y0 = 109) by omega, show ¬ (109 = y0) by omega, show ¬ (((y0 : Nat) : Int) - 109 < 0) by omega, show ¬ (y0 = 112) by omega, show ¬ (112 = y0) by omega, show ¬ (((y0 : Nat) : Int) - 112 < 0) by omega, show ¬ (y0 = 116) by omega, show ¬ (116 = y0) by omega, show ¬ (((y0 : Nat) : Int) - 116 < 0) by omega]
theorem seek339 (t : List Nat) : seekAll 339 (wordsOf 339) (entriesOf 339) t = some (if [98, 101].isPrefixOf t then (2, 2) else if [112, 101].isPrefixOf t then (1, 2) else (0, 0)) := by
  rw [w339.1, w339.2]
  unfold seekAll
  rcases t with _ | ⟨y0, t⟩
  · skip
    simp [seek1, seek2, cmp_cons, cmp_nil, cmp_end, List.isPrefixOf]
  · skip
    rcases Nat.lt_trichotomy y0 98 with h00 | h00 | h00
    · skip
      simp [seek1, seek2, cmp_cons, cmp_nil, cmp_end, List.isPrefixOf, show ¬ (y0 = 98) by omega, show ¬ (98 = y0) by omega, show (((y0 : Nat) : Int) - 98 < 0) by omega, show ¬ (y0 = 112) by omega, show ¬ (112 = y0) by omega, show (((y0 : Nat) : Int) - 112 < 0) by omega]
    · skip
      subst h00
      rcases t with _ | ⟨y1, t⟩
      · skip
        simp [seek1, seek2, cmp_cons, cmp_nil, cmp_end, List.isPrefixOf]
      · skip
        rcases Nat.lt_trichotomy y1 101 with h10 | h10 | h10
        · skip
          simp [seek1, seek2, cmp_cons, cmp_nil, cmp_end, List.isPrefixOf, show ¬ (y1 = 101) by omega, show ¬ (101 = y1) by omega, show (((y1 : Nat) : Int) - 101 < 0) by omega]
        · skip
          subst h10
          simp [seek1, seek2, cmp_cons, cmp_nil, cmp_end, List.isPrefixOf]
        · skip
          simp [seek1, seek2, cmp_cons, cmp_nil, cmp_end, List.isPrefixOf, show ¬ (y1 = 101) by omega, show ¬ (101 = y1) by omega, show ¬ (((y1 : Nat) : Int) - 101 < 0) by omega]
    · skip
      rcases Nat.lt_trichotomy y0 112 with h01 | h01 | h01
      · skip
        simp [seek1, seek2, cmp_cons, cmp_nil, cmp_end, List.isPrefixOf, show ¬ (y0 = 98) by omega, show ¬ (98 = y0) by omega, show ¬ (((y0 : Nat) : Int) - 98 < 0) by omega, show ¬ (y0 = 112) by omega, show ¬ (112 = y0) by omega, show (((y0 : Nat) : Int) - 112 < 0) by omega]
      · skip
        subst h01
        rcases t with _ | ⟨y1, t⟩
        · skip
          simp [seek1, seek2, cmp_cons, cmp_nil, cmp_end, List.isPrefixOf]
        · skip
          rcases Nat.lt_trichotomy y1 101 with h10 | h10 | h10
          · skip
            simp [seek1, seek2, cmp_cons, cmp_nil, cmp_end, List.isPrefixOf, show ¬ (y1 = 101) by omega, show ¬ (101 = y1) by omega, show (((y1 : Nat) : Int) - 101 < 0) by omega]
          · skip
            subst h10
            simp [seek1, seek2, cmp_cons, cmp_nil, cmp_end, List.isPrefixOf]
          · skip
            simp [seek1, seek2, cmp_cons, cmp_nil, cmp_end, List.isPrefixOf, show ¬ (y1 = 101) by omega, show ¬ (101 = y1) by omega, show ¬ (((y1 : Nat) : Int) - 101 < 0) by omega]
      · skip
        simp [seek1, seek2, cmp_cons, cmp_nil, cmp_end, List.isPrefixOf, show ¬ (y0 = 98) by omega, show ¬ (98 = y0) by omega, show ¬ (((y0 : Nat) : Int) - 98 < 0) by omega, show ¬ (y0 = 112) by omega, show ¬ (112 = y0) by omega, show ¬ (((y0 : Nat) : Int) - 112 < 0) by omega]
theorem seek284 (t : List Nat) : seekAll 284 (wordsOfR 284) (entriesOf 284) t = some (if [104, 97, 107].isPrefixOf t then (1, 3) else if [104, 97, 108].isPrefixOf t then (1, 3) else if [110, 117, 112].isPrefixOf t then (1, 3) else (0, 0)) := by
  rw [w284.1, w284.2]
  unfold seekAll
  rcases t with _ | ⟨y0, t⟩
  · skip
    simp [seek1, seek2, cmp_cons, cmp_nil, cmp_end, List.isPrefixOf]
  · skip
    rcases Nat.lt_trichotomy y0 104 with h00 | h00 | h00
    · skip
      simp [seek1, seek2, cmp_cons, cmp_nil, cmp_end, List.isPrefixOf, show ¬ (y0 = 104) by omega, show ¬ (104 = y0) by omega, show (((y0 : Nat) : Int) - 104 < 0) by omega, show ¬ (y0 = 110) by omega, show ¬ (110 = y0) by omega, show (((y0 : Nat) : Int) - 110 < 0) by omega]
    · skip
      subst h00
      rcases t with _ | ⟨y1, t⟩
      · skip
        simp [seek1, seek2, cmp_cons, cmp_nil, cmp_end, List.isPrefixOf]
      · skip
        rcases Nat.lt_trichotomy y1 97 with h10 | h10 | h10
        · skip
          simp [seek1, seek2, cmp_cons, cmp_nil, cmp_end, List.isPrefixOf, show ¬ (y1 = 97) by omega, show ¬ (97 = y1) by omega, show (((y1 : Nat) : Int) - 97 < 0) by omega]
        · skip
          subst h10
          rcases t with _ | ⟨y2, t⟩
          · skip
            simp [seek1, seek2, cmp_cons, cmp_nil, cmp_end, List.isPrefixOf]
          · skip
            rcases Nat.lt_trichotomy y2 107 with h20 | h20 | h20
            · skip
              simp [seek1, seek2, cmp_cons, cmp_nil, cmp_end, List.isPrefixOf, show ¬ (y2 = 107) by omega, show ¬ (107 = y2) by omega, show (((y2 : Nat) : Int) - 107 < 0) by omega, show ¬ (y2 = 108) by omega, show ¬ (108 = y2) by omega, show (((y2 : Nat) : Int) - 108 < 0) by omega]
            · skip
              subst h20
              simp [seek1, seek2, cmp_cons, cmp_nil, cmp_end, List.isPrefixOf]
            · skip
              rcases Nat.lt_trichotomy y2 108 with h21 | h21 | h21
              · skip
                simp [seek1, seek2, cmp_cons, cmp_nil, cmp_end, List.isPrefixOf, show ¬ (y2 = 107) by omega, show ¬ (107 = y2) by omega, show ¬ (((y2 : Nat) : Int) - 107 < 0) by omega, show ¬ (y2 = 108) by omega, show ¬ (108 = y2) by omega, show (((y2 : Nat) : Int) - 108 < 0) by omega]
              · skip
                subst h21
                simp [seek1, seek2, cmp_cons, cmp_nil, cmp_end, List.isPrefixOf]
              · skip
                simp [seek1, seek2, cmp_cons, cmp_nil, cmp_end, List.isPrefixOf, show ¬ (y2 = 107) by omega, show ¬ (107 = y2) by omega, show ¬ (((y2 : Nat) : Int) - 107 < 0) by omega, show ¬ (y2 = 108) by omega, show ¬ (108 = y2) by omega, show ¬ (((y2 : Nat) : Int) - 108 < 0) by omega]
        · skip
          simp [seek1, seek2, cmp_cons, cmp_nil, cmp_end, List.isPrefixOf, show ¬ (y1 = 97) by omega, show ¬ (97 = y1) by omega, show ¬ (((y1 : Nat) : Int) - 97 < 0) by omega]
    · skip
      rcases Nat.lt_trichotomy y0 110 with h01 | h01 | h01
      · skip
        simp [seek1, seek2, cmp_cons, cmp_nil, cmp_end, List.isPrefixOf, show ¬ (y0 = 104) by omega, show ¬ (104 = y0) by omega, show ¬ (((y0 : Nat) : Int) - 104 < 0) by omega, show ¬ (y0 = 110) by omega, show ¬ (110 = y0) by omega, show (((y0 : Nat) : Int) - 110 < 0) by omega]
      · skip
        subst h01
        rcases t with _ | ⟨y1, t⟩
        · skip
          simp [seek1, seek2, cmp_cons, cmp_nil, cmp_end, List.isPrefixOf]
        · skip
          rcases Nat.lt_trichotomy y1 117 with h10 | h10 | h10
          · skip
            simp [seek1, seek2, cmp_cons, cmp_nil, cmp_end, List.isPrefixOf, show ¬ (y1 = 117) by omega, show ¬ (117 = y1) by omega, show (((y1 : Nat) : Int) - 117 < 0) by omega]
          · skip
            subst h10
            rcases t with _ | ⟨y2, t⟩
            · skip
              simp [seek1, seek2, cmp_cons, cmp_nil, cmp_end, List.isPrefixOf]
            · skip
              rcases Nat.lt_trichotomy y2 112 with h20 | h20 | h20
              · skip
                simp [seek1, seek2, cmp_cons, cmp_nil, cmp_end, List.isPrefixOf, show ¬ (y2 = 112) by omega, show ¬ (112 = y2) by omega, show (((y2 : Nat) : Int) - 112 < 0) by omega]
              · skip
                subst h20
                simp [seek1, seek2, cmp_cons, cmp_nil, cmp_end, List.isPrefixOf]
              · skip
                simp [seek1, seek2, cmp_cons, cmp_nil, cmp_end, List.isPrefixOf, show ¬ (y2 = 112) by omega, show ¬ (112 = y2) by omega, show ¬ (((y2 : Nat) : Int) - 112 < 0) by omega]
          · skip
            simp [seek1, seek2, cmp_cons, cmp_nil, cmp_end, List.isPrefixOf, show ¬ (y1 = 117) by omega, show ¬ (117 = y1) by omega, show ¬ (((y1 : Nat) : Int) - 117 < 0) by omega]
      · skip
        simp [seek1, seek2, cmp_cons, cmp_nil, cmp_end, List.isPrefixOf, show ¬ (y0 = 104) by omega, show ¬ (104 = y0) by omega, show ¬ (((y0 : Nat) : Int) - 104 < 0) by omega, show ¬ (y0 = 110) by omega, show ¬ (110 = y0) by omega, show ¬ (((y0 : Nat) : Int) - 110 < 0) by omega]
theorem seek294 (t : List Nat) : seekAll 294 (wordsOfR 294) (entriesOf 294) t = some (if [97, 121, 110].isPrefixOf t then (1, 3) else if [117, 107].isPrefixOf t then (1, 2) else if [117, 109].isPrefixOf t then (1, 2) else (0, 0)) := by
  rw [w294.1, w294.2]
  unfold seekAll
  rcases t with _ | ⟨y0, t⟩
  · skip
    simp [seek1, seek2, cmp_cons, cmp_nil, cmp_end, List.isPrefixOf]
  · skip
    rcases Nat.lt_trichotomy y0 97 with h00 | h00 | h00
    · skip
      simp [seek1, seek2, cmp_cons, cmp_nil, cmp_end, List.isPrefixOf, show ¬ (y0 = 97) by omega, show ¬ (97 = y0) by omega, show (((y0 : Nat) : Int) - 97 < 0) by omega, show ¬ (y0 = 117) by omega, show ¬ (117 = y0) by omega, show (((y0 : Nat) : Int) - 117 < 0) by omega]
    · skip
      subst h00
      rcases t with _ | ⟨y1, t⟩
      · skip
        simp [seek1, seek2, cmp_cons, cmp_nil, cmp_end, List.isPrefixOf]
      · skip
        rcases Nat.lt_trichotomy y1 121 with h10 | h10 | h10
        · skip
          simp [seek1, seek2, cmp_cons, cmp_nil, cmp_end, List.isPrefixOf, show ¬ (y1 = 121) by omega, show ¬ (121 = y1) by omega, show (((y1 : Nat) : Int) - 121 < 0) by omega]
        · skip
          subst h10
          rcases t with _ | ⟨y2, t⟩
          · skip
            simp [seek1, seek2, cmp_cons, cmp_nil, cmp_end, List.isPrefixOf]
          · skip
            rcases Nat.lt_trichotomy y2 110 with h20 | h20 | h20
            · skip
              simp [seek1, seek2, cmp_cons, cmp_nil, cmp_end, List.isPrefixOf, show ¬ (y2 = 110) by omega, show ¬ (110 = y2) by omega, show (((y2 : Nat) : Int) - 110 < 0) by omega]
            · skip
              subst h20
              simp [seek1, seek2, cmp_cons, cmp_nil, cmp_end, List.isPrefixOf]
            · skip
              simp [seek1, seek2, cmp_cons, cmp_nil, cmp_end, List.isPrefixOf, show ¬ (y2 = 110) by omega, show ¬ (110 = y2) by omega, show ¬ (((y2 : Nat) : Int) - 110 < 0) by omega]
        · skip
          simp [seek1, seek2, cmp_cons, cmp_nil, cmp_end, List.isPrefixOf, show ¬ (y1 = 121) by omega, show ¬ (121 = y1) by omega, show ¬ (((y1 : Nat) : Int) - 121 < 0) by omega]
    · skip
      rcases Nat.lt_trichotomy y0 117 with h01 | h01 | h01
      · skip
        simp [seek1, seek2, cmp_cons, cmp_nil, cmp_end, List.isPrefixOf, show ¬ (y0 = 97) by omega, show ¬ (97 = y0) by omega, show ¬ (((y0 : Nat) : Int) - 97 < 0) by omega, show ¬ (y0 = 117) by omega, show ¬ (117 = y0) by omega, show (((y0 : Nat) : Int) - 117 < 0) by omega]
      · skip
        subst h01
        rcases t with _ | ⟨y1, t⟩
        · skip
          simp [seek1, seek2, cmp_cons, cmp_nil, cmp_end, List.isPrefixOf]
        · skip
          rcases Nat.lt_trichotomy y1 107 with h10 | h10 | h10
          · skip
            simp [seek1, seek2, cmp_cons, cmp_nil, cmp_end, List.isPrefixOf, show ¬ (y1 = 107) by omega, show ¬ (107 = y1) by omega, show (((y1 : Nat) : Int) - 107 < 0) by omega, show ¬ (y1 = 109) by omega, show ¬ (109 = y1) by omega, show (((y1 : Nat) : Int) - 109 < 0) by omega]
          · skip
            subst h10
            simp [seek1, seek2, cmp_cons, cmp_nil, cmp_end, List.isPrefixOf]
          · skip
            rcases Nat.lt_trichotomy y1 109 with h11 | h11 | h11
            · skip
              simp [seek1, seek2, cmp_cons, cmp_nil, cmp_end, List.isPrefixOf, show ¬ (y1 = 107) by omega, show ¬ (107 = y1) by omega, show ¬ (((y1 : Nat) : Int) - 107 < 0) by omega, show ¬ (y1 = 109) by omega, show ¬ (109 = y1) by omega, show (((y1 : Nat) : Int) - 109 < 0) by omega]
            · skip
              subst h11
              simp [seek1, seek2, cmp_cons, cmp_nil, cmp_end, List.isPrefixOf]
            · skip
              simp [seek1, seek2, cmp_cons, cmp_nil, cmp_end, List.isPrefixOf, show ¬ (y1 = 107) by omega, show ¬ (107 = y1) by omega, show ¬ (((y1 : Nat) : Int) - 107 < 0) by omega, show ¬ (y1 = 109) by omega, show ¬ (109 = y1) by omega, show ¬ (((y1 : Nat) : Int) - 109 < 0) by omega]
      · skip
        simp [seek1, seek2, cmp_cons, cmp_nil, cmp_end, List.isPrefixOf, show ¬ (y0 = 97) by omega, show ¬ (97 = y0) by omega, show ¬ (((y0 : Nat) : Int) - 97 < 0) by omega, show ¬ (y0 = 117) by omega, show ¬ (117 = y0) by omega, show ¬ (((y0 : Nat) : Int) - 117 < 0) by omega]
theorem seek301 (t : List Nat) : seekAll 301 (wordsOfR 301) (entriesOf 301) t = some (if [110, 97].isPrefixOf t then (1, 2) else if [105].isPrefixOf t then (2, 1) else (0, 0)) := by
  rw [w301.1, w301.2]
  unfold seekAll
  rcases t with _ | ⟨y0, t⟩
  · skip
    simp [seek1, seek2, cmp_cons, cmp_nil, cmp_end, List.isPrefixOf]
  · skip
    rcases Nat.lt_trichotomy y0 105 with h00 | h00 | h00
    · skip
      simp [seek1, seek2, cmp_cons, cmp_nil, cmp_end, List.isPrefixOf, show ¬ (y0 = 105) by omega, show ¬ (105 = y0) by omega, show (((y0 : Nat) : Int) - 105 < 0) by omega, show ¬ (y0 = 110) by omega, show ¬ (110 = y0) by omega, show (((y0 : Nat) : Int) - 110 < 0) by omega]
    · skip
      subst h00
      simp [seek1, seek2, cmp_cons, cmp_nil, cmp_end, List.isPrefixOf]
    · skip
      rcases Nat.lt_trichotomy y0 110 with h01 | h01 | h01
      · skip
        simp [seek1, seek2, cmp_cons, cmp_nil, cmp_end, List.isPrefixOf, show ¬ (y0 = 105) by omega, show ¬ (105 = y0) by omega, show ¬ (((y0 : Nat) : Int) - 105 < 0) by omega, show ¬ (y0 = 110) by omega, show ¬ (110 = y0) by omega, show (((y0 : Nat) : Int) - 110 < 0) by omega]
      · skip
        subst h01
        rcases t with _ | ⟨y1, t⟩
        · skip
          simp [seek1, seek2, cmp_cons, cmp_nil, cmp_end, List.isPrefixOf]
        · skip
          rcases Nat.lt_trichotomy y1 97 with h10 | h10 | h10
          · skip
            simp [seek1, seek2, cmp_cons, cmp_nil, cmp_end, List.isPrefixOf, show ¬ (y1 = 97) by omega, show ¬ (97 = y1) by omega, show (((y1 : Nat) : Int) - 97 < 0) by omega]
          · skip
            subst h10
            simp [seek1, seek2, cmp_cons, cmp_nil, cmp_end, List.isPrefixOf]
          · skip
            simp [seek1, seek2, cmp_cons, cmp_nil, cmp_end, List.isPrefixOf, show ¬ (y1 = 97) by omega, show ¬ (97 = y1) by omega, show ¬ (((y1 : Nat) : Int) - 97 < 0) by omega]
      · skip
        simp [seek1, seek2, cmp_cons, cmp_nil, cmp_end, List.isPrefixOf, show ¬ (y0 = 105) by omega, show ¬ (105 = y0) by omega, show ¬ (((y0 : Nat) : Int) - 105 < 0) by omega, show ¬ (y0 = 110) by omega, show ¬ (110 = y0) by omega, show ¬ (((y0 : Nat) : Int) - 110 < 0) by omega]
end Mine

end

-- EvPD
section
open PySem PySem.W PyProof.Rows
set_option Elab.async false
set_option maxRecDepth 100000
set_option maxHeartbeats 0
set_option linter.all false
namespace Mine
noncomputable section
noncomputable def fndF (a : Addr) (t : List Nat) : Int × Nat := (seekAll a (wordsOf a) (entriesOf a) t).getD (0, 0)
noncomputable def fndB (a : Addr) (t : List Nat) : Int × Nat := (seekAll a (wordsOfR a) (entriesOf a) t).getD (0, 0)
noncomputable def isSt (f : List (Str × AV)) : Prop := f = stF (gS s10 f) (gI s11 f) (gI s12 f) (gI s14 f) (gI s15 f) (gI s16 f) (gI s74 f) (gI s75 f)
noncomputable def ctF (vs : List AV) (g : G) (κ : AV → G → Prop) : Prop := match vs with
  | [.stem b, .ref a] => elimA (g.st b) fun f => guardA (a = 332 ∨ a = 339) (isSt f ∧ guardA (0 ≤ gI s11 f ∧ gI s11 f ≤ gI s12 f ∧ gI s12 f ≤ (gS s10 f).length ∧ (gS s10 f).length ≤ fitN)
      (∀ (res : Int) (len : Nat), fndF a (txF (gS s10 f) (gI s11 f) (gI s12 f)) = (res, len) → κ (.int res) (g.setSt b (aput s11 (.int (gI s11 f + len)) f))))
  | _ => False
noncomputable def ctB (vs : List AV) (g : G) (κ : AV → G → Prop) : Prop := match vs with
  | [.stem b, .ref a] => elimA (g.st b) fun f => guardA (a = 284 ∨ a = 294 ∨ a = 301) (isSt f ∧ guardA (0 ≤ gI s14 f ∧ gI s14 f ≤ gI s11 f ∧ gI s11 f ≤ (gS s10 f).length ∧ (gS s10 f).length ≤ fitN)
      (∀ (res : Int) (len : Nat), fndB a (txB (gS s10 f) (gI s11 f) (gI s14 f)) = (res, len) → κ (.int res) (g.setSt b (aput s11 (.int (gI s11 f - len)) f))))
  | _ => False
end
theorem seekF_some {a : Addr} (ha : a = 332 ∨ a = 339) (t : List Nat) : seekAll a (wordsOf a) (entriesOf a) t = some (fndF a t) := by
  unfold fndF
  rcases ha with rfl | rfl
  · rw [seek332]; rfl
  · rw [seek339]; rfl
theorem seekB_some {a : Addr} (ha : a = 284 ∨ a = 294 ∨ a = 301) (t : List Nat) : seekAll a (wordsOfR a) (entriesOf a) t = some (fndB a t) := by
  unfold fndB
  rcases ha with rfl | rfl | rfl
  · rw [seek284]; rfl
  · rw [seek294]; rfl
  · rw [seek301]; rfl
theorem st_mk {g : G} {b : Bool} {f : List (Str × AV)} (h : g.st b = some f) : ∃ o, g = mkG b g.tape f o ∧ ∀ f', g.setSt b f' = mkG b g.tape f' o := by
  obtain ⟨tp, s1, s2⟩ := g
  cases b with
  | false =>
    have h' : s1 = some f := h
    subst h'
    exact ⟨s2, rfl, fun _ => rfl⟩
  | true =>
    have h' : s2 = some f := h
    subst h'
    exact ⟨s1, rfl, fun _ => rfl⟩
theorem aput_cur (cur : List Nat) (c l lb b k p m v : Int) : aput s11 (.int v) (stF cur c l lb b k p m) = stF cur v l lb b k p m := by kernel_rfl
theorem ctF_ok (Γ : Funs) {vs : List AV} {g : G} {κ : AV → G → Prop} (h : ctF vs g κ) : stepF Γ 133 vs g κ := by
  unfold ctF at h
  split at h
  · rename_i b a
    obtain ⟨f, hf, h⟩ := elim_iff.mp h
    obtain ⟨ha, hst, h⟩ := guard_iff.mp h
    obtain ⟨⟨h0, h1, h2, h3⟩, h⟩ := guard_iff.mp h
    obtain ⟨o, hg, hs⟩ := st_mk hf
    have h := h (fndF a (txF (gS s10 f) (gI s11 f) (gI s12 f))).1 (fndF a (txF (gS s10 f) (gI s11 f) (gI s12 f))).2 rfl
    rw [hs] at h
    unfold isSt at hst
    generalize gS s10 f = cur at *
    generalize gI s11 f = c at *
    generalize gI s12 f = l at *
    generalize gI s14 f = lb at *
    generalize gI s15 f = b0 at *
    generalize gI s16 f = k0 at *
    generalize gI s74 f = p at *
    generalize gI s75 f = m at *
    subst hst
    rw [aput_cur] at h
    rw [hg]
    exact fa_all Γ cur c l lb b0 k0 p m g.tape o a b (by rcases ha with e | e <;> subst e <;> simp [aOk]) h0 h1 h2 h3 (seekF_some ha _) h
  · exact h.elim
theorem ctB_ok (Γ : Funs) {vs : List AV} {g : G} {κ : AV → G → Prop} (h : ctB vs g κ) : stepF Γ 140 vs g κ := by
  unfold ctB at h
  split at h
  · rename_i b a
    obtain ⟨f, hf, h⟩ := elim_iff.mp h
    obtain ⟨ha, hst, h⟩ := guard_iff.mp h
    obtain ⟨⟨h0, h1, h2, h3⟩, h⟩ := guard_iff.mp h
    obtain ⟨o, hg, hs⟩ := st_mk hf
    have h := h (fndB a (txB (gS s10 f) (gI s11 f) (gI s14 f))).1 (fndB a (txB (gS s10 f) (gI s11 f) (gI s14 f))).2 rfl
    rw [hs] at h
    unfold isSt at hst
    generalize gS s10 f = cur at *
    generalize gI s11 f = c at *
    generalize gI s12 f = l at *
    generalize gI s14 f = lb at *
    generalize gI s15 f = b0 at *
    generalize gI s16 f = k0 at *
    generalize gI s74 f = p at *
    generalize gI s75 f = m at *
    subst hst
    rw [aput_cur] at h
    rw [hg]
    exact fab_all Γ cur c l lb b0 k0 p m g.tape o a b (by rcases ha with e | e | e <;> subst e <;> simp [aOk]) h0 h1 h2 h3 (seekB_some ha _) h
  · exact h.elim
end Mine

end

-- EvPE
section
open PySem PySem.W PyProof.Rows
set_option Elab.async false
set_option maxRecDepth 100000
set_option maxHeartbeats 0
set_option linter.all false
namespace Mine
theorem next_whole (Γ : Funs) (many i seed : Int) (nums : List Int) (s1 s2 : Option (List (Str × AV))) (κ : AV → G → Prop) : stepF Γ 390 [.tape, .int many] ⟨some (tapeV i nums seed), s1, s2⟩ κ =
    (bif decide (i + 1 ≤ (nums.length : Int)) then guardA (0 ≤ i + 1 - 1) (elimA nums[(i + 1 - 1).toNat]? fun x => guardA (many ≠ 0) (κ (.int (Int.fmod x many)) ⟨some (tapeV (i + 1) nums seed), s1, s2⟩))
     else guardA (many ≠ 0) (κ (.int (Int.fmod (Int.fdiv (Int.fmod (seed * 48271) 2147483647) 31) many)) ⟨some (tapeV (i + 1) nums (Int.fmod (seed * 48271) 2147483647)), s1, s2⟩)) := by kernel_rfl
noncomputable def ctN (vs : List AV) (g : G) (κ : AV → G → Prop) : Prop := match vs, g.tape with
  | [.tape, .int many], some [.int i, .ilist nums, .int seed] => guardA (0 < many) (0 ≤ i ∧ (
      bif many == 3 then (∀ (i' seed' : Int), 0 ≤ i' → κ (.int 0) ⟨some (tapeV i' nums seed'), g.s1, g.s2⟩) ∧ (∀ (i' seed' : Int), 0 ≤ i' → κ (.int 1) ⟨some (tapeV i' nums seed'), g.s1, g.s2⟩) ∧ (∀ (i' seed' : Int), 0 ≤ i' → κ (.int 2) ⟨some (tapeV i' nums seed'), g.s1, g.s2⟩)
       else ∀ (r i' seed' : Int), 0 ≤ r → r < many → 0 ≤ i' → κ (.int r) ⟨some (tapeV i' nums seed'), g.s1, g.s2⟩))
  | _, _ => False
theorem ctN_ok (Γ : Funs) {vs : List AV} {g : G} {κ : AV → G → Prop} (h : ctN vs g κ) : stepF Γ 390 vs g κ := by
  obtain ⟨tp, s1, s2⟩ := g
  unfold ctN at h
  split at h
  · rename_i many i nums seed e
    have e' : tp = some (tapeV i nums seed) := e
    subst e'
    obtain ⟨hm, h0, h⟩ := guard_iff.mp h
    have all : ∀ (r i' seed' : Int), 0 ≤ r → r < many → 0 ≤ i' → κ (.int r) ⟨some (tapeV i' nums seed'), s1, s2⟩ := by
      intro r i' seed' a1 a2 a3
      by_cases q : many = 3
      · subst q
        have h' : (∀ (i' seed' : Int), 0 ≤ i' → κ (.int 0) ⟨some (tapeV i' nums seed'), s1, s2⟩) ∧ (∀ (i' seed' : Int), 0 ≤ i' → κ (.int 1) ⟨some (tapeV i' nums seed'), s1, s2⟩) ∧ (∀ (i' seed' : Int), 0 ≤ i' → κ (.int 2) ⟨some (tapeV i' nums seed'), s1, s2⟩) := h
        have : r = 0 ∨ r = 1 ∨ r = 2 := by omega
        rcases this with rfl | rfl | rfl
        · exact h'.1 _ _ a3
        · exact h'.2.1 _ _ a3
        · exact h'.2.2 _ _ a3
      · rw [show (many == 3) = false by simpa using q] at h
        exact h r i' seed' a1 a2 a3
    rw [next_whole]
    have fm : ∀ x : Int, 0 ≤ Int.fmod x many ∧ Int.fmod x many < many := fun x => ⟨Int.fmod_nonneg_of_pos x hm, Int.fmod_lt_of_pos x hm⟩
    by_cases hl : i + 1 ≤ (nums.length : Int)
    · rw [show decide (i + 1 ≤ (nums.length : Int)) = true by simpa using hl]
      refine guard_iff.mpr ⟨by omega, elim_iff.mpr ⟨nums[(i + 1 - 1).toNat]'(by omega), List.getElem?_eq_getElem _, guard_iff.mpr ⟨by omega, ?_⟩⟩⟩
      exact all _ _ _ (fm _).1 (fm _).2 (by omega)
    · rw [show decide (i + 1 ≤ (nums.length : Int)) = false by simpa using hl]
      exact guard_iff.mpr ⟨by omega, all _ _ _ (fm _).1 (fm _).2 (by omega)⟩
  · exact h.elim
noncomputable def funB : Funs := fun f vs g κ => bif Nat.beq f 133 then ctF vs g κ else bif Nat.beq f 140 then ctB vs g κ else bif Nat.beq f 390 then ctN vs g κ else gam 3 f vs g κ
theorem funB_le {f : Addr} {vs : List AV} {g : G} {κ : AV → G → Prop} (h : funB f vs g κ) : stepF (gam 2) f vs g κ := by
  unfold funB at h
  cases q1 : Nat.beq f 133 with
  | true => rw [q1] at h; have := Nat.eq_of_beq_eq_true q1; subst this; exact ctF_ok _ h
  | false =>
    rw [q1] at h
    cases q2 : Nat.beq f 140 with
    | true => rw [q2] at h; have := Nat.eq_of_beq_eq_true q2; subst this; exact ctB_ok _ h
    | false =>
      rw [q2] at h
      cases q3 : Nat.beq f 390 with
      | true => rw [q3] at h; have := Nat.eq_of_beq_eq_true q3; subst this; exact ctN_ok _ h
      | false => rw [q3] at h; exact h
end Mine

end

-- EvPF
section
open PySem PySem.W PyProof.Rows PySem.Builtin.Str
set_option Elab.async false
set_option maxRecDepth 100000
set_option maxHeartbeats 0
set_option linter.all false
namespace Mine
noncomputable def clipN (v : Option Int) (dflt n : Int) : Int := match v with
  | none => dflt
  | some i => max 0 (min (if i < 0 then i + n else i) n)
theorem srange (a b : Nat) : sliceRange (a : Int) (b : Int) 1 = (List.range (b - a)).map (a + ·) := by
  unfold sliceRange
  rw [if_pos (by decide)]
  have e : (if (a : Int) < b then ((b : Int) - a + 1 - 1) / 1 else 0).toNat = b - a := by
    split
    · rw [Int.ediv_one]; omega
    · simp; omega
  dsimp only
  rw [e]
  apply List.map_congr_left
  intro k _
  omega
theorem slc_eq (l : List Nat) (lo hi : Option Int) {a b : Nat} (ha : clipN lo 0 l.length = a) (hb : clipN hi l.length l.length = b) (hbl : b ≤ l.length) : slcA l lo hi = (l.drop a).take (b - a) := by
  have hs : strSliceIndices lo hi 1 l.length = (List.range (b - a)).map (a + ·) := by
    rw [← srange, ← ha, ← hb]
    unfold strSliceIndices clipN
    simp only [show (1 : Int) > 0 by decide, if_true]
    cases lo <;> cases hi <;> rfl
  unfold slcA Txt.slice
  rw [str_len, hs]
  split
  · rename_i h
    simp at h
    by_cases hz : l.length = 0
    · have := List.eq_nil_of_length_eq_zero hz
      subst this
      simp
    · have e1 : a = 0 := by omega
      have e2 : b = l.length := by omega
      subst e1 e2
      simp
  · have := pick_run l.toArray a (b - a)
    simpa using this
theorem slc_take (l : List Nat) {k : Int} (h0 : 0 ≤ k) (h1 : k ≤ l.length) : slcA l (some 0) (some k) = l.take k.toNat := by
  rw [slc_eq l (some 0) (some k) (a := 0) (b := k.toNat) (by unfold clipN; simp; omega) (by show max 0 (min (if k < 0 then k + (l.length : Int) else k) (l.length : Int)) = _; rw [if_neg (by omega)]; omega) (by omega)]
  simp
theorem slc_drop (l : List Nat) {k : Int} (h0 : 0 ≤ k) (h1 : k ≤ l.length) : slcA l (some k) none = l.drop k.toNat := by
  rw [slc_eq l (some k) none (a := k.toNat) (b := l.length) (by show max 0 (min (if k < 0 then k + (l.length : Int) else k) (l.length : Int)) = _; rw [if_neg (by omega)]; omega) rfl (by omega)]
  rw [List.take_of_length_le (by simp)]
end Mine

end

-- EvPG
section
open PySem PySem.W PyProof.Rows PySem.Builtin.Str
set_option Elab.async false
set_option maxRecDepth 100000
set_option maxHeartbeats 0
set_option linter.all false
namespace Mine
theorem slice_whole (b : Bool) (cur : List Nat) (c l lb b0 k0 p m : Int) (tp : Option (List AV)) (o : Option (List (Str × AV))) (s : List Nat) (κ : AV → G → Prop) :
    stepF (gam 2) 154 [.stem b, .str s] (mkG b tp (stF cur c l lb b0 k0 p m) o) κ =
    guardA (b0 ≥ 0) (guardA (b0 ≤ k0) (guardA (k0 ≤ l) (guardA (l ≤ (cur.length : Int)) (guardA ((slcA cur (some 0) (some b0)).length + s.length ≤ fitN) (guardA ((slcA cur (some 0) (some b0) ++ s).length + (slcA cur (some k0) none).length ≤ fitN)
      (bif decide (c ≥ k0) then κ .none (mkG b tp (stF (slcA cur (some 0) (some b0) ++ s ++ slcA cur (some k0) none) (c + ((s.length : Int) - (k0 - b0))) (l + ((s.length : Int) - (k0 - b0))) lb b0 (b0 + (s.length : Int)) p m) o)
       else bif decide (c > b0) then κ .none (mkG b tp (stF (slcA cur (some 0) (some b0) ++ s ++ slcA cur (some k0) none) b0 (l + ((s.length : Int) - (k0 - b0))) lb b0 (b0 + (s.length : Int)) p m) o)
       else κ .none (mkG b tp (stF (slcA cur (some 0) (some b0) ++ s ++ slcA cur (some k0) none) c (l + ((s.length : Int) - (k0 - b0))) lb b0 (b0 + (s.length : Int)) p m) o))))))) := by
  cases b <;> kernel_rfl
noncomputable def ctS (vs : List AV) (g : G) (κ : AV → G → Prop) : Prop := match vs with
  | [.stem b, .str s] => elimA (g.st b) fun f => isSt f ∧ guardA (0 ≤ gI s15 f ∧ gI s15 f ≤ gI s16 f ∧ gI s16 f ≤ gI s12 f ∧ gI s12 f ≤ (gS s10 f).length ∧ (gS s10 f).length + s.length ≤ fitN)
      (∀ (c' k' : Int), κ .none (g.setSt b (stF ((gS s10 f).take (gI s15 f).toNat ++ s ++ (gS s10 f).drop (gI s16 f).toNat) c' (gI s12 f + ((s.length : Int) - (gI s16 f - gI s15 f))) (gI s14 f) (gI s15 f) k' (gI s74 f) (gI s75 f))))
  | _ => False
theorem ctS_ok {vs : List AV} {g : G} {κ : AV → G → Prop} (h : ctS vs g κ) : stepF (gam 2) 154 vs g κ := by
  unfold ctS at h
  split at h
  · rename_i b s
    obtain ⟨f, hf, h⟩ := elim_iff.mp h
    obtain ⟨hst, h⟩ := h
    obtain ⟨⟨h0, h1, h2, h3, h4⟩, h⟩ := guard_iff.mp h
    obtain ⟨o, hg, hs⟩ := st_mk hf
    unfold isSt at hst
    generalize gS s10 f = cur at *
    generalize gI s11 f = c at *
    generalize gI s12 f = l at *
    generalize gI s14 f = lb at *
    generalize gI s15 f = b0 at *
    generalize gI s16 f = k0 at *
    generalize gI s74 f = p at *
    generalize gI s75 f = m at *
    subst hst
    rw [hg, slice_whole]
    rw [slc_take cur h0 (by omega), slc_drop cur (by omega) (by omega)]
    have l1 : (cur.take b0.toNat).length = b0.toNat := by rw [List.length_take]; omega
    have l2 : (cur.drop k0.toNat).length = cur.length - k0.toNat := List.length_drop ..
    refine guard_iff.mpr ⟨h0, guard_iff.mpr ⟨h1, guard_iff.mpr ⟨h2, guard_iff.mpr ⟨h3, guard_iff.mpr ⟨by omega, guard_iff.mpr ⟨by rw [List.length_append]; omega, ?_⟩⟩⟩⟩⟩⟩
    have hk : ∀ c' k', κ .none (mkG b g.tape (stF (cur.take b0.toNat ++ s ++ cur.drop k0.toNat) c' (l + ((s.length : Int) - (k0 - b0))) lb b0 k' p m) o) := fun c' k' => by
      have := h c' k'
      rw [hs] at this
      exact this
    cases decide (c ≥ k0) with
    | true => exact hk _ _
    | false => cases decide (c > b0) with
      | true => exact hk _ _
      | false => exact hk _ _
  · exact h.elim
end Mine

end

-- EvPH
section
open PySem PySem.W PyProof.Rows PySem.Builtin.Str
set_option Elab.async false
set_option maxRecDepth 100000
set_option maxHeartbeats 0
set_option linter.all false
namespace Mine
-- the seekers, the tape and slice_from by contract, the rest from gam 3
noncomputable def funC : Funs := fun f vs g κ => bif Nat.beq f 154 then ctS vs g κ else funB f vs g κ
theorem funC_le {f : Addr} {vs : List AV} {g : G} {κ : AV → G → Prop} (h : funC f vs g κ) : stepF (gam 2) f vs g κ := by
  unfold funC at h
  cases q1 : Nat.beq f 154 with
  | true => rw [q1] at h; have := Nat.eq_of_beq_eq_true q1; subst this; exact ctS_ok h
  | false => rw [q1] at h; exact funB_le h
theorem funC_ok {prog : Program} {w : World} {V : VT} {hb : Heap} {W : Adrs} {p : Program} {loose : List Str} {mg mb : Str → Option Value} : FunsOk prog w V hb W p loose mg mb 3 funC :=
  FunsOk.mono (step_ok (gam_ok 2)) (Nat.le_refl _) fun _ _ _ _ h => funC_le h
-- slice_del
noncomputable def ctD (vs : List AV) (g : G) (κ : AV → G → Prop) : Prop := match vs with
  | [.stem b] => ctS [.stem b, .str []] g κ
  | _ => False
theorem del_whole (b : Bool) (g : G) (f : List (Str × AV)) (o tp) (κ : AV → G → Prop) (cur : List Nat) (c l lb b0 k0 p m : Int) : stepF funC 161 [.stem b] (mkG b tp (stF cur c l lb b0 k0 p m) o) κ = ctS [.stem b, .str []] (mkG b tp (stF cur c l lb b0 k0 p m) o) κ := by
  cases b <;> kernel_rfl
theorem ctD_ok {vs : List AV} {g : G} {κ : AV → G → Prop} (h : ctD vs g κ) : stepF funC 161 vs g κ := by
  unfold ctD at h
  split at h
  · rename_i b
    have h' : elimA (g.st b) fun f => isSt f ∧ _ := h
    obtain ⟨f, hf, hst, _⟩ := elim_iff.mp h'
    obtain ⟨o, hg, hs⟩ := st_mk hf
    unfold isSt at hst
    rw [hg, hst, del_whole b g f, ← hst, ← hg]
    exact h
  · exact h.elim
noncomputable def funD : Funs := fun f vs g κ => bif Nat.beq f 161 then ctD vs g κ else funC f vs g κ
theorem funD_ok {prog : Program} {w : World} {V : VT} {hb : Heap} {W : Adrs} {p : Program} {loose : List Str} {mg mb : Str → Option Value} : FunsOk prog w V hb W p loose mg mb 4 funD := by
  intro f avs g κ h A l f0 name sc L a cd s m imm vals R C hA hk hF hh hd rel rl kk
  unfold funD at h
  cases q1 : Nat.beq f 161 with
  | true =>
    rw [q1] at h
    have := Nat.eq_of_beq_eq_true q1
    subst this
    exact step_ok funC_ok 161 avs g κ (ctD_ok h) C hA hk hF hh hd rel rl kk
  | false =>
    rw [q1] at h
    exact funC_ok f avs g κ h C hA hk hF hh (by omega) rel rl kk
end Mine

end

-- EvPI
section
open PySem PySem.W PyProof.Rows PySem.Builtin.Str
set_option Elab.async false
set_option maxRecDepth 100000
set_option maxHeartbeats 0
set_option linter.all false
namespace Mine
section
variable (b : Bool) (cur : List Nat) (c l lb b0 k0 p m : Int) (tp : Option (List AV)) (o : Option (List (Str × AV))) (κ : AV → G → Prop)
-- slice_del's word at given bra, ket
noncomputable def delA (cur : List Nat) (l lb bra ket p m : Int) (c : Int) (K : List Nat → Int → Int → Int → Prop) : Prop :=
  isSt (stF cur c l lb bra ket p m) ∧ guardA (0 ≤ bra ∧ bra ≤ ket ∧ ket ≤ l ∧ l ≤ (cur.length : Int) ∧ cur.length + 0 ≤ fitN) (∀ (c' k' : Int), K (cur.take bra.toNat ++ [] ++ cur.drop ket.toNat) c' (l + (((0 : Nat) : Int) - (ket - bra))) k')
noncomputable def seekB (a : Addr) (cur : List Nat) (c l lb b0 k0 p m : Int) (K : Int → Nat → Prop) : Prop :=
  isSt (stF cur c l lb b0 k0 p m) ∧ guardA (0 ≤ lb ∧ lb ≤ c ∧ c ≤ (cur.length : Int) ∧ cur.length ≤ fitN) (∀ (res : Int) (len : Nat), fndB a (txB cur c lb) = (res, len) → K res len)
theorem particle_whole : stepF funD 239 [.stem b] (mkG b tp (stF cur c l lb b0 k0 p m) o) κ =
    seekB 284 cur c l lb b0 c p m fun res len => bif res == 0 then κ (.bool false) (mkG b tp (stF cur (c - len) l lb b0 c p m) o)
      else delA cur l lb (c - len) c p m (c - len) fun cur' c' l' k' => κ (.bool true) (mkG b tp (stF cur' c' l' lb (c - len) k' p (m - 1)) o) := by
  cases b <;> kernel_rfl
theorem pronoun_whole : stepF funD 246 [.stem b] (mkG b tp (stF cur c l lb b0 k0 p m) o) κ =
    seekB 294 cur c l lb b0 c p m fun res len => bif res == 0 then κ (.bool false) (mkG b tp (stF cur (c - len) l lb b0 c p m) o)
      else delA cur l lb (c - len) c p m (c - len) fun cur' c' l' k' => κ (.bool true) (mkG b tp (stF cur' c' l' lb (c - len) k' p (m - 1)) o) := by
  cases b <;> kernel_rfl
theorem suffix_whole : stepF funD 253 [.stem b] (mkG b tp (stF cur c l lb b0 k0 p m) o) κ =
    seekB 301 cur c l lb b0 c p m fun res len => bif res == 0 then κ (.bool false) (mkG b tp (stF cur (c - len) l lb b0 c p m) o)
      else
        let D := fun bra cu => delA cur l lb bra c p m cu fun cur' c' l' k' => κ (.bool true) (mkG b tp (stF cur' c' l' lb bra k' p (m - 1)) o)
        bif res == 1 then
          let T := bif p == 1 then κ (.bool false) (mkG b tp (stF cur (l - (l - (c - len))) l lb (c - len) c p m) o) else D (c - len) (l - (l - (c - len)))
          bif p == 3 then T else bif p == 2 then T else bif decide (c - len ≤ lb) then T else guardA (0 ≤ c - len - 1) (elimA cur[(c - len - 1).toNat]? fun ch => bif !([ch] == [107]) then T else D (c - len - 1) (c - len - 1))
        else bif decide (p > 2) then κ (.bool false) (mkG b tp (stF cur (c - len) l lb (c - len) c p m) o)
          else bif decide (c - len ≤ lb) then D (c - len) (c - len) else guardA (0 ≤ c - len - 1) (elimA cur[(c - len - 1).toNat]? fun ch => bif !([ch] == [115]) then D (c - len) (c - len)
            else κ (.bool false) (mkG b tp (stF cur (c - len - 1) l lb (c - len) c p m) o)) := by
  cases b <;> kernel_rfl
end
end Mine

end

-- EvPJ
section
open PySem PySem.W PyProof.Rows PySem.Builtin.Str
set_option Elab.async false
set_option maxRecDepth 100000
set_option maxHeartbeats 0
set_option linter.all false
namespace Mine
section
variable (b : Bool) (cur : List Nat) (c l lb b0 k0 p m : Int) (tp : Option (List AV)) (o : Option (List (Str × AV))) (κ : AV → G → Prop)
-- slice_from's word at given bra, ket
noncomputable def insA (s : List Nat) (cur : List Nat) (l lb bra ket p m : Int) (c : Int) (K : List Nat → Int → Int → Int → Prop) : Prop :=
  isSt (stF cur c l lb bra ket p m) ∧ guardA (0 ≤ bra ∧ bra ≤ ket ∧ ket ≤ l ∧ l ≤ (cur.length : Int) ∧ cur.length + s.length ≤ fitN) (∀ (c' k' : Int), K (cur.take bra.toNat ++ s ++ cur.drop ket.toNat) c' (l + ((s.length : Int) - (ket - bra))) k')
noncomputable def seekF (a : Addr) (cur : List Nat) (c l lb b0 k0 p m : Int) (K : Int → Nat → Prop) : Prop :=
  isSt (stF cur c l lb b0 k0 p m) ∧ guardA (0 ≤ c ∧ c ≤ l ∧ l ≤ (cur.length : Int) ∧ cur.length ≤ fitN) (∀ (res : Int) (len : Nat), fndF a (txF cur c l) = (res, len) → K res len)
theorem first_whole : stepF funD 260 [.stem b] (mkG b tp (stF cur c l lb b0 k0 p m) o) κ =
    seekF 332 cur c l lb c k0 p m fun res len => bif res == 0 then κ (.bool false) (mkG b tp (stF cur (c + len) l lb c k0 p m) o)
      else
        let D := fun v => delA cur l lb c (c + len) p m (c + len) fun cur' c' l' k' => κ (.bool true) (mkG b tp (stF cur' c' l' lb c k' v (m - 1)) o)
        let Y := fun v => bif (c + len) == l then D v else guardA (0 ≤ c + len) (elimA cur[(c + len).toNat]? fun ch => bif !([ch] == [121]) then D v else
          bif decide (c + len + 1 ≥ l) then D v else guardA (0 ≤ c + len + 1) (elimA cur[(c + len + 1).toNat]? fun d => bif !(vowels.contains d) then D v else
            insA [115] cur l lb c (c + len + 1) p m (c + len + 1) fun cur' c' l' k' => κ (.bool true) (mkG b tp (stF cur' c' l' lb c k' v (m - 1)) o)))
        let P := fun v =>
          let D' := delA cur l lb c (c + len) v (m - 1) (c + len) fun cur' c' l' k' => κ (.bool true) (mkG b tp (stF cur' c' l' lb c k' v (m - 1)) o)
          bif decide (c + len ≥ l) then D' else guardA (0 ≤ c + len) (elimA cur[(c + len).toNat]? fun d => bif !(vowels.contains d) then D' else
            insA [112] cur l lb c (c + len) v (m - 1) (c + len) fun cur' c' l' k' => κ (.bool true) (mkG b tp (stF cur' c' l' lb c k' v (m - 1)) o))
        bif res == 1 then D 1 else bif res == 2 then Y 1 else bif res == 3 then D 3 else bif res == 4 then Y 3 else bif res == 5 then P 1 else P 3 := by
  cases b <;> kernel_rfl
theorem second_whole : stepF funD 267 [.stem b] (mkG b tp (stF cur c l lb b0 k0 p m) o) κ =
    seekF 339 cur c l lb c k0 p m fun res len => bif res == 0 then κ (.bool false) (mkG b tp (stF cur (c + len) l lb c k0 p m) o)
      else
        let E := fun ket p' cu => delA cur l lb c ket p' (m - 1) cu fun cur' c' l' k' => κ (.bool true) (mkG b tp (stF cur' c' l' lb c k' p' (m - 1)) o)
        let T1 := fun (p1 p2 : Int) (T3 : Prop) =>
          let T2 := bif (c + len) == l then T3 else guardA (0 ≤ c + len) (elimA cur[(c + len).toNat]? fun ch => bif !([ch] == [108]) then T3 else
            bif List.isPrefixOf [97, 106, 97, 114] (slcA cur (some (c + len + 1)) (some l)) then E (c + len + 1) p2 (c + len + 1 + 4) else T3)
          bif (c + len) == l then T2 else guardA (0 ≤ c + len) (elimA cur[(c + len).toNat]? fun ch => bif !([ch] == [114]) then T2 else E (c + len + 1) p1 (c + len + 1))
        bif res == 1 then T1 2 p (E (c + len) 2 (c + len))
        else T1 4 4 (
          let N := fun cu => κ (.bool false) (mkG b tp (stF cur cu l lb c (c + len) p m) o)
          bif decide (c + len ≥ l) then N (c + len) else guardA (0 ≤ c + len) (elimA cur[(c + len).toNat]? fun d => bif !(vowels.contains d) then
            (bif List.isPrefixOf [101, 114] (slcA cur (some (c + len + 1)) (some l)) then E (c + len) 4 (c + len + 1 + 2) else N (c + len + 1)) else N (c + len))) := by
  cases b <;> kernel_rfl
end
end Mine

end

-- EvPK
section
open PySem PySem.W PyProof.Rows PySem.Builtin.Str
set_option Elab.async false
set_option maxRecDepth 100000
set_option maxHeartbeats 0
set_option linter.all false
namespace Mine
-- the law's plain functions
section
variable (text : List Nat) (front p m : Int) (g : G) (κ : AV → G → Prop)
noncomputable def isA (t : List Nat) (place : Int) (K : Bool → Prop) : Prop :=
  bif decide ((t.length : Int) > place) then guardA (0 ≤ place) (elimA t[place.toNat]? fun ch => K (vowels.contains ch)) else K false
noncomputable def bestA (text : List Nat) : List (List Nat) → List Nat → (List Nat → Prop) → Prop
  | [], best, K => K best
  | f :: r, best, K => bif decide ((f.length : Int) > (best.length : Int)) then (bif List.isPrefixOf f text then bestA text r f K else bestA text r best K) else bestA text r best K
noncomputable def frontsL : List (List Nat) := [[100, 105], [107, 101], [109, 101], [109, 101, 109], [109, 101, 110], [109, 101, 110, 103], [112, 101, 109], [112, 101, 110], [112, 101, 110, 103], [116, 101, 114]]
noncomputable def retA (ans : Bool) (t : List Nat) (p m : Int) (g : G) (κ : AV → G → Prop) : Prop := κ (.list [.bool ans, .str t, .int p, .int m]) g
theorem lfirst_whole : stepF funD 411 [.str text, .int p, .int m] g κ =
    bestA text frontsL [] fun best =>
      bif best == [] then retA false text p m g κ
      else
        let rest := slcA text (some (best.length : Int)) none
        let mark : Int := bif List.contains [[107, 101], [112, 101, 110, 103], [112, 101, 110], [112, 101, 109]] best then 3 else 1
        let Q3 := retA true rest mark (m - 1) g κ
        let Q2 := bif List.contains [[109, 101, 109], [112, 101, 109]] best then
          isA rest 0 fun v => bif v then guardA (1 + rest.length ≤ fitN) (retA true ([112] ++ rest) mark (m - 1) g κ) else Q3 else Q3
        bif List.contains [[109, 101, 110], [112, 101, 110]] best then
          (bif List.isPrefixOf [121] rest then isA rest 1 fun v => bif v then guardA (1 + (slcA rest (some 1) none).length ≤ fitN) (retA true ([115] ++ slcA rest (some 1) none) mark (m - 1) g κ) else Q2 else Q2)
        else Q2 := by kernel_rfl
theorem lsecond_whole : stepF funD 418 [.str text, .int p, .int m] g κ =
    let rest := slcA text (some 2) none
    let whole := List.isPrefixOf [114] rest
    let ajar := List.isPrefixOf [108, 97, 106, 97, 114] rest
    let N := retA false text p m g κ
    bif List.isPrefixOf [112, 101] text then
      (bif ajar then retA true (slcA rest (some 1) none) p (m - 1) g κ else bif whole then retA true (slcA rest (some 1) none) 2 (m - 1) g κ else retA true rest 2 (m - 1) g κ)
    else bif List.isPrefixOf [98, 101] text then
      (let X := retA true (slcA rest (some 1) none) 4 (m - 1) g κ
       let Y := bif decide ((rest.length : Int) > 2) then isA rest 0 fun v => bif !v then (bif slcA rest (some 1) (some 3) == [101, 114] then retA true rest 4 (m - 1) g κ else N) else N else N
       bif whole then X else bif ajar then X else Y)
    else N := by kernel_rfl
noncomputable def offA (text part : List Nat) (p m : Int) (g : G) (κ : AV → G → Prop) : List (List Nat) → Prop
  | [] => retA false text p m g κ
  | e :: r => bif List.isSuffixOf e part then retA true (slcA text none (some ((text.length : Int) - (e.length : Int)))) p (m - 1) g κ else offA text part p m g κ r
noncomputable def rowsA : List (List Nat) := [[107, 97, 104], [108, 97, 104], [112, 117, 110]]
noncomputable def rowsB : List (List Nat) := [[110, 121, 97], [107, 117], [109, 117]]
theorem loffA_whole : stepF funD 425 [.str text, .int front, .list (rowsA.map AV.str), .int p, .int m] g κ = offA text (slcA text (some front) none) p m g κ rowsA := by kernel_rfl
theorem loffB_whole : stepF funD 425 [.str text, .int front, .list (rowsB.map AV.str), .int p, .int m] g κ = offA text (slcA text (some front) none) p m g κ rowsB := by kernel_rfl
theorem lsuffix_whole : stepF funD 432 [.str text, .int front, .int p, .int m] g κ =
    let part := slcA text (some front) none
    let N := retA false text p m g κ
    bif List.isSuffixOf [97, 110] part then
      (let head := slcA text none (some (-2))
       let Q := bif p == 1 then N else retA true head p (m - 1) g κ
       bif !(List.contains [2, 3] p) then (bif List.isSuffixOf [107] (slcA head (some front) none) then retA true (slcA head none (some (-1))) p (m - 1) g κ else Q) else Q)
    else bif List.isSuffixOf [105] part then (bif decide (p ≤ 2) then (bif !(List.isSuffixOf [115, 105] part) then retA true (slcA text none (some (-1))) p (m - 1) g κ else N) else N) else N := by kernel_rfl
end
section
variable (Γ : Funs) (step : Int) (text behind outside : List Nat) (front p m : Int) (g : G) (κ : AV → G → Prop)
abbrev caseL (step : Int) (text behind outside : List Nat) (front p m : Int) : List AV := [.int step, .str text, .str behind, .str outside, .int front, .int p, .int m]
theorem full_whole : stepF Γ 439 [.list (caseL step text behind outside front p m)] g κ =
    bif step == 0 then Γ 411 [.str text, .int p, .int m] g κ
    else bif step == 1 then Γ 418 [.str text, .int p, .int m] g κ
    else bif step == 2 then Γ 432 [.str text, .int front, .int p, .int m] g κ
    else bif step == 3 then Γ 425 [.str text, .int front, .list (rowsA.map AV.str), .int p, .int m] g κ
    else Γ 425 [.str text, .int front, .list (rowsB.map AV.str), .int p, .int m] g κ := by kernel_rfl
variable (b : Bool) (cur : List Nat) (c l lb b0 k0 : Int) (tp : Option (List AV)) (o : Option (List (Str × AV)))
theorem told_whole : stepF Γ 446 [.stem b, .int step] (mkG b tp (stF cur c l lb b0 k0 p m) o) κ =
    bif step == 0 then Γ 260 [.stem b] (mkG b tp (stF cur c l lb b0 k0 p m) o) κ
    else bif step == 1 then Γ 267 [.stem b] (mkG b tp (stF cur c l lb b0 k0 p m) o) κ
    else bif step == 2 then Γ 253 [.stem b] (mkG b tp (stF cur c l lb b0 k0 p m) o) κ
    else bif step == 3 then Γ 239 [.stem b] (mkG b tp (stF cur c l lb b0 k0 p m) o) κ
    else Γ 246 [.stem b] (mkG b tp (stF cur c l lb b0 k0 p m) o) κ := by cases b <;> kernel_rfl
end
end Mine

end

-- EvPL
section
open PySem PySem.W PyProof.Rows PySem.Builtin.Str
set_option Elab.async false
set_option maxRecDepth 100000
set_option maxHeartbeats 0
set_option linter.all false
namespace Mine
abbrev caseLL (step : Int) (text behind outside : List Nat) (front p m : Int) : List AV := [.int step, .str text, .str behind, .str outside, .int front, .int p, .int m]
section
variable (i seed : Int) (nums : List Int) (s1 s2 : Option (List (Str × AV))) (κ : AV → G → Prop)
noncomputable def nxA (many i : Int) (K : Int → Int → Int → Prop) : Prop := 0 ≤ i ∧ ∀ (r i' seed' : Int), 0 ≤ r → r < many → 0 ≤ i' → K r i' seed'
noncomputable def pickA {α : Type} (l : List α) (r : Int) (K : α → Prop) : Prop := guardA (0 ≤ r) (elimA l[r.toNat]? K)
noncomputable def outL : List (List Nat) := [[], [], [], [107, 97]]
noncomputable def behL : List (List Nat) := [[], [], [], [97, 110]]
noncomputable def lettersL : List Nat := [97, 98, 100, 101, 103, 105, 107, 108, 109, 110, 111, 114, 115, 116, 117]
noncomputable def fronts16 : List (List Nat) := [[100, 105], [107, 101], [109, 101], [109, 101, 109], [109, 101, 110], [109, 101, 110, 103], [112, 101, 109], [112, 101, 110], [112, 101, 110, 103], [116, 101, 114], [112, 101], [112, 101, 114], [112, 101, 108], [98, 101], [98, 101, 114], [98, 101, 108]]
noncomputable def after12 : List (List Nat) := [[], [121, 97], [121, 98], [97], [105], [97, 106, 97, 114], [116, 101, 114], [98, 101, 114], [116], [107], [114], [108, 111]]
noncomputable def closes12 : List (List Nat) := [[107, 97, 104], [108, 97, 104], [112, 117, 110], [110, 121, 97], [107, 117], [109, 117], [105], [97, 110], [107, 97, 110], [105], [97, 110], [107, 97, 110]]
noncomputable def ksL : List (List Nat) := [[], [], [107], [115]]
noncomputable def offs4 : List Int := [0, 0, 1, 2]
noncomputable def caseC (nums : List Int) (s1 s2 : Option (List (Str × AV))) (κ : AV → G → Prop) (step : Int) (outside behind text : List Nat) (i : Int) : Prop :=
  nxA 4 i fun r i _ => pickA offs4 r fun v => nxA 5 i fun p i _ => nxA 10 i fun m i seed =>
    κ (.list (caseLL step text behind outside (if (text.length : Int) < v then (text.length : Int) else v) p m)) ⟨some (tapeV i nums seed), s1, s2⟩
noncomputable def caseB (nums : List Int) (s1 s2 : Option (List (Str × AV))) (κ : AV → G → Prop) (step : Int) (outside behind text : List Nat) (i : Int) : Prop :=
  bif decide (step < 2) then nxA 16 i fun r i _ => pickA fronts16 r fun f => nxA 12 i fun r i _ => pickA after12 r fun a => guardA (f.length + a.length ≤ fitN) (guardA ((f ++ a).length + text.length ≤ fitN) (caseC nums s1 s2 κ step outside behind (f ++ a ++ text) i))
  else nxA 4 i fun r i _ => pickA ksL r fun x => guardA (text.length + x.length ≤ fitN) (nxA 12 i fun r i _ => pickA closes12 r fun y => guardA ((text ++ x).length + y.length ≤ fitN) (caseC nums s1 s2 κ step outside behind (text ++ x ++ y) i))
theorem case_whole : stepF funD 397 [.tape] ⟨some (tapeV i nums seed), s1, s2⟩ κ =
    nxA 5 i fun step i _ => nxA 4 i fun r i _ => pickA outL r fun outside => nxA 4 i fun r i _ => pickA behL r fun behind =>
      0 ≤ i ∧ ((∀ (i seed : Int), 0 ≤ i → caseB nums s1 s2 κ step outside behind [] i)
        ∧ (∀ (i seed : Int), 0 ≤ i → nxA 15 i fun r i _ => pickA lettersL r fun c1 => caseB nums s1 s2 κ step outside behind [c1] i)
        ∧ (∀ (i seed : Int), 0 ≤ i → nxA 15 i fun r i _ => pickA lettersL r fun c1 => nxA 15 i fun r i _ => pickA lettersL r fun c2 => caseB nums s1 s2 κ step outside behind [c1, c2] i)) := by kernel_rfl
end
section
variable (b : Bool) (step : Int) (text behind outside : List Nat) (front p m : Int) (κ : AV → G → Prop) (tp : Option (List AV)) (o : Option (List (Str × AV)))
noncomputable def f6 (cur : List Nat) (c l lb b k : Int) : List (Str × AV) := [(s10, .str cur), (s11, .int c), (s12, .int l), (s14, .int lb), (s15, .int b), (s16, .int k)]
noncomputable def setK (b : Bool) (step : Int) (text behind outside : List Nat) (front p m : Int) (tp : Option (List AV)) (o : Option (List (Str × AV))) (κ : AV → G → Prop) : Prop :=
  guardA (outside.length + text.length ≤ fitN) (guardA ((outside ++ text).length + behind.length ≤ fitN) (
    bif decide (step < 2) then guardA (outside.length + text.length ≤ fitN) (κ .none (mkG b tp (stF (outside ++ text ++ behind) (outside.length : Int) ((outside ++ text).length : Int) ((outside.length : Int) + front) 0 ((outside ++ text ++ behind).length : Int) p m) o))
    else guardA (outside.length + text.length ≤ fitN) (κ .none (mkG b tp (stF (outside ++ text ++ behind) ((outside ++ text).length : Int) ((outside ++ text ++ behind).length : Int) ((outside.length : Int) + front) 0 ((outside ++ text ++ behind).length : Int) p m) o))))
theorem set_whole8 (cur : List Nat) (c l lb b0 k0 p0 m0 : Int) : stepF funD 453 [.stem b, .list (caseLL step text behind outside front p m)] (mkG b tp (stF cur c l lb b0 k0 p0 m0) o) κ = setK b step text behind outside front p m tp o κ := by
  cases b <;> kernel_rfl
theorem set_whole6 (cur : List Nat) (c l lb b0 k0 : Int) : stepF funD 453 [.stem b, .list (caseLL step text behind outside front p m)] (mkG b tp (f6 cur c l lb b0 k0) o) κ = setK b step text behind outside front p m tp o κ := by
  cases b <;> kernel_rfl
end
end Mine

end

-- EvPM
section
open PySem PySem.W PyProof.Rows PySem.Builtin.Str
set_option Elab.async false
set_option maxRecDepth 100000
set_option maxHeartbeats 0
set_option linter.all false
namespace Mine
structure CaseOk (step : Int) (text behind outside : List Nat) (front : Int) : Prop where
  st : 0 ≤ step
  tx : text.length ≤ 40
  bh : behind.length ≤ 40
  os : outside.length ≤ 40
  f0 : 0 ≤ front
  fl : front ≤ text.length
theorem nx_mk {many i : Int} {K : Int → Int → Int → Prop} (h0 : 0 ≤ i) (h : ∀ (r i' seed' : Int), 0 ≤ r → r < many → 0 ≤ i' → K r i' seed') : nxA many i K := ⟨h0, h⟩
theorem pick_mk {α : Type} {l : List α} {r many : Int} {K : α → Prop} (h0 : 0 ≤ r) (h1 : r < many) (hl : (l.length : Int) = many) (h : ∀ s ∈ l, K s) : pickA l r K := by
  refine guard_iff.mpr ⟨h0, elim_iff.mpr ⟨l[r.toNat]'(by omega), List.getElem?_eq_getElem _, h _ (List.getElem_mem ..)⟩⟩
section
variable {nums : List Int} {s1 s2 : Option (List (Str × AV))} {κ : AV → G → Prop} {step : Int} {outside behind text : List Nat} {i : Int}
abbrev CaseAll (nums : List Int) (s1 s2 : Option (List (Str × AV))) (κ : AV → G → Prop) : Prop := ∀ (step : Int) (text behind outside : List Nat) (front p m i' seed' : Int), CaseOk step text behind outside front → 0 ≤ i' → κ (.list (caseLL step text behind outside front p m)) ⟨some (tapeV i' nums seed'), s1, s2⟩
theorem caseC_ok (H : CaseAll nums s1 s2 κ) (hs : 0 ≤ step) (ho : outside.length ≤ 2) (hb : behind.length ≤ 2) (ht : text.length ≤ 20) (hi : 0 ≤ i) : caseC nums s1 s2 κ step outside behind text i := by
  refine nx_mk hi fun r i2 sd2 h0 h1 hi2 => pick_mk h0 h1 rfl fun v hv => nx_mk hi2 fun p i3 sd3 _ _ hi3 => nx_mk hi3 fun m i4 sd4 _ _ hi4 => H _ _ _ _ _ _ _ _ _ ⟨hs, by omega, by omega, by omega, ?_, ?_⟩ hi4
  · have : 0 ≤ v := (show ∀ v ∈ offs4, 0 ≤ v by decide) v hv
    split <;> omega
  · split <;> omega
theorem caseB_ok (H : CaseAll nums s1 s2 κ) (hs : 0 ≤ step) (ho : outside.length ≤ 2) (hb : behind.length ≤ 2) (ht : text.length ≤ 2) (hi : 0 ≤ i) : caseB nums s1 s2 κ step outside behind text i := by
  unfold caseB
  have fit : ∀ n : Nat, n ≤ 100 → n ≤ fitN := fun n h => Nat.le_trans h (by decide)
  cases decide (step < 2) with
  | true =>
    refine nx_mk hi fun r i2 sd2 h0 h1 hi2 => pick_mk h0 h1 rfl fun f hf => nx_mk hi2 fun r i3 sd3 h0 h1 hi3 => pick_mk h0 h1 rfl fun a ha => ?_
    have l1 : f.length ≤ 4 := (show ∀ v ∈ fronts16, v.length ≤ 4 by decide) f hf
    have l2 : a.length ≤ 4 := (show ∀ v ∈ after12, v.length ≤ 4 by decide) a ha
    refine guard_iff.mpr ⟨fit _ (by omega), guard_iff.mpr ⟨fit _ (by rw [List.length_append]; omega), caseC_ok H hs ho hb (by simp only [List.length_append]; omega) hi3⟩⟩
  | false =>
    refine nx_mk hi fun r i2 sd2 h0 h1 hi2 => pick_mk h0 h1 rfl fun x hx => ?_
    have l1 : x.length ≤ 1 := (show ∀ v ∈ ksL, v.length ≤ 1 by decide) x hx
    refine guard_iff.mpr ⟨fit _ (by omega), nx_mk hi2 fun r i3 sd3 h0 h1 hi3 => pick_mk h0 h1 rfl fun y hy => ?_⟩
    have l2 : y.length ≤ 3 := (show ∀ v ∈ closes12, v.length ≤ 3 by decide) y hy
    exact guard_iff.mpr ⟨fit _ (by rw [List.length_append]; omega), caseC_ok H hs ho hb (by simp only [List.length_append]; omega) hi3⟩
end
noncomputable def ctC (vs : List AV) (g : G) (κ : AV → G → Prop) : Prop := match vs, g.tape with
  | [.tape], some [.int i, .ilist nums, .int seed] => 0 ≤ i ∧ CaseAll nums g.s1 g.s2 κ
  | _, _ => False
theorem ctC_ok {vs : List AV} {g : G} {κ : AV → G → Prop} (h : ctC vs g κ) : stepF funD 397 vs g κ := by
  obtain ⟨tp, s1, s2⟩ := g
  unfold ctC at h
  split at h
  · rename_i i nums seed e
    have e' : tp = some (tapeV i nums seed) := e
    subst e'
    obtain ⟨h0, H⟩ := h
    rw [case_whole]
    refine nx_mk h0 fun step i2 sd2 hs _ hi2 => nx_mk hi2 fun r i3 sd3 h0 h1 hi3 => pick_mk h0 h1 rfl fun o ho => nx_mk hi3 fun r i4 sd4 h0 h1 hi4 => pick_mk h0 h1 rfl fun bh hb => ⟨hi4, ?_⟩
    have l1 : o.length ≤ 2 := (show ∀ v ∈ outL, v.length ≤ 2 by decide) o ho
    have l2 : bh.length ≤ 2 := (show ∀ v ∈ behL, v.length ≤ 2 by decide) bh hb
    refine ⟨fun i5 _ hi5 => caseB_ok H hs l1 l2 (by simp) hi5, fun i5 _ hi5 => nx_mk hi5 fun r i6 _ h0 h1 hi6 => pick_mk h0 h1 rfl fun c1 _ => caseB_ok H hs l1 l2 (by simp) hi6,
      fun i5 _ hi5 => nx_mk hi5 fun r i6 _ h0 h1 hi6 => pick_mk h0 h1 rfl fun c1 _ => nx_mk hi6 fun r i7 _ h0 h1 hi7 => pick_mk h0 h1 rfl fun c2 _ => caseB_ok H hs l1 l2 (by simp) hi7⟩
  · exact h.elim
-- _law_set
noncomputable def laid (step : Int) (text behind outside : List Nat) (front p m : Int) : List (Str × AV) :=
  bif decide (step < 2) then stF (outside ++ text ++ behind) (outside.length : Int) ((outside ++ text).length : Int) ((outside.length : Int) + front) 0 ((outside ++ text ++ behind).length : Int) p m
  else stF (outside ++ text ++ behind) ((outside ++ text).length : Int) ((outside ++ text ++ behind).length : Int) ((outside.length : Int) + front) 0 ((outside ++ text ++ behind).length : Int) p m
noncomputable def any8 (f : List (Str × AV)) : Prop := (∃ cur c l lb b k p m, f = stF cur c l lb b k p m) ∨ (∃ cur c l lb b k, f = f6 cur c l lb b k)
noncomputable def ctSet (vs : List AV) (g : G) (κ : AV → G → Prop) : Prop := match vs with
  | [.stem b, .list [.int step, .str text, .str behind, .str outside, .int front, .int p, .int m]] => elimA (g.st b) fun f => any8 f ∧ CaseOk step text behind outside front ∧ κ .none (g.setSt b (laid step text behind outside front p m))
  | _ => False
theorem setK_ok {b : Bool} {step : Int} {text behind outside : List Nat} {front p m : Int} {tp : Option (List AV)} {o : Option (List (Str × AV))} {κ : AV → G → Prop} (C : CaseOk step text behind outside front)
    (h : κ .none (mkG b tp (laid step text behind outside front p m) o)) : setK b step text behind outside front p m tp o κ := by
  unfold setK
  have fit : ∀ n : Nat, n ≤ 200 → n ≤ fitN := fun n h => Nat.le_trans h (by decide)
  have := C.tx
  have := C.bh
  have := C.os
  have g1 : outside.length + text.length ≤ fitN := fit _ (by omega)
  refine guard_iff.mpr ⟨g1, guard_iff.mpr ⟨fit _ (by rw [List.length_append]; omega), ?_⟩⟩
  unfold laid at h
  cases q : decide (step < 2) with
  | true => rw [q] at h; exact guard_iff.mpr ⟨g1, h⟩
  | false => rw [q] at h; exact guard_iff.mpr ⟨g1, h⟩
theorem ctSet_ok {vs : List AV} {g : G} {κ : AV → G → Prop} (h : ctSet vs g κ) : stepF funD 453 vs g κ := by
  unfold ctSet at h
  split at h
  · rename_i b step text behind outside front p m
    obtain ⟨f, hf, ha, C, h⟩ := elim_iff.mp h
    obtain ⟨o, hg, hs⟩ := st_mk hf
    rw [hs] at h
    rcases ha with ⟨cur, c, l, lb, b0, k0, p0, m0, rfl⟩ | ⟨cur, c, l, lb, b0, k0, rfl⟩
    · rw [hg, set_whole8]
      exact setK_ok C h
    · rw [hg, set_whole6]
      exact setK_ok C h
  · exact h.elim
end Mine

end

-- EvPN
section
open PySem PySem.W PyProof.Rows PySem.Builtin.Str
set_option Elab.async false
set_option maxRecDepth 100000
set_option maxHeartbeats 0
set_option linter.all false
namespace Mine
-- slices once more
theorem slc_dropN (t : List Nat) (k : Nat) : slcA t (some (k : Int)) none = t.drop k := by
  by_cases h : k ≤ t.length
  · rw [slc_drop t (by omega) (by omega)]; rfl
  · rw [slc_eq t (some (k : Int)) none (a := t.length) (b := t.length) (by show max 0 (min (if (k : Int) < 0 then (k : Int) + (t.length : Int) else k) (t.length : Int)) = _; rw [if_neg (by omega)]; omega) rfl (by omega)]
    rw [List.drop_of_length_le (by omega), List.drop_of_length_le (by omega)]
    simp
theorem slc_takeN (t : List Nat) {k : Int} (h0 : 0 ≤ k) (h1 : k ≤ t.length) : slcA t none (some k) = t.take k.toNat := by
  rw [slc_eq t none (some k) (a := 0) (b := k.toNat) rfl (by show max 0 (min (if k < 0 then k + (t.length : Int) else k) (t.length : Int)) = _; rw [if_neg (by omega)]; omega) (by omega)]
  simp
theorem slc_neg (t : List Nat) (k : Nat) (hk : 0 < k) : slcA t none (some (-(k : Int))) = t.take (t.length - k) := by
  rw [slc_eq t none (some (-(k : Int))) (a := 0) (b := t.length - k) rfl (by show max 0 (min (if (-(k : Int)) < 0 then -(k : Int) + (t.length : Int) else -(k : Int)) (t.length : Int)) = _; rw [if_pos (by omega)]; omega) (by omega)]
  simp
theorem slc_mid (t : List Nat) {a b : Int} (h0 : 0 ≤ a) (h1 : a ≤ b) (h2 : b ≤ t.length) : slcA t (some a) (some b) = (t.drop a.toNat).take (b.toNat - a.toNat) := by
  rw [slc_eq t (some a) (some b) (a := a.toNat) (b := b.toNat) (by show max 0 (min (if a < 0 then a + (t.length : Int) else a) (t.length : Int)) = _; rw [if_neg (by omega)]; omega) (by show max 0 (min (if b < 0 then b + (t.length : Int) else b) (t.length : Int)) = _; rw [if_neg (by omega)]; omega) (by omega)]

-- the law's answers
abbrev Ans := Bool × List Nat × Int × Int
noncomputable def isV (t : List Nat) (i : Nat) : Bool := match t[i]? with
  | some ch => vowels.contains ch
  | none => false
noncomputable def bestL (text : List Nat) : List (List Nat) → List Nat → List Nat
  | [], best => best
  | f :: r, best => bif decide ((f.length : Int) > (best.length : Int)) then (bif List.isPrefixOf f text then bestL text r f else bestL text r best) else bestL text r best
noncomputable def lawFirst (text : List Nat) (p m : Int) : Ans :=
  let w := bestL text frontsL []
  let rest := text.drop w.length
  let mark : Int := bif List.contains [[107, 101], [112, 101, 110, 103], [112, 101, 110], [112, 101, 109]] w then 3 else 1
  bif w == [] then (false, text, p, m)
  else bif List.contains [[109, 101, 110], [112, 101, 110]] w && (List.isPrefixOf [121] rest && isV rest 1) then (true, [115] ++ rest.drop 1, mark, m - 1)
  else bif List.contains [[109, 101, 109], [112, 101, 109]] w && isV rest 0 then (true, [112] ++ rest, mark, m - 1)
  else (true, rest, mark, m - 1)
noncomputable def lawSecond (text : List Nat) (p m : Int) : Ans :=
  let rest := text.drop 2
  bif List.isPrefixOf [112, 101] text then (bif List.isPrefixOf [108, 97, 106, 97, 114] rest then (true, rest.drop 1, p, m - 1) else bif List.isPrefixOf [114] rest then (true, rest.drop 1, 2, m - 1) else (true, rest, 2, m - 1))
  else bif List.isPrefixOf [98, 101] text then (bif List.isPrefixOf [114] rest || List.isPrefixOf [108, 97, 106, 97, 114] rest then (true, rest.drop 1, 4, m - 1)
    else bif decide ((rest.length : Int) > 2) && (!isV rest 0 && (rest.drop 1).take 2 == [101, 114]) then (true, rest, 4, m - 1) else (false, text, p, m))
  else (false, text, p, m)
noncomputable def lawOff (text : List Nat) (front p m : Int) : List (List Nat) → Ans
  | [] => (false, text, p, m)
  | e :: r => bif List.isSuffixOf e (text.drop front.toNat) then (true, text.take (text.length - e.length), p, m - 1) else lawOff text front p m r
noncomputable def lawSuffix (text : List Nat) (front p m : Int) : Ans :=
  let part := text.drop front.toNat
  bif List.isSuffixOf [97, 110] part then
    (let head := text.take (text.length - 2)
     bif !(List.contains [2, 3] p) && List.isSuffixOf [107] (head.drop front.toNat) then (true, head.take (head.length - 1), p, m - 1)
     else bif p == 1 then (false, text, p, m) else (true, head, p, m - 1))
  else bif List.isSuffixOf [105] part && (decide (p ≤ 2) && !(List.isSuffixOf [115, 105] part)) then (true, text.take (text.length - 1), p, m - 1) else (false, text, p, m)
noncomputable def lawF (step : Int) (text : List Nat) (front p m : Int) : Ans :=
  bif step == 0 then lawFirst text p m else bif step == 1 then lawSecond text p m else bif step == 2 then lawSuffix text front p m else bif step == 3 then lawOff text front p m rowsA else lawOff text front p m rowsB
noncomputable def ret4 (r : Ans) (g : G) (κ : AV → G → Prop) : Prop := retA r.1 r.2.1 r.2.2.1 r.2.2.2 g κ

theorem isA_ok {t : List Nat} {n : Nat} {K : Bool → Prop} (h : K (isV t n)) : isA t (n : Int) K := by
  unfold isA
  unfold isV at h
  by_cases q : n < t.length
  · rw [List.getElem?_eq_getElem q] at h
    rw [show decide ((t.length : Int) > (n : Int)) = true by simpa using q]
    show guardA (0 ≤ (n : Int)) (elimA t[(n : Int).toNat]? fun ch => K (vowels.contains ch))
    rw [Int.toNat_natCast, List.getElem?_eq_getElem q]
    exact guard_iff.mpr ⟨by omega, h⟩
  · rw [List.getElem?_eq_none (by omega)] at h
    rw [show decide ((t.length : Int) > (n : Int)) = false by simpa using q]
    exact h
theorem best_ok (text : List Nat) {K : List Nat → Prop} : ∀ (l : List (List Nat)) (best : List Nat), K (bestL text l best) → bestA text l best K
  | [], best, h => h
  | f :: r, best, h => by
    unfold bestL at h
    unfold bestA
    cases q1 : decide ((f.length : Int) > (best.length : Int)) with
    | true =>
      rw [q1] at h
      cases q2 : List.isPrefixOf f text with
      | true => rw [q2] at h; exact best_ok text r f h
      | false => rw [q2] at h; exact best_ok text r best h
    | false => rw [q1] at h; exact best_ok text r best h
section
variable {text : List Nat} {front p m : Int} {g : G} {κ : AV → G → Prop}
theorem lfirst_ok (ht : text.length ≤ 40) (h : ret4 (lawFirst text p m) g κ) : stepF funD 411 [.str text, .int p, .int m] g κ := by
  have fit : ∀ n : Nat, n ≤ 200 → n ≤ fitN := fun n h => Nat.le_trans h (by decide)
  rw [lfirst_whole]
  refine best_ok text frontsL [] ?_
  unfold lawFirst at h
  generalize bestL text frontsL [] = w at *
  dsimp only at h ⊢
  rw [slc_dropN]
  rw [show (1 : Int) = ((1 : Nat) : Int) from rfl, slc_dropN]
  have hr : (text.drop w.length).length ≤ 40 := by rw [List.length_drop]; omega
  generalize text.drop w.length = rest at *
  cases q0 : (w == []) with
  | true => simp only [q0, cond_true] at h ⊢; exact h
  | false =>
    simp only [q0, cond_false] at h ⊢
    generalize (bif List.contains [[107, 101], [112, 101, 110, 103], [112, 101, 110], [112, 101, 109]] w then (3 : Int) else ((1 : Nat) : Int)) = mark at *
    have Q2 : ret4 (bif List.contains [[109, 101, 109], [112, 101, 109]] w && isV rest 0 then (true, [112] ++ rest, mark, m - 1) else (true, rest, mark, m - 1)) g κ →
        bif List.contains [[109, 101, 109], [112, 101, 109]] w then isA rest 0 fun v => bif v then guardA (1 + rest.length ≤ fitN) (retA true ([112] ++ rest) mark (m - 1) g κ) else retA true rest mark (m - 1) g κ else retA true rest mark (m - 1) g κ := by
      intro h
      cases q1 : List.contains [[109, 101, 109], [112, 101, 109]] w with
      | false => rw [q1] at h; exact h
      | true =>
        rw [q1] at h
        rw [cond_true]
        refine isA_ok (n := 0) ?_
        cases q2 : isV rest 0 with
        | false => rw [q2] at h; exact h
        | true => rw [q2] at h; exact guard_iff.mpr ⟨fit _ (by omega), h⟩
    cases q1 : List.contains [[109, 101, 110], [112, 101, 110]] w with
    | false => simp only [q1, Bool.false_and, cond_false] at h ⊢; exact Q2 h
    | true =>
      simp only [q1, Bool.true_and, cond_true] at h ⊢
      cases q2 : List.isPrefixOf [121] rest with
      | false => simp only [q2, Bool.false_and, cond_false] at h ⊢; exact Q2 h
      | true =>
        simp only [q2, Bool.true_and, cond_true] at h ⊢
        refine isA_ok (n := 1) ?_
        cases q3 : isV rest 1 with
        | false => simp only [q3, cond_false] at h ⊢; exact Q2 h
        | true => simp only [q3, cond_true] at h ⊢; exact guard_iff.mpr ⟨fit _ (by rw [List.length_drop]; omega), h⟩
theorem lsecond_ok (ht : text.length ≤ 40) (h : ret4 (lawSecond text p m) g κ) : stepF funD 418 [.str text, .int p, .int m] g κ := by
  rw [lsecond_whole]
  unfold lawSecond at h
  dsimp only at h ⊢
  rw [show (2 : Int) = ((2 : Nat) : Int) from rfl, show (1 : Int) = ((1 : Nat) : Int) from rfl, slc_dropN, slc_dropN]
  generalize text.drop 2 = rest at *
  cases q1 : List.isPrefixOf [112, 101] text with
  | true =>
    simp only [q1, cond_true] at h ⊢
    cases q2 : List.isPrefixOf [108, 97, 106, 97, 114] rest with
    | true => simp only [q2, cond_true] at h ⊢; exact h
    | false =>
      simp only [q2, cond_false] at h ⊢
      cases q3 : List.isPrefixOf [114] rest with
      | true => simp only [q3, cond_true] at h ⊢; exact h
      | false => simp only [q3, cond_false] at h ⊢; exact h
  | false =>
    simp only [q1, cond_false] at h ⊢
    cases q2 : List.isPrefixOf [98, 101] text with
    | false => simp only [q2, cond_false] at h ⊢; exact h
    | true =>
      simp only [q2, cond_true] at h ⊢
      cases q3 : List.isPrefixOf [114] rest with
      | true => simp only [q3, Bool.true_or, cond_true] at h ⊢; exact h
      | false =>
        simp only [q3, Bool.false_or, cond_false] at h ⊢
        cases q4 : List.isPrefixOf [108, 97, 106, 97, 114] rest with
        | true => simp only [q4, cond_true] at h ⊢; exact h
        | false =>
          simp only [q4, cond_false] at h ⊢
          have e2 : ((2 : Nat) : Int) = 2 := rfl
          cases q5 : decide ((rest.length : Int) > ((2 : Nat) : Int)) with
          | false =>
            have q5' : decide ((rest.length : Int) > 2) = false := q5
            simp only [q5', Bool.false_and, cond_false] at h ⊢
            exact h
          | true =>
            have q5' : decide ((rest.length : Int) > 2) = true := q5
            simp only [q5', Bool.true_and, cond_true] at h ⊢
            refine isA_ok (n := 0) ?_
            have hl : 2 < rest.length := by have := of_decide_eq_true q5; omega
            rw [slc_mid rest (by omega) (by omega) (by omega)]
            show bif !isV rest 0 then (bif (rest.drop 1).take 2 == [101, 114] then _ else _) else _
            cases q6 : isV rest 0 with
            | true => simp only [q6, Bool.not_true, Bool.false_and, cond_false] at h ⊢; exact h
            | false =>
              simp only [q6, Bool.not_false, Bool.true_and, cond_true] at h ⊢
              cases q7 : ((rest.drop 1).take 2 == [101, 114]) with
              | true => rw [q7] at h; exact h
              | false => rw [q7] at h; exact h
theorem loff_ok (ht : text.length ≤ 40) (hf : 0 ≤ front) : ∀ rows, ret4 (lawOff text front p m rows) g κ → offA text (text.drop front.toNat) p m g κ rows
  | [], h => h
  | e :: r, h => by
    unfold lawOff at h
    unfold offA
    cases q : List.isSuffixOf e (text.drop front.toNat) with
    | false => rw [q] at h; exact loff_ok ht hf r h
    | true =>
      rw [q] at h
      have hs : e.length ≤ text.length := by
        have := (List.isSuffixOf_iff_suffix.mp q).length_le
        rw [List.length_drop] at this
        omega
      rw [slc_takeN text (by omega) (by omega), show ((text.length : Int) - (e.length : Int)).toNat = text.length - e.length by omega]
      exact h
theorem lsuffix_ok (ht : text.length ≤ 40) (hf : 0 ≤ front) (h : ret4 (lawSuffix text front p m) g κ) : stepF funD 432 [.str text, .int front, .int p, .int m] g κ := by
  rw [lsuffix_whole]
  unfold lawSuffix at h
  obtain ⟨n, rfl⟩ : ∃ n : Nat, front = (n : Int) := ⟨front.toNat, by omega⟩
  rw [Int.toNat_natCast] at h
  dsimp only at h ⊢
  rw [show (-2 : Int) = -((2 : Nat) : Int) from rfl, slc_neg _ 2 (by decide)]
  have e1 : ∀ t : List Nat, slcA t none (some (-1)) = t.take (t.length - 1) := fun t => slc_neg t 1 (by decide)
  rw [e1, e1, slc_dropN, slc_dropN]
  generalize hq : text.take (text.length - 2) = head at *
  cases q1 : List.isSuffixOf [97, 110] (text.drop n) with
  | true =>
    simp only [q1, cond_true] at h ⊢
    cases q2 : (!(List.contains [2, 3] p)) with
    | false => simp only [q2, Bool.false_and, cond_false] at h ⊢; cases q3 : (p == 1) with
      | true => rw [q3] at h; exact h
      | false => rw [q3] at h; exact h
    | true =>
      simp only [q2, Bool.true_and, cond_true] at h ⊢
      cases q4 : List.isSuffixOf [107] (head.drop n) with
      | true => rw [q4] at h; exact h
      | false => simp only [q4, cond_false] at h ⊢; cases q3 : (p == 1) with
        | true => rw [q3] at h; exact h
        | false => rw [q3] at h; exact h
  | false =>
    simp only [q1, cond_false] at h ⊢
    cases q2 : List.isSuffixOf [105] (text.drop n) with
    | false => simp only [q2, Bool.false_and, cond_false] at h ⊢; exact h
    | true =>
      simp only [q2, Bool.true_and, cond_true] at h ⊢
      cases q3 : decide (p ≤ 2) with
      | false => simp only [q3, Bool.false_and, cond_false] at h ⊢; exact h
      | true =>
        simp only [q3, Bool.true_and, cond_true] at h ⊢
        cases q4 : (!(List.isSuffixOf [115, 105] (text.drop n))) with
        | true => rw [q4] at h; exact h
        | false => rw [q4] at h; exact h
end
end Mine

end

-- EvPO
section
open PySem PySem.W PyProof.Rows PySem.Builtin.Str
set_option Elab.async false
set_option maxRecDepth 100000
set_option maxHeartbeats 0
set_option linter.all false
namespace Mine
theorem isSt_stF (cur : List Nat) (c l lb b k p m : Int) : isSt (stF cur c l lb b k p m) := by
  unfold isSt
  kernel_rfl
theorem getN {α : Type} {L A B : List α} {y : α} {n : Nat} (hL : L = A ++ y :: B) (hn : n = A.length) : L[n]? = some y := by
  subst hL hn
  simp
theorem del_mk {cur A X Z : List Nat} {l lb bra ket p m c : Int} {K : List Nat → Int → Int → Int → Prop} (hc : cur = A ++ (X ++ Z)) (hb : bra = A.length) (hk : ket = A.length + X.length) (hl : ket ≤ l) (h2 : l ≤ (cur.length : Int)) (hf : cur.length ≤ fitN)
    (h : ∀ c' k', K (A ++ Z) c' (l - X.length) k') : delA cur l lb bra ket p m c K := by
  refine ⟨isSt_stF _ _ _ _ _ _ _ _, guard_iff.mpr ⟨⟨by omega, by omega, hl, h2, hf⟩, fun c' k' => ?_⟩⟩
  have e1 : cur.take bra.toNat ++ [] ++ cur.drop ket.toNat = A ++ Z := by
    subst hc hb hk
    rw [Int.toNat_natCast, show ((A.length : Int) + (X.length : Int)).toNat = A.length + X.length by omega, List.take_left, ← List.append_assoc, ← List.length_append, List.drop_left]
    simp
  have e2 : l + (((0 : Nat) : Int) - (ket - bra)) = l - X.length := by omega
  rw [e1, e2]
  exact h c' k'
theorem ins_mk {cur s A X Z : List Nat} {l lb bra ket p m c : Int} {K : List Nat → Int → Int → Int → Prop} (hc : cur = A ++ (X ++ Z)) (hb : bra = A.length) (hk : ket = A.length + X.length) (hl : ket ≤ l) (h2 : l ≤ (cur.length : Int)) (hf : cur.length + s.length ≤ fitN)
    (h : ∀ c' k', K (A ++ (s ++ Z)) c' (l - X.length + s.length) k') : insA s cur l lb bra ket p m c K := by
  refine ⟨isSt_stF _ _ _ _ _ _ _ _, guard_iff.mpr ⟨⟨by omega, by omega, hl, h2, hf⟩, fun c' k' => ?_⟩⟩
  have e1 : cur.take bra.toNat ++ s ++ cur.drop ket.toNat = A ++ (s ++ Z) := by
    subst hc hb hk
    rw [Int.toNat_natCast, show ((A.length : Int) + (X.length : Int)).toNat = A.length + X.length by omega, List.take_left, ← List.append_assoc A X Z, ← List.length_append, List.drop_left]
    simp
  have e2 : l + ((s.length : Int) - (ket - bra)) = l - X.length + s.length := by omega
  rw [e1, e2]
  exact h c' k'
-- what stands ahead
noncomputable def wtab : List (List Nat × Int) := [([], 0), ([100, 105], 1), ([107, 101], 3), ([109, 101], 1), ([109, 101, 109], 5), ([109, 101, 110], 2), ([109, 101, 110, 103], 1), ([112, 101, 109], 6), ([112, 101, 110], 4), ([112, 101, 110, 103], 3), ([116, 101, 114], 1)]
noncomputable def bestB : List (List Nat × Bool) → List Nat → List Nat
  | [], best => best
  | f :: r, best => bif decide ((f.1.length : Int) > (best.length : Int)) then (bif f.2 then bestB r f.1 else bestB r best) else bestB r best
theorem bestB_eq (text : List Nat) : ∀ l best, bestL text l best = bestB (l.map fun f => (f, List.isPrefixOf f text)) best
  | [], best => rfl
  | f :: r, best => by
    unfold bestL
    show _ = bestB ((f, List.isPrefixOf f text) :: (r.map fun f => (f, List.isPrefixOf f text))) best
    unfold bestB
    rw [← bestB_eq text r, ← bestB_eq text r]
noncomputable def fndQ (di ke me mem men meng pem pen peng ter : Bool) : Int × Nat := bif meng then (1, 4) else bif peng then (3, 4) else bif mem then (5, 3) else bif men then (2, 3) else bif pem then (6, 3) else bif pen then (4, 3) else bif ter then (1, 3) else bif di then (1, 2) else bif ke then (3, 2) else bif me then (1, 2) else (0, 0)
noncomputable def zipQ (di ke me mem men meng pem pen peng ter : Bool) : List (List Nat × Bool) := List.zip frontsL [di, ke, me, mem, men, meng, pem, pen, peng, ter]
noncomputable def okQ (di ke me mem men meng pem pen peng ter : Bool) : Bool :=
  wtab.any fun q => bestB (zipQ di ke me mem men meng pem pen peng ter) [] == q.1 && (fndQ di ke me mem men meng pem pen peng ter == (q.2, q.1.length) && (q.1 == [] || (zipQ di ke me mem men meng pem pen peng ter).any fun z => z.1 == q.1 && z.2))
theorem okQ_all : ∀ di ke me mem men meng pem pen peng ter, okQ di ke me mem men meng pem pen peng ter = true := by decide +kernel
theorem fndQ_eq (t : List Nat) : fndF 332 t = fndQ ([100, 105].isPrefixOf t) ([107, 101].isPrefixOf t) ([109, 101].isPrefixOf t) ([109, 101, 109].isPrefixOf t) ([109, 101, 110].isPrefixOf t) ([109, 101, 110, 103].isPrefixOf t) ([112, 101, 109].isPrefixOf t) ([112, 101, 110].isPrefixOf t) ([112, 101, 110, 103].isPrefixOf t) ([116, 101, 114].isPrefixOf t) := by
  unfold fndF
  rw [seek332]
  unfold fndQ
  simp only [Bool.cond_eq_ite, Option.getD_some]
theorem front_cases (t : List Nat) : ∃ q ∈ wtab, bestL t frontsL [] = q.1 ∧ fndF 332 t = (q.2, q.1.length) ∧ ∃ rest, t = q.1 ++ rest := by
  have h := okQ_all ([100, 105].isPrefixOf t) ([107, 101].isPrefixOf t) ([109, 101].isPrefixOf t) ([109, 101, 109].isPrefixOf t) ([109, 101, 110].isPrefixOf t) ([109, 101, 110, 103].isPrefixOf t) ([112, 101, 109].isPrefixOf t) ([112, 101, 110].isPrefixOf t) ([112, 101, 110, 103].isPrefixOf t) ([116, 101, 114].isPrefixOf t)
  unfold okQ at h
  obtain ⟨q, hq, h⟩ := List.any_eq_true.mp h
  simp only [Bool.and_eq_true, Bool.or_eq_true, beq_iff_eq] at h
  obtain ⟨h1, h2, h3⟩ := h
  have e : (frontsL.map fun f => (f, List.isPrefixOf f t)) = zipQ ([100, 105].isPrefixOf t) ([107, 101].isPrefixOf t) ([109, 101].isPrefixOf t) ([109, 101, 109].isPrefixOf t) ([109, 101, 110].isPrefixOf t) ([109, 101, 110, 103].isPrefixOf t) ([112, 101, 109].isPrefixOf t) ([112, 101, 110].isPrefixOf t) ([112, 101, 110, 103].isPrefixOf t) ([116, 101, 114].isPrefixOf t) := rfl
  refine ⟨q, hq, ?_, ?_, ?_⟩
  · rw [bestB_eq, e]; exact h1
  · rw [fndQ_eq]; exact h2
  · rcases h3 with h3 | h3
    · exact ⟨t, by rw [h3]; rfl⟩
    · obtain ⟨z, hz, h4⟩ := List.any_eq_true.mp h3
      simp only [Bool.and_eq_true, beq_iff_eq] at h4
      rw [← e] at hz
      obtain ⟨f, hf, rfl⟩ := List.mem_map.mp hz
      obtain ⟨rest, hr⟩ := List.isPrefixOf_iff_prefix.mp h4.2
      exact ⟨rest, by rw [← h4.1]; exact hr.symm⟩
theorem txF_laid (outside text behind : List Nat) : txF (outside ++ text ++ behind) (outside.length : Int) ((outside ++ text).length : Int) = text := by
  unfold txF
  rw [Int.toNat_natCast, Int.toNat_natCast, List.take_left, List.drop_left]
theorem fnd339 (t : List Nat) : fndF 339 t = if [98, 101].isPrefixOf t then (2, 2) else if [112, 101].isPrefixOf t then (1, 2) else (0, 0) := by
  unfold fndF
  rw [seek339]
  rfl
end Mine

end

-- EvPQ
section
open PySem PySem.W PyProof.Rows PySem.Builtin.Str
set_option Elab.async false
set_option maxRecDepth 100000
set_option maxHeartbeats 0
set_option linter.all false
namespace Mine
theorem fit200 {n : Nat} (h : n ≤ 200) : n ≤ fitN := Nat.le_trans h (by decide)
-- what the def tells where the cursor stood ahead of the text
noncomputable def tellF (b : Bool) (outside behind : List Nat) (lb : Int) (tp : Option (List AV)) (o : Option (List (Str × AV))) (κ : AV → G → Prop) (r : Ans) : Prop :=
  ∀ c' b' k', κ (.bool r.1) (mkG b tp (stF (outside ++ r.2.1 ++ behind) c' ((outside ++ r.2.1).length : Int) lb b' k' r.2.2.1 r.2.2.2) o)
section
variable {b : Bool} {outside behind : List Nat} {lb p m p' m' : Int} {tp : Option (List AV)} {o : Option (List (Str × AV))} {κ : AV → G → Prop} {w rest : List Nat} {mark : Int} {cu : Int}
theorem delF_ok {mm : Int} (hs : (outside ++ (w ++ rest) ++ behind).length ≤ 200) (h : tellF b outside behind lb tp o κ (true, rest, mark, mm)) :
    delA (outside ++ (w ++ rest) ++ behind) ((outside ++ (w ++ rest)).length : Int) lb (outside.length : Int) ((outside.length : Int) + (w.length : Nat)) p' m' cu fun cur' c' l' k' => κ (.bool true) (mkG b tp (stF cur' c' l' lb (outside.length : Int) k' mark mm) o) := by
  refine del_mk (A := outside) (X := w) (Z := rest ++ behind) (by simp) rfl rfl ?_ ?_ (fit200 hs) fun c' k' => ?_
  · simp only [List.length_append]; omega
  · simp only [List.length_append]; omega
  · have := h c' (outside.length : Int) k'
    have e : (((outside ++ (w ++ rest)).length : Int) - w.length) = ((outside ++ rest).length : Int) := by simp only [List.length_append]; omega
    rw [e, ← List.append_assoc]
    exact this
theorem Y_ok (hs : (outside ++ (w ++ rest) ++ behind).length ≤ 199) (h : tellF b outside behind lb tp o κ (bif List.isPrefixOf [121] rest && isV rest 1 then (true, [115] ++ rest.drop 1, mark, m - 1) else (true, rest, mark, m - 1))) :
    let cur := outside ++ (w ++ rest) ++ behind
    let l := ((outside ++ (w ++ rest)).length : Int)
    let c := (outside.length : Int)
    let D := delA cur l lb c (c + (w.length : Nat)) p m (c + (w.length : Nat)) fun cur' c' l' k' => κ (.bool true) (mkG b tp (stF cur' c' l' lb c k' mark (m - 1)) o)
    bif (c + (w.length : Nat)) == l then D else guardA (0 ≤ c + (w.length : Nat)) (elimA cur[(c + (w.length : Nat)).toNat]? fun ch => bif !([ch] == [121]) then D else
          bif decide (c + (w.length : Nat) + 1 ≥ l) then D else guardA (0 ≤ c + (w.length : Nat) + 1) (elimA cur[(c + (w.length : Nat) + 1).toNat]? fun d => bif !(vowels.contains d) then D else
            insA [115] cur l lb c (c + (w.length : Nat) + 1) p m (c + (w.length : Nat) + 1) fun cur' c' l' k' => κ (.bool true) (mkG b tp (stF cur' c' l' lb c k' mark (m - 1)) o))) := by
  dsimp only
  have hs' : (outside ++ (w ++ rest) ++ behind).length ≤ 200 := by omega
  have hD := fun (h : tellF b outside behind lb tp o κ (true, rest, mark, m - 1)) => delF_ok (p' := p) (m' := m) (cu := (outside.length : Int) + (w.length : Nat)) hs' h
  generalize hDD : delA (outside ++ (w ++ rest) ++ behind) ((outside ++ (w ++ rest)).length : Int) lb (outside.length : Int) ((outside.length : Int) + (w.length : Nat)) p m ((outside.length : Int) + (w.length : Nat)) (fun cur' c' l' k' => κ (.bool true) (mkG b tp (stF cur' c' l' lb (outside.length : Int) k' mark (m - 1)) o)) = D at *
  rcases rest with _ | ⟨y, r⟩
  · rw [show (((outside.length : Int) + (w.length : Nat)) == ((outside ++ (w ++ ([] : List Nat))).length : Int)) = true by simp]
    exact hD h
  · rw [show (((outside.length : Int) + (w.length : Nat)) == ((outside ++ (w ++ y :: r)).length : Int)) = false by simp; omega, cond_false]
    refine guard_iff.mpr ⟨by omega, elim_iff.mpr ⟨y, getN (A := outside ++ w) (B := r ++ behind) (by simp) (by simp only [List.length_append]; omega), ?_⟩⟩
    by_cases hy : y = 121
    · subst hy
      show bif decide (_) then D else _
      rcases r with _ | ⟨d, r⟩
      · rw [show decide ((outside.length : Int) + (w.length : Nat) + 1 ≥ ((outside ++ (w ++ ([121] : List Nat))).length : Int)) = true by simp only [List.length_append, List.length_cons, List.length_nil, decide_eq_true_eq]; omega]
        exact hD h
      · rw [show decide ((outside.length : Int) + (w.length : Nat) + 1 ≥ ((outside ++ (w ++ 121 :: d :: r)).length : Int)) = false by simp only [List.length_append, List.length_cons, decide_eq_false_iff_not]; omega, cond_false]
        refine guard_iff.mpr ⟨by omega, elim_iff.mpr ⟨d, getN (A := outside ++ w ++ [121]) (B := r ++ behind) (by simp) (by simp only [List.length_append, List.length_cons, List.length_nil]; omega), ?_⟩⟩
        cases hd : vowels.contains d with
        | false =>
          have e : isV (121 :: d :: r) 1 = false := hd
          rw [e, Bool.and_false] at h
          exact hD h
        | true =>
          have e : isV (121 :: d :: r) 1 = true := hd
          rw [e] at h
          have h : tellF b outside behind lb tp o κ (true, [115] ++ (d :: r), mark, m - 1) := h
          rw [Bool.not_true, cond_false]
          refine ins_mk (A := outside) (X := w ++ [121]) (Z := d :: r ++ behind) (by simp) rfl (by simp only [List.length_append, List.length_cons, List.length_nil]; omega) ?_ ?_ (fit200 (by simp only [List.length_cons, List.length_nil]; omega)) fun c' k' => ?_
          · simp only [List.length_append, List.length_cons]; omega
          · simp only [List.length_append, List.length_cons]; omega
          · have := h c' (outside.length : Int) k'
            have e : (((outside ++ (w ++ 121 :: d :: r)).length : Int) - ((w ++ [121]).length : Nat) + (([115] : List Nat).length : Nat)) = ((outside ++ ([115] ++ (d :: r))).length : Int) := by simp only [List.length_append, List.length_cons, List.length_nil]; omega
            rw [e, show outside ++ ([115] ++ (d :: r ++ behind)) = outside ++ ([115] ++ (d :: r)) ++ behind by simp]
            exact this
    · have e : List.isPrefixOf [121] (y :: r) = false := by simp [List.isPrefixOf]; exact fun e => hy e.symm
      rw [show (!([y] == [121])) = true by simpa using hy]
      rw [e, Bool.false_and] at h
      exact hD h
theorem P_ok (hs : (outside ++ (w ++ rest) ++ behind).length ≤ 199) (h : tellF b outside behind lb tp o κ (bif isV rest 0 then (true, [112] ++ rest, mark, m - 1) else (true, rest, mark, m - 1))) :
    let cur := outside ++ (w ++ rest) ++ behind
    let l := ((outside ++ (w ++ rest)).length : Int)
    let c := (outside.length : Int)
    let D := delA cur l lb c (c + (w.length : Nat)) mark (m - 1) (c + (w.length : Nat)) fun cur' c' l' k' => κ (.bool true) (mkG b tp (stF cur' c' l' lb c k' mark (m - 1)) o)
    bif decide (c + (w.length : Nat) ≥ l) then D else guardA (0 ≤ c + (w.length : Nat)) (elimA cur[(c + (w.length : Nat)).toNat]? fun d => bif !(vowels.contains d) then D else
            insA [112] cur l lb c (c + (w.length : Nat)) mark (m - 1) (c + (w.length : Nat)) fun cur' c' l' k' => κ (.bool true) (mkG b tp (stF cur' c' l' lb c k' mark (m - 1)) o)) := by
  dsimp only
  have hs' : (outside ++ (w ++ rest) ++ behind).length ≤ 200 := by omega
  have hD := fun (h : tellF b outside behind lb tp o κ (true, rest, mark, m - 1)) => delF_ok (p' := mark) (m' := m - 1) (cu := (outside.length : Int) + (w.length : Nat)) hs' h
  generalize hDD : delA (outside ++ (w ++ rest) ++ behind) ((outside ++ (w ++ rest)).length : Int) lb (outside.length : Int) ((outside.length : Int) + (w.length : Nat)) mark (m - 1) ((outside.length : Int) + (w.length : Nat)) (fun cur' c' l' k' => κ (.bool true) (mkG b tp (stF cur' c' l' lb (outside.length : Int) k' mark (m - 1)) o)) = D at *
  rcases rest with _ | ⟨d, r⟩
  · rw [show decide (((outside.length : Int) + (w.length : Nat)) ≥ ((outside ++ (w ++ ([] : List Nat))).length : Int)) = true by simp]
    exact hD h
  · rw [show decide (((outside.length : Int) + (w.length : Nat)) ≥ ((outside ++ (w ++ d :: r)).length : Int)) = false by simp only [List.length_append, List.length_cons, decide_eq_false_iff_not]; omega, cond_false]
    refine guard_iff.mpr ⟨by omega, elim_iff.mpr ⟨d, getN (A := outside ++ w) (B := r ++ behind) (by simp) (by simp only [List.length_append]; omega), ?_⟩⟩
    cases hd : vowels.contains d with
    | false =>
      have e : isV (d :: r) 0 = false := hd
      rw [e] at h
      exact hD h
    | true =>
      have e : isV (d :: r) 0 = true := hd
      rw [e] at h
      have h : tellF b outside behind lb tp o κ (true, [112] ++ (d :: r), mark, m - 1) := h
      rw [Bool.not_true, cond_false]
      refine ins_mk (A := outside) (X := w) (Z := d :: r ++ behind) (by simp) rfl rfl ?_ ?_ (fit200 (by simp only [List.length_cons, List.length_nil]; omega)) fun c' k' => ?_
      · simp only [List.length_append, List.length_cons]; omega
      · simp only [List.length_append, List.length_cons]; omega
      · have := h c' (outside.length : Int) k'
        have e : (((outside ++ (w ++ d :: r)).length : Int) - (w.length : Nat) + (([112] : List Nat).length : Nat)) = ((outside ++ ([112] ++ (d :: r))).length : Int) := by simp only [List.length_append, List.length_cons, List.length_nil]; omega
        rw [e, show outside ++ ([112] ++ (d :: r ++ behind)) = outside ++ ([112] ++ (d :: r)) ++ behind by simp]
        exact this
theorem first_ok {text : List Nat} {b0 k0 : Int} (hs : (outside ++ text ++ behind).length ≤ 199) (h : tellF b outside behind lb tp o κ (lawFirst text p m)) :
    stepF funD 260 [.stem b] (mkG b tp (stF (outside ++ text ++ behind) (outside.length : Int) ((outside ++ text).length : Int) lb b0 k0 p m) o) κ := by
  rw [first_whole]
  refine ⟨isSt_stF _ _ _ _ _ _ _ _, guard_iff.mpr ⟨⟨by omega, by simp only [List.length_append]; omega, by simp only [List.length_append]; omega, fit200 (by omega)⟩, fun res len hres => ?_⟩⟩
  rw [txF_laid] at hres
  obtain ⟨q, hq, h1, h2, rest, rfl⟩ := front_cases text
  rw [h2] at hres
  obtain ⟨rfl, rfl⟩ := Prod.mk.inj hres
  simp only [wtab, List.mem_cons, List.not_mem_nil, or_false] at hq
  have e0 : (0 : Int) == 0 := rfl
  rcases hq with rfl | rfl | rfl | rfl | rfl | rfl | rfl | rfl | rfl | rfl | rfl
  · have e : lawFirst ([] ++ rest) p m = (false, rest, p, m) := by unfold lawFirst; rw [h1]; kernel_rfl
    rw [e] at h
    exact h _ _ _
  · have e : lawFirst ([100, 105] ++ rest) p m = (true, rest, 1, m - 1) := by unfold lawFirst; rw [h1]; kernel_rfl
    rw [e] at h
    exact delF_ok (by omega) h
  · have e : lawFirst ([107, 101] ++ rest) p m = (true, rest, 3, m - 1) := by unfold lawFirst; rw [h1]; kernel_rfl
    rw [e] at h
    exact delF_ok (by omega) h
  · have e : lawFirst ([109, 101] ++ rest) p m = (true, rest, 1, m - 1) := by unfold lawFirst; rw [h1]; kernel_rfl
    rw [e] at h
    exact delF_ok (by omega) h
  · have e : lawFirst ([109, 101, 109] ++ rest) p m = (bif isV rest 0 then (true, [112] ++ rest, 1, m - 1) else (true, rest, 1, m - 1)) := by unfold lawFirst; rw [h1]; kernel_rfl
    rw [e] at h
    exact P_ok hs h
  · have e : lawFirst ([109, 101, 110] ++ rest) p m = (bif List.isPrefixOf [121] rest && isV rest 1 then (true, [115] ++ rest.drop 1, 1, m - 1) else (true, rest, 1, m - 1)) := by unfold lawFirst; rw [h1]; kernel_rfl
    rw [e] at h
    exact Y_ok hs h
  · have e : lawFirst ([109, 101, 110, 103] ++ rest) p m = (true, rest, 1, m - 1) := by unfold lawFirst; rw [h1]; kernel_rfl
    rw [e] at h
    exact delF_ok (by omega) h
  · have e : lawFirst ([112, 101, 109] ++ rest) p m = (bif isV rest 0 then (true, [112] ++ rest, 3, m - 1) else (true, rest, 3, m - 1)) := by unfold lawFirst; rw [h1]; kernel_rfl
    rw [e] at h
    exact P_ok hs h
  · have e : lawFirst ([112, 101, 110] ++ rest) p m = (bif List.isPrefixOf [121] rest && isV rest 1 then (true, [115] ++ rest.drop 1, 3, m - 1) else (true, rest, 3, m - 1)) := by unfold lawFirst; rw [h1]; kernel_rfl
    rw [e] at h
    exact Y_ok hs h
  · have e : lawFirst ([112, 101, 110, 103] ++ rest) p m = (true, rest, 3, m - 1) := by unfold lawFirst; rw [h1]; kernel_rfl
    rw [e] at h
    exact delF_ok (by omega) h
  · have e : lawFirst ([116, 101, 114] ++ rest) p m = (true, rest, 1, m - 1) := by unfold lawFirst; rw [h1]; kernel_rfl
    rw [e] at h
    exact delF_ok (by omega) h
end
end Mine

end

-- EvPR
section
open PySem PySem.W PyProof.Rows PySem.Builtin.Str
set_option Elab.async false
set_option maxRecDepth 100000
set_option maxHeartbeats 0
set_option linter.all false
namespace Mine
theorem slc_text {L A M B : List Nat} {a c : Int} (hL : L = A ++ (M ++ B)) (ha : a = (A.length : Int)) (hc : c = (A.length : Int) + (M.length : Int)) : slcA L (some a) (some c) = M := by
  subst hL ha hc
  rw [slc_mid _ (by omega) (by omega) (by simp only [List.length_append]; omega), Int.toNat_natCast, List.drop_left, show ((A.length : Int) + (M.length : Int)).toNat - A.length = M.length by omega, List.take_left]
section
variable {b : Bool} {outside behind : List Nat} {lb p m p' m' : Int} {tp : Option (List AV)} {o : Option (List (Str × AV))} {κ : AV → G → Prop} {w rest text X Z : List Nat} {mark : Int} {cu : Int}
theorem delG_ok {mm ket : Int} (ht : text = X ++ Z) (hk : ket = (outside.length : Int) + (X.length : Int)) (hs : (outside ++ text ++ behind).length ≤ 200) (h : tellF b outside behind lb tp o κ (true, Z, mark, mm)) :
    delA (outside ++ text ++ behind) ((outside ++ text).length : Int) lb (outside.length : Int) ket p' m' cu fun cur' c' l' k' => κ (.bool true) (mkG b tp (stF cur' c' l' lb (outside.length : Int) k' mark mm) o) := by
  subst ht hk
  exact delF_ok hs h
theorem T1_ok {p1 p2 : Int} {T3 : Prop} {len : Nat} (hlen : len = w.length) (hs : (outside ++ (w ++ rest) ++ behind).length ≤ 199)
    (hr : List.isPrefixOf [114] rest = true → tellF b outside behind lb tp o κ (true, rest.drop 1, p1, m - 1))
    (ha : List.isPrefixOf [114] rest = false → List.isPrefixOf [108, 97, 106, 97, 114] rest = true → tellF b outside behind lb tp o κ (true, rest.drop 1, p2, m - 1))
    (h3 : List.isPrefixOf [114] rest = false → List.isPrefixOf [108, 97, 106, 97, 114] rest = false → T3) :
    let cur := outside ++ (w ++ rest) ++ behind
    let l := ((outside ++ (w ++ rest)).length : Int)
    let c := (outside.length : Int)
    let E := fun (ket p' cu : Int) => delA cur l lb c ket p' (m - 1) cu fun cur' c' l' k' => κ (.bool true) (mkG b tp (stF cur' c' l' lb c k' p' (m - 1)) o)
    let T2 := bif (c + (len : Nat)) == l then T3 else guardA (0 ≤ c + (len : Nat)) (elimA cur[(c + (len : Nat)).toNat]? fun ch => bif !([ch] == [108]) then T3 else
            bif List.isPrefixOf [97, 106, 97, 114] (slcA cur (some (c + (len : Nat) + 1)) (some l)) then E (c + (len : Nat) + 1) p2 (c + (len : Nat) + 1 + 4) else T3)
    bif (c + (len : Nat)) == l then T2 else guardA (0 ≤ c + (len : Nat)) (elimA cur[(c + (len : Nat)).toNat]? fun ch => bif !([ch] == [114]) then T2 else E (c + (len : Nat) + 1) p1 (c + (len : Nat) + 1)) := by
  subst hlen
  dsimp only
  have hs' : (outside ++ (w ++ rest) ++ behind).length ≤ 200 := by omega
  rcases rest with _ | ⟨y, r⟩
  · rw [show (((outside.length : Int) + (w.length : Nat)) == ((outside ++ (w ++ ([] : List Nat))).length : Int)) = true by simp, cond_true, cond_true]
    exact h3 rfl rfl
  · rw [show (((outside.length : Int) + (w.length : Nat)) == ((outside ++ (w ++ y :: r)).length : Int)) = false by simp; omega, cond_false, cond_false]
    have e1 : (outside ++ (w ++ y :: r) ++ behind)[((outside.length : Int) + (w.length : Nat)).toNat]? = some y := getN (A := outside ++ w) (B := r ++ behind) (by simp) (by simp only [List.length_append]; omega)
    rw [e1]
    refine guard_iff.mpr ⟨by omega, elim_iff.mpr ⟨y, rfl, ?_⟩⟩
    by_cases hy : y = 114
    · subst hy
      rw [show (!([114] == [114])) = false from rfl, cond_false]
      exact delG_ok (X := w ++ [114]) (Z := r) (by simp) (by simp only [List.length_append, List.length_cons, List.length_nil]; omega) hs' (hr rfl)
    · rw [show (!([y] == [114])) = true by simpa using hy, cond_true]
      have n1 : List.isPrefixOf [114] (y :: r) = false := by simp [List.isPrefixOf]; exact fun e => hy e.symm
      refine guard_iff.mpr ⟨by omega, elim_iff.mpr ⟨y, rfl, ?_⟩⟩
      by_cases hz : y = 108
      · subst hz
        rw [show (!([108] == [108])) = false from rfl, cond_false, slc_text (A := outside ++ (w ++ [108])) (M := r) (B := behind) (by simp) (by simp only [List.length_append, List.length_cons, List.length_nil]; omega) (by simp only [List.length_append, List.length_cons, List.length_nil]; omega)]
        have e2 : List.isPrefixOf [108, 97, 106, 97, 114] (108 :: r) = List.isPrefixOf [97, 106, 97, 114] r := rfl
        rw [e2] at ha h3
        cases q : List.isPrefixOf [97, 106, 97, 114] r with
        | true => rw [cond_true]; exact delG_ok (X := w ++ [108]) (Z := r) (by simp) (by simp only [List.length_append, List.length_cons, List.length_nil]; omega) hs' (ha n1 q)
        | false => rw [cond_false]; exact h3 n1 q
      · rw [show (!([y] == [108])) = true by simpa using hz, cond_true]
        exact h3 n1 (by simp [List.isPrefixOf]; intro e; exact absurd e.symm hz)
theorem second_ok {b0 k0 : Int} (hs : (outside ++ text ++ behind).length ≤ 199) (h : tellF b outside behind lb tp o κ (lawSecond text p m)) :
    stepF funD 267 [.stem b] (mkG b tp (stF (outside ++ text ++ behind) (outside.length : Int) ((outside ++ text).length : Int) lb b0 k0 p m) o) κ := by
  rw [second_whole]
  refine ⟨isSt_stF _ _ _ _ _ _ _ _, guard_iff.mpr ⟨⟨by omega, by simp only [List.length_append]; omega, by simp only [List.length_append]; omega, fit200 (by omega)⟩, fun res len hres => ?_⟩⟩
  rw [txF_laid, fnd339] at hres
  unfold lawSecond at h
  dsimp only at h
  cases q1 : List.isPrefixOf [98, 101] text with
  | true =>
    rw [q1, if_pos rfl] at hres
    obtain ⟨rfl, rfl⟩ := Prod.mk.inj hres
    obtain ⟨rest, rfl⟩ := List.isPrefixOf_iff_prefix.mp q1
    have q2 : List.isPrefixOf [112, 101] ([98, 101] ++ rest) = false := rfl
    rw [q2, cond_false, q1, cond_true] at h
    have e : ([98, 101] ++ rest).drop 2 = rest := rfl
    rw [e] at h
    refine T1_ok (w := [98, 101]) rfl hs (fun z => ?_) (fun z1 z2 => ?_) (fun z1 z2 => ?_)
    · rw [z, Bool.true_or, cond_true] at h; exact h
    · rw [z2, Bool.or_true, cond_true] at h; exact h
    · rw [z1, z2, Bool.or_false, cond_false] at h
      dsimp only
      rcases rest with _ | ⟨y, r⟩
      · rw [show decide ((outside.length : Int) + ((2 : Nat) : Int) ≥ ((outside ++ (([98, 101] : List Nat) ++ ([] : List Nat))).length : Int)) = true by simp only [List.length_append, List.length_cons, List.length_nil, decide_eq_true_eq]; omega, cond_true]
        exact h _ _ _
      · rw [show decide ((outside.length : Int) + ((2 : Nat) : Int) ≥ ((outside ++ (([98, 101] : List Nat) ++ y :: r)).length : Int)) = false by simp only [List.length_append, List.length_cons, List.length_nil, decide_eq_false_iff_not]; omega, cond_false]
        have e1 : (outside ++ ([98, 101] ++ y :: r) ++ behind)[((outside.length : Int) + ((2 : Nat) : Int)).toNat]? = some y := getN (A := outside ++ [98, 101]) (B := r ++ behind) (by simp) (by simp only [List.length_append, List.length_cons, List.length_nil]; omega)
        refine guard_iff.mpr ⟨by omega, elim_iff.mpr ⟨y, e1, ?_⟩⟩
        have ev : isV (y :: r) 0 = vowels.contains y := rfl
        rw [ev] at h
        cases q3 : vowels.contains y with
        | true =>
          rw [q3] at h
          rw [Bool.not_true, cond_false]
          rw [Bool.not_true, Bool.false_and, Bool.and_false, cond_false] at h
          exact h _ _ _
        | false =>
          rw [q3, Bool.not_false, Bool.true_and] at h
          rw [Bool.not_false, cond_true, slc_text (A := outside ++ ([98, 101] ++ [y])) (M := r) (B := behind) (by simp) (by simp only [List.length_append, List.length_cons, List.length_nil]; omega) (by simp only [List.length_append, List.length_cons, List.length_nil]; omega)]
          have e3 : (decide (((y :: r).length : Int) > 2) && ((y :: r).drop 1).take 2 == [101, 114]) = List.isPrefixOf [101, 114] r := by
            show (decide (((y :: r).length : Int) > 2) && r.take 2 == [101, 114]) = _
            rcases r with _ | ⟨u, _ | ⟨v, r⟩⟩
            · rfl
            · simp [List.isPrefixOf]
            · rw [show decide (((y :: u :: v :: r).length : Int) > 2) = true by simp only [List.length_cons, decide_eq_true_eq]; omega]
              simp only [List.take, List.isPrefixOf, Bool.true_and, Bool.and_true]
              rw [Bool.eq_iff_iff]
              simp only [beq_iff_eq, Bool.and_eq_true, List.cons.injEq, and_true]
              exact ⟨fun h => ⟨h.1.symm, h.2.symm⟩, fun h => ⟨h.1.symm, h.2.symm⟩⟩
          rw [e3] at h
          cases q4 : List.isPrefixOf [101, 114] r with
          | true =>
            rw [q4, cond_true] at h
            rw [cond_true]
            exact delG_ok (X := [98, 101]) (Z := y :: r) rfl rfl (by omega) h
          | false =>
            rw [q4, cond_false] at h
            rw [cond_false]
            exact h _ _ _
  | false =>
    rw [q1, if_neg (by decide)] at hres
    cases q2 : List.isPrefixOf [112, 101] text with
    | false =>
      rw [q2, if_neg (by decide)] at hres
      obtain ⟨rfl, rfl⟩ := Prod.mk.inj hres
      rw [q1, q2, cond_false, cond_false] at h
      exact h _ _ _
    | true =>
      rw [q2, if_pos rfl] at hres
      obtain ⟨rfl, rfl⟩ := Prod.mk.inj hres
      obtain ⟨rest, rfl⟩ := List.isPrefixOf_iff_prefix.mp q2
      rw [q2, cond_true] at h
      have e : ([112, 101] ++ rest).drop 2 = rest := rfl
      rw [e] at h
      refine T1_ok (w := [112, 101]) rfl hs (fun z => ?_) (fun z1 z2 => ?_) (fun z1 z2 => ?_)
      · have nl : List.isPrefixOf [108, 97, 106, 97, 114] rest = false := by
          rcases rest with _ | ⟨y, r⟩
          · rfl
          · have z' : ((114 == y) && List.isPrefixOf [] r) = true := z
            simp only [Bool.and_eq_true, beq_iff_eq] at z'
            rw [← z'.1]
            rfl
        rw [nl, cond_false, z, cond_true] at h; exact h
      · rw [z2, cond_true] at h; exact h
      · rw [z2, z1, cond_false, cond_false] at h
        exact delG_ok (X := [112, 101]) (Z := rest) rfl rfl (by omega) h
end
end Mine

end

-- EvPS
section
open PySem PySem.W PyProof.Rows PySem.Builtin.Str
set_option Elab.async false
set_option maxRecDepth 100000
set_option maxHeartbeats 0
set_option linter.all false
namespace Mine
-- what the def tells where the cursor stood behind the text
noncomputable def tellB (b : Bool) (outside behind : List Nat) (lb : Int) (tp : Option (List AV)) (o : Option (List (Str × AV))) (κ : AV → G → Prop) (r : Ans) : Prop :=
  ∀ c' b' k', κ (.bool r.1) (mkG b tp (stF (outside ++ r.2.1 ++ behind) c' ((outside ++ r.2.1 ++ behind).length : Int) lb b' k' r.2.2.1 r.2.2.2) o)
theorem txB_laid (outside H part behind : List Nat) : txB (outside ++ (H ++ part) ++ behind) ((outside ++ (H ++ part)).length : Int) ((outside.length : Int) + (H.length : Int)) = part.reverse := by
  unfold txB
  rw [Int.toNat_natCast, List.take_left, show ((outside.length : Int) + (H.length : Int)).toNat = (outside ++ H).length by rw [List.length_append]; omega, ← List.append_assoc, List.drop_left]
section
variable {b : Bool} {outside behind : List Nat} {lb p m p' m' : Int} {tp : Option (List AV)} {o : Option (List (Str × AV))} {κ : AV → G → Prop} {text H part : List Nat} {cu b0 k0 : Int}
theorem delB_ok {Y X : List Nat} {bra ket mm mark : Int} (ht : text = Y ++ X) (hb : bra = (outside.length : Int) + (Y.length : Int)) (hk : ket = (outside.length : Int) + (text.length : Int)) (hs : (outside ++ text ++ behind).length ≤ 200) (h : tellB b outside behind lb tp o κ (true, Y, mark, mm)) :
    delA (outside ++ text ++ behind) ((outside ++ text ++ behind).length : Int) lb bra ket p' m' cu fun cur' c' l' k' => κ (.bool true) (mkG b tp (stF cur' c' l' lb bra k' mark mm) o) := by
  subst ht
  refine del_mk (A := outside ++ Y) (X := X) (Z := behind) (by simp) (by rw [List.length_append]; omega) (by simp only [List.length_append] at *; omega) (by simp only [List.length_append] at *; omega) (by omega) (fit200 hs) fun c' k' => ?_
  have := h c' bra k'
  have e : (((outside ++ (Y ++ X) ++ behind).length : Int) - X.length) = ((outside ++ Y ++ behind).length : Int) := by simp only [List.length_append]; omega
  rw [e]
  exact this
theorem back_gen {a : Addr} {law : Ans} (hs : (outside ++ (H ++ part) ++ behind).length ≤ 199) (hlb : lb = (outside.length : Int) + (H.length : Int))
    (hc : (fndB a part.reverse = (0, 0) ∧ law = (false, H ++ part, p, m)) ∨ ∃ e, fndB a part.reverse = (1, e.length) ∧ List.isSuffixOf e part = true ∧ law = (true, (H ++ part).take ((H ++ part).length - e.length), p, m - 1))
    (h : tellB b outside behind lb tp o κ law) :
    let cur := outside ++ (H ++ part) ++ behind
    let c := ((outside ++ (H ++ part)).length : Int)
    let l := ((outside ++ (H ++ part) ++ behind).length : Int)
    seekB a cur c l lb b0 c p m fun res len => bif res == 0 then κ (.bool false) (mkG b tp (stF cur (c - len) l lb b0 c p m) o)
      else delA cur l lb (c - len) c p m (c - len) fun cur' c' l' k' => κ (.bool true) (mkG b tp (stF cur' c' l' lb (c - len) k' p (m - 1)) o) := by
  subst hlb
  dsimp only
  refine ⟨isSt_stF _ _ _ _ _ _ _ _, guard_iff.mpr ⟨⟨by omega, by simp only [List.length_append]; omega, by simp only [List.length_append]; omega, fit200 (by omega)⟩, fun res len hres => ?_⟩⟩
  rw [txB_laid] at hres
  rcases hc with ⟨h1, rfl⟩ | ⟨e, h1, h2, rfl⟩
  · rw [h1] at hres
    obtain ⟨rfl, rfl⟩ := Prod.mk.inj hres
    exact h _ _ _
  · rw [h1] at hres
    obtain ⟨rfl, rfl⟩ := Prod.mk.inj hres
    obtain ⟨Y, rfl⟩ := List.isSuffixOf_iff_suffix.mp h2
    rw [show (H ++ (Y ++ e)).take ((H ++ (Y ++ e)).length - e.length) = H ++ Y by rw [← List.append_assoc, List.length_append (as := H ++ Y), Nat.add_sub_cancel, List.take_left]] at h
    exact delB_ok (Y := H ++ Y) (X := e) (by simp) (by simp only [List.length_append]; omega) (by simp only [List.length_append]; omega) (by omega) h
theorem fnd284 (t : List Nat) : fndB 284 t = if [104, 97, 107].isPrefixOf t then (1, 3) else if [104, 97, 108].isPrefixOf t then (1, 3) else if [110, 117, 112].isPrefixOf t then (1, 3) else (0, 0) := by
  unfold fndB
  rw [seek284]
  rfl
theorem fnd294 (t : List Nat) : fndB 294 t = if [97, 121, 110].isPrefixOf t then (1, 3) else if [117, 107].isPrefixOf t then (1, 2) else if [117, 109].isPrefixOf t then (1, 2) else (0, 0) := by
  unfold fndB
  rw [seek294]
  rfl
theorem fnd301 (t : List Nat) : fndB 301 t = if [110, 97].isPrefixOf t then (1, 2) else if [105].isPrefixOf t then (2, 1) else (0, 0) := by
  unfold fndB
  rw [seek301]
  rfl
theorem off3 {a : Addr} {r1 r2 r3 : List Nat} {front : Int} (hf : front = H.length) (hfnd : fndB a part.reverse = if r1.reverse.isPrefixOf part.reverse then (1, r1.length) else if r2.reverse.isPrefixOf part.reverse then (1, r2.length) else if r3.reverse.isPrefixOf part.reverse then (1, r3.length) else (0, 0)) :
    (fndB a part.reverse = (0, 0) ∧ lawOff (H ++ part) front p m [r1, r2, r3] = (false, H ++ part, p, m)) ∨ ∃ e, fndB a part.reverse = (1, e.length) ∧ List.isSuffixOf e part = true ∧ lawOff (H ++ part) front p m [r1, r2, r3] = (true, (H ++ part).take ((H ++ part).length - e.length), p, m - 1) := by
  rw [hfnd]
  have e : ∀ r : List Nat, r.reverse.isPrefixOf part.reverse = r.isSuffixOf part := fun _ => rfl
  simp only [e, lawOff]
  rw [show (H ++ part).drop front.toNat = part by rw [hf, Int.toNat_natCast, List.drop_left]]
  cases q1 : r1.isSuffixOf part with
  | true => exact .inr ⟨r1, by simp, q1, by simp⟩
  | false =>
    cases q2 : r2.isSuffixOf part with
    | true => exact .inr ⟨r2, by simp, q2, by simp⟩
    | false =>
      cases q3 : r3.isSuffixOf part with
      | true => exact .inr ⟨r3, by simp, q3, by simp⟩
      | false => exact .inl ⟨by simp, by simp⟩
theorem particle_ok {front : Int} (hf : front = H.length) (hs : (outside ++ (H ++ part) ++ behind).length ≤ 199) (hlb : lb = (outside.length : Int) + (H.length : Int)) (h : tellB b outside behind lb tp o κ (lawOff (H ++ part) front p m rowsA)) :
    stepF funD 239 [.stem b] (mkG b tp (stF (outside ++ (H ++ part) ++ behind) ((outside ++ (H ++ part)).length : Int) ((outside ++ (H ++ part) ++ behind).length : Int) lb b0 k0 p m) o) κ := by
  rw [particle_whole]
  exact back_gen hs hlb (off3 (r1 := [107, 97, 104]) (r2 := [108, 97, 104]) (r3 := [112, 117, 110]) hf (fnd284 _)) h
theorem pronoun_ok {front : Int} (hf : front = H.length) (hs : (outside ++ (H ++ part) ++ behind).length ≤ 199) (hlb : lb = (outside.length : Int) + (H.length : Int)) (h : tellB b outside behind lb tp o κ (lawOff (H ++ part) front p m rowsB)) :
    stepF funD 246 [.stem b] (mkG b tp (stF (outside ++ (H ++ part) ++ behind) ((outside ++ (H ++ part)).length : Int) ((outside ++ (H ++ part) ++ behind).length : Int) lb b0 k0 p m) o) κ := by
  rw [pronoun_whole]
  exact back_gen hs hlb (off3 (r1 := [110, 121, 97]) (r2 := [107, 117]) (r3 := [109, 117]) hf (fnd294 _)) h
theorem suf1 (x ch : Nat) (Q : List Nat) : List.isSuffixOf [x] (Q ++ [ch]) = (x == ch) := by
  unfold List.isSuffixOf
  simp [List.isPrefixOf]
theorem suf2 (x y ch d : Nat) (Q : List Nat) : List.isSuffixOf [x, y] (Q ++ [ch] ++ [d]) = (y == d && x == ch) := by
  unfold List.isSuffixOf
  simp [List.isPrefixOf]
theorem take_sub (A B : List Nat) (n : Nat) (h : B.length = n) : (A ++ B).take ((A ++ B).length - n) = A := by
  rw [List.length_append, h, Nat.add_sub_cancel, List.take_left]
theorem take_sub1 (A Q : List Nat) (x : Nat) : (A ++ (Q ++ [x])).take ((A ++ (Q ++ [x])).length - 1) = A ++ Q := by
  rw [← List.append_assoc]
  exact take_sub _ _ 1 rfl
theorem suffix_ok {front : Int} (hf : front = H.length) (hs : (outside ++ (H ++ part) ++ behind).length ≤ 199) (hlb : lb = (outside.length : Int) + (H.length : Int)) (h : tellB b outside behind lb tp o κ (lawSuffix (H ++ part) front p m)) :
    stepF funD 253 [.stem b] (mkG b tp (stF (outside ++ (H ++ part) ++ behind) ((outside ++ (H ++ part)).length : Int) ((outside ++ (H ++ part) ++ behind).length : Int) lb b0 k0 p m) o) κ := by
  subst hlb hf
  rw [suffix_whole]
  refine ⟨isSt_stF _ _ _ _ _ _ _ _, guard_iff.mpr ⟨⟨by omega, by simp only [List.length_append]; omega, by simp only [List.length_append]; omega, fit200 (by omega)⟩, fun res len hres => ?_⟩⟩
  rw [txB_laid, fnd301] at hres
  unfold lawSuffix at h
  rw [Int.toNat_natCast, List.drop_left] at h
  dsimp only at h ⊢
  have ea : List.isPrefixOf [110, 97] part.reverse = List.isSuffixOf [97, 110] part := rfl
  have ei : List.isPrefixOf [105] part.reverse = List.isSuffixOf [105] part := rfl
  rw [ea, ei] at hres
  cases q1 : List.isSuffixOf [97, 110] part with
  | true =>
    rw [q1, if_pos rfl] at hres
    obtain ⟨rfl, rfl⟩ := Prod.mk.inj hres
    rw [q1, cond_true] at h
    obtain ⟨Y, rfl⟩ := List.isSuffixOf_iff_suffix.mp q1
    have e1 : (H ++ (Y ++ [97, 110])).take ((H ++ (Y ++ [97, 110])).length - 2) = H ++ Y := by rw [← List.append_assoc]; exact take_sub _ _ 2 rfl
    rw [e1, List.drop_left] at h
    rw [show ((1 : Int) == 0) = false from rfl, cond_false, show ((1 : Int) == 1) = true from rfl, cond_true]
    have ec : ((outside ++ (H ++ (Y ++ [97, 110]))).length : Int) - ((2 : Nat) : Int) = (outside.length : Int) + ((H ++ Y).length : Int) := by simp only [List.length_append, List.length_cons, List.length_nil]; omega
    rw [ec]
    -- the tail: an alone falls, or all stays where p = 1
    have hT : ∀ cu, tellB b outside behind ((outside.length : Int) + (H.length : Int)) tp o κ (bif p == 1 then (false, H ++ (Y ++ [97, 110]), p, m) else (true, H ++ Y, p, m - 1)) →
        bif p == 1 then κ (.bool false) (mkG b tp (stF (outside ++ (H ++ (Y ++ [97, 110])) ++ behind) cu ((outside ++ (H ++ (Y ++ [97, 110])) ++ behind).length : Int) ((outside.length : Int) + (H.length : Int)) ((outside.length : Int) + ((H ++ Y).length : Int)) ((outside ++ (H ++ (Y ++ [97, 110]))).length : Int) p m) o)
        else delA (outside ++ (H ++ (Y ++ [97, 110])) ++ behind) ((outside ++ (H ++ (Y ++ [97, 110])) ++ behind).length : Int) ((outside.length : Int) + (H.length : Int)) ((outside.length : Int) + ((H ++ Y).length : Int)) ((outside ++ (H ++ (Y ++ [97, 110]))).length : Int) p m cu fun cur' c' l' k' => κ (.bool true) (mkG b tp (stF cur' c' l' ((outside.length : Int) + (H.length : Int)) ((outside.length : Int) + ((H ++ Y).length : Int)) k' p (m - 1)) o) := by
      intro cu h
      cases q : (p == 1) with
      | true => rw [q, cond_true] at h; rw [cond_true]; exact h _ _ _
      | false => rw [q, cond_false] at h; rw [cond_false]; exact delB_ok (Y := H ++ Y) (X := [97, 110]) (by simp) rfl (by simp only [List.length_append]; omega) (by omega) h
    cases q3 : (p == 3) with
    | true =>
      rw [cond_true]
      have p3 : p = 3 := by simpa using q3
      subst p3
      exact hT _ h
    | false =>
      rw [cond_false]
      cases q2 : (p == 2) with
      | true =>
        rw [cond_true]
        have p2 : p = 2 := by simpa using q2
        subst p2
        exact hT _ h
      | false =>
        rw [cond_false]
        have np : (!(List.contains [2, 3] p)) = true := by
          simp only [beq_eq_false_iff_ne, ne_eq] at q2 q3
          simp [q2, q3]
        rw [np, Bool.true_and] at h
        rcases List.eq_nil_or_concat Y with rfl | ⟨Q, ch, rfl⟩
        · rw [show decide ((outside.length : Int) + ((H ++ ([] : List Nat)).length : Int) ≤ (outside.length : Int) + (H.length : Int)) = true by simp, cond_true]
          exact hT _ h
        · rw [List.concat_eq_append] at *
          rw [show decide ((outside.length : Int) + ((H ++ (Q ++ [ch])).length : Int) ≤ (outside.length : Int) + (H.length : Int)) = false by simp only [List.length_append, List.length_cons, List.length_nil, decide_eq_false_iff_not]; omega, cond_false]
          refine guard_iff.mpr ⟨by simp only [List.length_append, List.length_cons, List.length_nil]; omega, elim_iff.mpr ⟨ch, getN (A := outside ++ (H ++ Q)) (B := [97, 110] ++ behind) (by simp) (by simp only [List.length_append, List.length_cons, List.length_nil]; omega), ?_⟩⟩
          rw [suf1] at h
          by_cases hk : ch = 107
          · subst hk
            rw [show (!([107] == [107])) = false from rfl, cond_false]
            rw [show (107 == 107) = true from rfl, cond_true, take_sub1] at h
            exact delB_ok (Y := H ++ Q) (X := [107, 97, 110]) (by simp) (by simp only [List.length_append, List.length_cons, List.length_nil]; omega) (by simp only [List.length_append]; omega) (by omega) h
          · rw [show (!([ch] == [107])) = true by simpa using hk, cond_true]
            rw [show (107 == ch) = false by simpa using fun e => hk e.symm, cond_false] at h
            exact hT _ h
  | false =>
    rw [q1, if_neg (by decide)] at hres
    rw [q1, cond_false] at h
    cases q2 : List.isSuffixOf [105] part with
    | false =>
      rw [q2, if_neg (by decide)] at hres
      obtain ⟨rfl, rfl⟩ := Prod.mk.inj hres
      rw [q2, Bool.false_and, cond_false] at h
      exact h _ _ _
    | true =>
      rw [q2, if_pos rfl] at hres
      obtain ⟨rfl, rfl⟩ := Prod.mk.inj hres
      rw [q2, Bool.true_and] at h
      obtain ⟨Y, rfl⟩ := List.isSuffixOf_iff_suffix.mp q2
      rw [show ((2 : Int) == 0) = false from rfl, cond_false, show ((2 : Int) == 1) = false from rfl, cond_false]
      by_cases hp : p ≤ 2
      · rw [show decide (p > 2) = false by simpa using hp, cond_false]
        rw [show decide (p ≤ 2) = true by simpa using hp, Bool.true_and, take_sub1] at h
        have ec : ((outside ++ (H ++ (Y ++ [105]))).length : Int) - ((1 : Nat) : Int) = (outside.length : Int) + ((H ++ Y).length : Int) := by simp only [List.length_append, List.length_cons, List.length_nil]; omega
        rw [ec]
        rcases List.eq_nil_or_concat Y with rfl | ⟨Q, ch, rfl⟩
        · rw [show decide ((outside.length : Int) + ((H ++ ([] : List Nat)).length : Int) ≤ (outside.length : Int) + (H.length : Int)) = true by simp, cond_true]
          exact delB_ok (Y := H ++ []) (X := [105]) (by simp) rfl (by simp only [List.length_append]; omega) (by omega) h
        · rw [List.concat_eq_append] at *
          rw [show decide ((outside.length : Int) + ((H ++ (Q ++ [ch])).length : Int) ≤ (outside.length : Int) + (H.length : Int)) = false by simp only [List.length_append, List.length_cons, List.length_nil, decide_eq_false_iff_not]; omega, cond_false]
          refine guard_iff.mpr ⟨by simp only [List.length_append, List.length_cons, List.length_nil]; omega, elim_iff.mpr ⟨ch, getN (A := outside ++ (H ++ Q)) (B := [105] ++ behind) (by simp) (by simp only [List.length_append, List.length_cons, List.length_nil]; omega), ?_⟩⟩
          rw [suf2, show (105 == 105) = true from rfl, Bool.true_and] at h
          by_cases hk : ch = 115
          · subst hk
            rw [show (!([115] == [115])) = false from rfl, cond_false]
            exact h _ _ _
          · rw [show (!([ch] == [115])) = true by simpa using hk, cond_true]
            rw [show (115 == ch) = false by simpa using fun e => hk e.symm, Bool.not_false, cond_true] at h
            exact delB_ok (Y := H ++ (Q ++ [ch])) (X := [105]) (by simp) rfl (by simp only [List.length_append]; omega) (by omega) h
      · rw [show decide (p > 2) = true by simpa using hp, cond_true]
        rw [show decide (p ≤ 2) = false by simpa using hp, Bool.false_and, cond_false] at h
        exact h _ _ _
end
end Mine

end

-- EvPT
section
open PySem PySem.W PyProof.Rows PySem.Builtin.Str
set_option Elab.async false
set_option maxRecDepth 100000
set_option maxHeartbeats 0
set_option linter.all false
namespace Mine
noncomputable def addF (a : Addr) (ct : List AV → G → (AV → G → Prop) → Prop) (Γ : Funs) : Funs := fun f vs g κ => bif Nat.beq f a then ct vs g κ else Γ f vs g κ
theorem addF_ok {prog : Program} {w : World} {V : VT} {hb : Heap} {W : Adrs} {p : Program} {loose : List Str} {mg mb : Str → Option Value} {n : Nat} {a : Addr} {ct : List AV → G → (AV → G → Prop) → Prop} {Γ H : Funs}
    (hH : FunsOk prog w V hb W p loose mg mb n H) (hct : ∀ vs g κ, ct vs g κ → H a vs g κ) (hΓ : FunsOk prog w V hb W p loose mg mb n Γ) : FunsOk prog w V hb W p loose mg mb n (addF a ct Γ) := by
  intro f avs g κ h A l f0 name sc L a' cd s m imm vals R C hA hk hF hh hd rel rl kk
  unfold addF at h
  cases q1 : Nat.beq f a with
  | true =>
    rw [q1] at h
    have := Nat.eq_of_beq_eq_true q1
    subst this
    exact hH f avs g κ (hct _ _ _ h) C hA hk hF hh hd rel rl kk
  | false =>
    rw [q1] at h
    exact hΓ f avs g κ h C hA hk hF hh hd rel rl kk
noncomputable def ctFull (vs : List AV) (g : G) (κ : AV → G → Prop) : Prop := match vs with
  | [.list [.int step, .str text, .str behind, .str outside, .int front, .int p, .int m]] => CaseOk step text behind outside front ∧ ret4 (lawF step text front p m) g κ
  | _ => False
theorem ctFull_ok (vs : List AV) (g : G) (κ : AV → G → Prop) (h : ctFull vs g κ) : stepF (stepF funD) 439 vs g κ := by
  unfold ctFull at h
  split at h
  · rename_i step text behind outside front p m
    obtain ⟨C, h⟩ := h
    have ht := C.tx
    rw [full_whole]
    unfold lawF at h
    cases q0 : (step == 0) with
    | true => rw [q0, cond_true] at h; rw [cond_true]; exact lfirst_ok ht h
    | false =>
      rw [q0, cond_false] at h
      rw [cond_false]
      cases q1 : (step == 1) with
      | true => rw [q1, cond_true] at h; rw [cond_true]; exact lsecond_ok ht h
      | false =>
        rw [q1, cond_false] at h
        rw [cond_false]
        cases q2 : (step == 2) with
        | true => rw [q2, cond_true] at h; rw [cond_true]; exact lsuffix_ok ht C.f0 h
        | false =>
          rw [q2, cond_false] at h
          rw [cond_false]
          have ef : slcA text (some front) none = text.drop front.toNat := by
            have := slc_dropN text front.toNat
            rw [Int.toNat_of_nonneg C.f0] at this
            exact this
          cases q3 : (step == 3) with
          | true => rw [q3, cond_true] at h; rw [cond_true, loffA_whole, ef]; exact loff_ok ht C.f0 _ h
          | false => rw [q3, cond_false] at h; rw [cond_false, loffB_whole, ef]; exact loff_ok ht C.f0 _ h
  · exact h.elim
noncomputable def limL (step : Int) (outside plain behind : List Nat) : Int := bif decide (step < 2) then ((outside ++ plain).length : Int) else ((outside ++ plain ++ behind).length : Int)
noncomputable def toldX (b : Bool) (step : Int) (g : G) (K : Bool → List Nat → Int → Int → Int → Int → Int → Int → Int → Prop) : Prop :=
  ∃ (text behind outside : List Nat) (front p m : Int), CaseOk step text behind outside front ∧ g.st b = some (laid step text behind outside front p m) ∧ ∀ c' b' k',
    K (lawF step text front p m).1 (outside ++ (lawF step text front p m).2.1 ++ behind) c' (limL step outside (lawF step text front p m).2.1 behind) ((outside.length : Int) + front) b' k' (lawF step text front p m).2.2.1 (lawF step text front p m).2.2.2
noncomputable def ctTold (vs : List AV) (g : G) (κ : AV → G → Prop) : Prop := match vs with
  | [.stem b, .int step] => toldX b step g fun ans cur c l lb b0 k0 p m => κ (.bool ans) (g.setSt b (stF cur c l lb b0 k0 p m))
  | _ => False
theorem ctTold_ok (vs : List AV) (g : G) (κ : AV → G → Prop) (h : ctTold vs g κ) : stepF (stepF funD) 446 vs g κ := by
  unfold ctTold at h
  split at h
  · rename_i b step
    obtain ⟨text, behind, outside, front, p, m, C, hf, h⟩ := h
    obtain ⟨o, hg, hs⟩ := st_mk hf
    simp only [hs] at h
    have hlen : (outside ++ text ++ behind).length ≤ 199 := by
      have := C.tx
      have := C.bh
      have := C.os
      simp only [List.length_append]
      omega
    rw [hg]
    unfold laid
    unfold limL at h
    cases q : decide (step < 2) with
    | true =>
      rw [cond_true, told_whole]
      have hF : tellF b outside behind ((outside.length : Int) + front) g.tape o κ (lawF step text front p m) := fun c' b' k' => by
        have := h c' b' k'
        rw [q, cond_true] at this
        exact this
      have h0 := C.st
      have h2 := of_decide_eq_true q
      unfold lawF at hF
      cases q0 : (step == 0) with
      | true => rw [q0, cond_true] at hF; rw [cond_true]; exact first_ok hlen hF
      | false =>
        have q1 : (step == 1) = true := by simp only [beq_eq_false_iff_ne, ne_eq, beq_iff_eq] at *; omega
        rw [q0, cond_false, q1, cond_true] at hF
        rw [cond_false, q1, cond_true]
        exact second_ok hlen hF
    | false =>
      rw [cond_false, told_whole]
      have hB : tellB b outside behind ((outside.length : Int) + front) g.tape o κ (lawF step text front p m) := fun c' b' k' => by
        have := h c' b' k'
        rw [q, cond_false] at this
        exact this
      have h2 := of_decide_eq_false q
      unfold lawF at hB
      have q0 : (step == 0) = false := by simp only [beq_eq_false_iff_ne, ne_eq]; omega
      have q1 : (step == 1) = false := by simp only [beq_eq_false_iff_ne, ne_eq]; omega
      rw [q0, cond_false, q1, cond_false] at hB
      rw [q0, cond_false, q1, cond_false]
      obtain ⟨n, rfl⟩ : ∃ n : Nat, front = (n : Int) := ⟨front.toNat, by have := C.f0; omega⟩
      have hn : n ≤ text.length := by have := C.fl; omega
      have et : text = text.take n ++ text.drop n := (List.take_append_drop n text).symm
      have el : ((n : Int)) = (((text.take n).length : Nat) : Int) := by rw [List.length_take]; omega
      rw [et] at hlen hB ⊢
      have elb : (outside.length : Int) + (n : Int) = (outside.length : Int) + ((text.take n).length : Int) := by rw [← el]
      cases q2 : (step == 2) with
      | true => rw [q2, cond_true] at hB; rw [cond_true]; exact suffix_ok el hlen elb hB
      | false =>
        rw [q2, cond_false] at hB
        rw [cond_false]
        cases q3 : (step == 3) with
        | true => rw [q3, cond_true] at hB; rw [cond_true]; exact particle_ok el hlen elb hB
        | false => rw [q3, cond_false] at hB; rw [cond_false]; exact pronoun_ok el hlen elb hB
  · exact h.elim
noncomputable def funE : Funs := addF 439 ctFull (addF 446 ctTold funD)
theorem funE_ok {prog : Program} {w : World} {V : VT} {hb : Heap} {W : Adrs} {p : Program} {loose : List Str} {mg mb : Str → Option Value} : FunsOk prog w V hb W p loose mg mb 6 funE :=
  addF_ok (step_ok (step_ok funD_ok)) ctFull_ok (addF_ok (step_ok (step_ok funD_ok)) ctTold_ok (FunsOk.mono funD_ok (by omega) fun _ _ _ _ h => h))
section
variable (b : Bool) (step : Int) (text behind outside : List Nat) (front p m : Int) (tp : Option (List AV)) (o : Option (List (Str × AV))) (κ : AV → G → Prop)
theorem wrong_whole (cur : List Nat) (c l lb b0 k0 p0 m0 : Int) : stepF funE 460 [.stem b, .list (caseL step text behind outside front p m)] (mkG b tp (stF cur c l lb b0 k0 p0 m0) o) κ =
    (CaseOk step text behind outside front ∧
      toldX b step (mkG b tp (stF cur c l lb b0 k0 p0 m0) o) fun told cur c l lb b0 k0 p1 m1 =>
        guardA (outside.length + (lawF step text front p m).2.1.length ≤ fitN) (guardA ((outside ++ (lawF step text front p m).2.1).length + behind.length ≤ fitN) (
          let due := outside ++ (lawF step text front p m).2.1 ++ behind
          let ONE := κ (.int 1) (mkG b tp (stF cur c l lb b0 k0 p1 m1) o)
          let ZERO := κ (.int 0) (mkG b tp (stF cur c l lb b0 k0 p1 m1) o)
          let SND := bif decide (step > 1) then (bif !(l == (due.length : Int)) then ONE else ZERO) else ZERO
          bif !(told == (lawF step text front p m).1) then ONE else bif !(cur == due) then ONE else bif !(p1 == (lawF step text front p m).2.2.1) then ONE else bif !(m1 == (lawF step text front p m).2.2.2) then ONE else
          bif !(lb == (outside.length : Int) + front) then ONE else
          bif decide (step < 2) then guardA (outside.length + (lawF step text front p m).2.1.length ≤ fitN) (bif !(l == ((outside ++ (lawF step text front p m).2.1).length : Int)) then ONE else SND) else SND))) := by
  cases b <;> kernel_rfl
end
end Mine

end

-- EvPU
section
open PySem PySem.W PyProof.Rows PySem.Builtin.Str
set_option Elab.async false
set_option maxRecDepth 100000
set_option maxHeartbeats 0
set_option linter.all false
namespace Mine
theorem cond_len {c : Bool} {x y : Ans} {n : Nat} (hx : x.2.1.length ≤ n) (hy : y.2.1.length ≤ n) : (bif c then x else y).2.1.length ≤ n := by
  cases c
  · exact hy
  · exact hx
theorem lawOff_len (text : List Nat) (front p m : Int) : ∀ rows, (lawOff text front p m rows).2.1.length ≤ text.length + 1
  | [] => Nat.le_succ _
  | e :: r => by
    unfold lawOff
    refine cond_len ?_ (lawOff_len text front p m r)
    show (text.take _).length ≤ _
    rw [List.length_take]
    omega
theorem lawFirst_len (text : List Nat) (p m : Int) : (lawFirst text p m).2.1.length ≤ text.length + 1 := by
  unfold lawFirst
  dsimp only
  refine cond_len (Nat.le_succ _) (cond_len ?_ (cond_len ?_ ?_))
  · show ([115] ++ (text.drop _).drop 1).length ≤ _
    simp only [List.length_append, List.length_drop, List.length_cons, List.length_nil]
    omega
  · show ([112] ++ (text.drop _)).length ≤ _
    simp only [List.length_append, List.length_drop, List.length_cons, List.length_nil]
    omega
  · show (text.drop _).length ≤ _
    rw [List.length_drop]
    omega
theorem lawSecond_len (text : List Nat) (p m : Int) : (lawSecond text p m).2.1.length ≤ text.length + 1 := by
  unfold lawSecond
  dsimp only
  have h1 : (text.drop 2).length ≤ text.length + 1 := by rw [List.length_drop]; omega
  have h2 : ((text.drop 2).drop 1).length ≤ text.length + 1 := by rw [List.length_drop]; omega
  exact cond_len (cond_len h2 (cond_len h2 h1)) (cond_len (cond_len h2 (cond_len h1 (Nat.le_succ _))) (Nat.le_succ _))
theorem lawSuffix_len (text : List Nat) (front p m : Int) : (lawSuffix text front p m).2.1.length ≤ text.length + 1 := by
  unfold lawSuffix
  dsimp only
  have h1 : ∀ n, (text.take n).length ≤ text.length + 1 := fun n => by rw [List.length_take]; omega
  refine cond_len (cond_len ?_ (cond_len (Nat.le_succ _) (h1 _))) (cond_len (h1 _) (Nat.le_succ _))
  show ((text.take _).take _).length ≤ _
  rw [List.length_take, List.length_take]
  omega
theorem lawF_len (step : Int) (text : List Nat) (front p m : Int) : (lawF step text front p m).2.1.length ≤ text.length + 1 := by
  unfold lawF
  exact cond_len (lawFirst_len ..) (cond_len (lawSecond_len ..) (cond_len (lawSuffix_len ..) (cond_len (lawOff_len ..) (lawOff_len ..))))
noncomputable def ctWrong (vs : List AV) (g : G) (κ : AV → G → Prop) : Prop := match vs with
  | [.stem b, .list [.int step, .str text, .str behind, .str outside, .int front, .int p, .int m]] => elimA (g.st b) fun f => CaseOk step text behind outside front ∧ f = laid step text behind outside front p m ∧ ∀ cur c l lb b0 k0 p m, κ (.int 0) (g.setSt b (stF cur c l lb b0 k0 p m))
  | _ => False
theorem laid_stF (step : Int) (text behind outside : List Nat) (front p m : Int) : ∃ cur c l lb b0 k0, laid step text behind outside front p m = stF cur c l lb b0 k0 p m := by
  unfold laid
  cases decide (step < 2)
  · exact ⟨_, _, _, _, _, _, rfl⟩
  · exact ⟨_, _, _, _, _, _, rfl⟩
theorem mk_st (b : Bool) (tp : Option (List AV)) (F : List (Str × AV)) (o : Option (List (Str × AV))) : (mkG b tp F o).st b = some F := by cases b <;> rfl
theorem ctWrong_ok (vs : List AV) (g : G) (κ : AV → G → Prop) (h : ctWrong vs g κ) : stepF funE 460 vs g κ := by
  unfold ctWrong at h
  split at h
  · rename_i b step text behind outside front p m
    obtain ⟨f, hf, C, hfl, h⟩ := elim_iff.mp h
    subst hfl
    obtain ⟨o, hg, hs⟩ := st_mk hf
    simp only [hs] at h
    obtain ⟨cur, c, l, lb, b0, k0, e⟩ := laid_stF step text behind outside front p m
    rw [hg, e, wrong_whole]
    refine ⟨C, text, behind, outside, front, p, m, C, by rw [mk_st, e], fun c' b' k' => ?_⟩
    have l0 := lawF_len step text front p m
    generalize hr : lawF step text front p m = r at *
    obtain ⟨ans, plain, mark, left⟩ := r
    dsimp only at *
    have := C.tx
    have := C.bh
    have := C.os
    have g1 : outside.length + plain.length ≤ fitN := fit200 (by omega)
    refine guard_iff.mpr ⟨g1, guard_iff.mpr ⟨fit200 (by rw [List.length_append]; omega), ?_⟩⟩
    have hz := h (outside ++ plain ++ behind) c' (limL step outside plain behind) ((outside.length : Int) + front) b' k' mark left
    rw [beq_self_eq_true, beq_self_eq_true, beq_self_eq_true, beq_self_eq_true, beq_self_eq_true]
    simp only [Bool.not_true, cond_false]
    have e2 : decide (step > 1) = !decide (step < 2) := by
      by_cases z : step < 2
      · rw [decide_eq_true z, decide_eq_false (by omega)]; rfl
      · rw [decide_eq_false z, decide_eq_true (by omega)]; rfl
    rw [e2]
    unfold limL at *
    cases q : decide (step < 2) with
    | true =>
      rw [q] at hz
      simp only [cond_true, Bool.not_true, cond_false] at *
      refine guard_iff.mpr ⟨g1, ?_⟩
      rw [beq_self_eq_true, Bool.not_true, cond_false]
      exact hz
    | false =>
      rw [q] at hz
      simp only [cond_true, Bool.not_false, cond_false] at *
      rw [beq_self_eq_true, Bool.not_true, cond_false]
      exact hz
  · exact h.elim
noncomputable def funF : Funs := addF 460 ctWrong (addF 453 ctSet (addF 397 ctC funE))
theorem funF_ok {prog : Program} {w : World} {V : VT} {hb : Heap} {W : Adrs} {p : Program} {loose : List Str} {mg mb : Str → Option Value} : FunsOk prog w V hb W p loose mg mb 10 funF :=
  have hD : FunsOk prog w V hb W p loose mg mb 10 (stepF funD) := FunsOk.mono (step_ok funD_ok) (by omega) fun _ _ _ _ h => h
  have hE : FunsOk prog w V hb W p loose mg mb 10 funE := FunsOk.mono funE_ok (by omega) fun _ _ _ _ h => h
  have hS : FunsOk prog w V hb W p loose mg mb 10 (stepF funE) := FunsOk.mono (step_ok funE_ok) (by omega) fun _ _ _ _ h => h
  addF_ok hS ctWrong_ok (addF_ok hD (fun _ _ _ h => ctSet_ok h) (addF_ok hD (fun _ _ _ h => ctC_ok h) hE))
end Mine

end

-- EvPV
section
open PySem PySem.W PyProof.Rows PySem.Builtin.Str
set_option Elab.async false
set_option maxRecDepth 100000
set_option maxHeartbeats 0
set_option linter.all false
namespace Mine
noncomputable def F0 : List (Str × AV) := f6 [] 0 0 0 0 0
noncomputable def numsOf (ns : List Int) : List Int := (ns.take 40).map fun n => Int.fmod n 1000003
noncomputable def seedOf (ns : List Int) : Int := Int.fmod ((numsOf ns).sum * 7 + ((numsOf ns).length : Int)) 1000003 + 1
theorem law_h0 (ns : List Int) (κ : AV → G → Prop) : (sems funF lawSc 24).e (aVal (lawS 0)) [(s138, .hlist ns)] ⟨none, none, none⟩ κ = κ (.list (tapeL 0 (numsOf ns) (seedOf ns))) ⟨none, none, none⟩ := by kernel_rfl
theorem law_h1 (T : List AV) (κ : AV → G → Prop) : funF 35 [.stem false] ⟨some T, some [], none⟩ κ = κ .none ⟨some T, some F0, none⟩ := by kernel_rfl
theorem law_h2 (T : List AV) (f1 : List (Str × AV)) (κ : AV → G → Prop) : funF 35 [.stem true] ⟨some T, some f1, some []⟩ κ = κ .none ⟨some T, some f1, some F0⟩ := by kernel_rfl
noncomputable def caseQ (i : Int) (K : Int → List Nat → List Nat → List Nat → Int → Int → Int → Int → Int → Prop) : Prop :=
  0 ≤ i ∧ ∀ (step : Int) (text behind outside : List Nat) (front p m i' seed' : Int), CaseOk step text behind outside front → 0 ≤ i' → K step text behind outside front p m i' seed'
noncomputable def roundQ (i : Int) (f1 f2 : List (Str × AV)) (K : Int → Int → List (Str × AV) → List (Str × AV) → Prop) : Prop :=
  caseQ i fun st1 tx1 bh1 os1 fr1 p1 m1 i _ => caseQ i fun st2 tx2 bh2 os2 fr2 p2 m2 i seed =>
    any8 f1 ∧ CaseOk st1 tx1 bh1 os1 fr1 ∧ any8 f2 ∧ CaseOk st2 tx2 bh2 os2 fr2 ∧
    CaseOk st2 tx2 bh2 os2 fr2 ∧ laid st2 tx2 bh2 os2 fr2 p2 m2 = laid st2 tx2 bh2 os2 fr2 p2 m2 ∧ ∀ cur c l lb b0 k0 p m,
    CaseOk st1 tx1 bh1 os1 fr1 ∧ laid st1 tx1 bh1 os1 fr1 p1 m1 = laid st1 tx1 bh1 os1 fr1 p1 m1 ∧ ∀ cur' c' l' lb' b0' k0' p' m',
    K i seed (stF cur' c' l' lb' b0' k0' p' m') (stF cur c l lb b0 k0 p m)
theorem law_h3 (ns nums : List Int) (seed : Int) (κ : AFlow → LEnv → G → Prop) : (sems funF lawSc 24).s lawR [(s138, .hlist ns), (s145, .tape), (s186, .stem false), (s187, .stem true)] ⟨some (tapeL 0 nums seed), some F0, some F0⟩ (fun fl _ _ => fl = .ret (.bool true)) =
    roundQ 0 F0 F0 fun i seed f1 f2 => roundQ i f1 f2 fun i seed f1 f2 => roundQ i f1 f2 fun i seed f1 f2 => roundQ i f1 f2 fun i seed f1 f2 => AFlow.ret (.bool true) = AFlow.ret (.bool true) := by kernel_rfl
theorem round_mk {i : Int} {f1 f2 : List (Str × AV)} {K : Int → Int → List (Str × AV) → List (Str × AV) → Prop} (hi : 0 ≤ i) (h1 : any8 f1) (h2 : any8 f2) (h : ∀ i seed f1 f2, 0 ≤ i → any8 f1 → any8 f2 → K i seed f1 f2) : roundQ i f1 f2 K :=
  ⟨hi, fun _ _ _ _ _ _ _ i' _ C1 hi' => ⟨hi', fun _ _ _ _ _ _ _ i'' _ C2 hi'' => ⟨h1, C1, h2, C2, C2, rfl, fun cur c l lb b0 k0 p m => ⟨C1, rfl, fun cur' c' l' lb' b0' k0' p' m' =>
    h _ _ _ _ hi'' (.inl ⟨_, _, _, _, _, _, _, _, rfl⟩) (.inl ⟨_, _, _, _, _, _, _, _, rfl⟩)⟩⟩⟩⟩
theorem law_abs (ns : List Int) : LawAbs funF ns (numsOf ns) (seedOf ns) F0 := by
  refine ⟨?_, ?_, ?_, ?_, by kernel_rfl⟩
  · rw [law_h0]; exact ⟨rfl, rfl⟩
  · rw [law_h1]; exact ⟨rfl, rfl⟩
  · rw [law_h2]; exact ⟨rfl, rfl⟩
  · rw [law_h3 ns (numsOf ns) (seedOf ns) (fun _ _ _ => True)]
    have a0 : any8 F0 := .inr ⟨_, _, _, _, _, _, rfl⟩
    exact round_mk (Int.le_refl 0) a0 a0 fun _ _ _ _ hi h1 h2 => round_mk hi h1 h2 fun _ _ _ _ hi h1 h2 => round_mk hi h1 h2 fun _ _ _ _ hi h1 h2 => round_mk hi h1 h2 fun _ _ _ _ _ _ _ => rfl
theorem law_tells {prog : Program} {w : World} {V : VT} {p : Program} {loose : List Str} {mg mb : Str → Option Value} {s : Shared} (C : Ctx w V s.heap p loose mg mb) {a : Addr} {vs : List Value} {ns : List Int}
    (hl : s.heap.IsList a vs.toArray) (hI : IntsAre vs ns) (hns1000 : ns.length ≤ 1000) {E : Value → Shared → Prop} :
    wpAny (model prog w) callerA (call (.ref 467) [.ref a]) (fun v s' => v = .bool true ∧ (∀ b o, s.heap.get? b = some o → s'.heap.get? b = some o) ∧ s'.gens = s.gens ∧ s'.os = s.os) E s :=
  law_walk C hl hI (fun _ => funF_ok) hns1000 (law_abs ns)
end Mine

end

-- EvJ1
section
open PySem PySem.W PyProof.Rows PySem.Calls PySem.Spec
set_option Elab.async false
set_option maxRecDepth 100000
set_option maxHeartbeats 0
set_option linter.all false
namespace Mine
theorem kf_keys (P P' : Params) (V V' : VT) : (KF P' V').map (·.1) = (KF P V).map (·.1) := by kernel_rfl
theorem kf_objs (P : Params) (es : Array (Int × Value)) (n : Nat) (t : SetTable) : ((KF P ⟨es, n, t⟩).map (·.1)).map (HF P es n t).get? = (KF P ⟨es, n, t⟩).map (fun p => some p.2) := by kernel_rfl
theorem kf_in (P : Params) (es : Array (Int × Value)) (n : Nat) (t : SetTable) : (KF P ⟨es, n, t⟩).In (HF P es n t) := Frag.in_of rfl (kf_objs P es n t)
theorem law_at (P : Params) (V : VT) : nsIn (KF P V) mainGlobals "law" = some (some (.ref 467)) := by kernel_rfl
theorem ints_items {R : WRecords} : ∀ {xs : List WData}, WShape.hasItems R xs .int = true → ∃ ns : List Int, xs = ns.map WData.int
  | [], _ => ⟨[], rfl⟩
  | x :: xs, h => by
    unfold WShape.hasItems at h
    obtain ⟨h1, h2⟩ := Bool.and_eq_true_iff.mp h
    obtain ⟨i, rfl⟩ := hasW_int h1
    obtain ⟨ns, rfl⟩ := ints_items h2
    exact ⟨i :: ns, rfl⟩
theorem ints_read {R : WRecords} {cl : Str → Option Addr} {h : Heap} : ∀ {ns : List Int} {vs : List Value} {as : List Addr}, ReadsAllW R cl h vs (ns.map WData.int) as → IntsAre vs ns
  | [], _, _, .nil => .nil
  | n :: ns, _, _, .cons r1 r2 => by
    cases r1
    exact .cons _ _ (ints_read r2)
theorem pre_len {n : Nat} {xs : List WData} (h : (WTm.and (.not (.lt (.lit (.int 63)) (.len (.arg 0)))) (.lit (.bool true))).holds [] { args := [.list xs] } = true) : xs.length ≤ 63 := by
  have e : (WTm.and (.not (.lt (.lit (.int 63)) (.len (.arg 0)))) (.lit (.bool true))).value [] { args := [.list xs] } = some (.bool (!decide ((63 : Int) < (xs.length : Int)))) := by
    cases q : decide ((63 : Int) < (xs.length : Int)) <;> simp [WTm.value, PySem.W.less?, Num.less?, q]
  unfold WTm.holds at h
  rw [e] at h
  by_cases q : (63 : Int) < (xs.length : Int)
  · rw [decide_eq_true q] at h
    simp at h
  · omega
end Mine
namespace Mine
open PySem.Challenge in
theorem walk_is {d : DefRec} {kwd : List (Str × Expr)} (hd : d.name = "law") : WalkX qV looseN (fun _ _ => True) YFh YAh (rw_bv6019_01.row).toRowW d kwd (fun f vs => PySem.call f vs) := by
  intro w s₀ s₁ mg mb G hY a o pm cd doc dV kV ha hdat hcode hdf hma hgens args vals as L hpre hlay hreads hwell hns
  obtain ⟨es, n, t, V, hheap⟩ := heap_is hY
  have K₀ : (KF w.params ⟨es, n, t⟩).In s₀.heap := by rw [hheap]; exact kf_in w.params es n t
  have K₁ : (KF w.params ⟨es, n, t⟩).In s₁.heap := K₀.keeps L.keeps
  have C : Ctx w ⟨es, n, t⟩ s₁.heap qV (looseW qV looseN) mg mb := ⟨K₁, topRead_of G.T, V⟩
  have ea : a = 467 := by
    have := mg_of K₁ G.T.g (law_at w.params ⟨es, n, t⟩)
    rw [hd] at hma
    rw [hma] at this
    exact (Value.ref.inj (Option.some.inj this))
  subst ea
  obtain ⟨hsh, hp⟩ := pre_splitW hpre
  obtain ⟨x, r, rfl, h1, h2⟩ := hasAllW_cons (e := .list .int) (es := []) hsh
  have h3 := hasAllW_nil h2
  subst h3
  obtain ⟨xs, rfl, h4⟩ := hasW_list h1
  obtain ⟨ns, rfl⟩ := ints_items h4
  have hlen : (ns.map WData.int).length ≤ 63 := pre_len (n := 0) hp
  rw [List.length_map] at hlen
  have rd : ∃ b vs, vals = [.ref b] ∧ s₁.heap.IsList b vs.toArray ∧ IntsAre vs ns := by
    cases hreads with
    | cons r1 r2 =>
      cases r2
      cases r1 with
      | list g1 g2 g3 g4 => exact ⟨_, _, rfl, ⟨_, g1, g2, _, by rw [Array.toArray_toList]; exact g3⟩, ints_read g4⟩
  obtain ⟨b, vs, rfl, hl, hI⟩ := rd
  refine wpAny_mono (law_tells C hl hI (by omega) (E := fun _ _ => False)) (fun v s' h => ?_) (fun e s' h => h.elim)
  obtain ⟨rfl, hk, hg, ho⟩ := h
  refine ⟨.inl ⟨.bool true, .bool true, [], rfl, fun _ => rfl, .bool _, by kernel_rfl, fun _ => ⟨List.nodup_nil, fun _ h => by cases h⟩⟩, .of_keep hk, ho, .of_eq (hg.trans hgens)⟩
end Mine

end

-- EvJ2
section
open PySem PySem.W PyProof.Rows Mine
set_option Elab.async false
set_option maxRecDepth 100000 in
set_option maxHeartbeats 0 in
theorem PySem.Challenge.cw_bv6019_01_holds : PySem.Challenge.rw_bv6019_01.Holds := by
  w_on
  o_law
  refine holds_openX (q := qV) (loose := looseN) (Xt := fun _ => true) (XP := fun _ _ => True) (Yf := YFh) (Ya := YAh) (N := 20000) left_is (fun _ _ => trivial) (fun _ _ _ h _ => h) (by rfl) (by rfl) (by rfl) (fun s _ => recFacts_nil rfl) (by rfl) (by assumption) (by decide +kernel) ⟨rfl,rfl,rfl,rfl,rfl,by decide +kernel⟩ ?hw ?hc
  case hw => w_witness2
  case hc => exact walk_is rfl

end
