import PyProof.Rows.All
import Wide.All
import OpenK.AllK
import Wide.FinOn
import Lean
import PySem.Challenge.RW_kt0042_01
set_option Elab.async false
set_option linter.unusedVariables false
set_option linter.unusedSimpArgs false
set_option maxRecDepth 100000
set_option genSizeOf false
set_option maxHeartbeats 8000000
section
open PySem PySem.W PySem.W.X PyProof.Rows
namespace Mine
noncomputable abbrev pT : Program := PySem.Challenge.rw_kt0042_01.prog
noncomputable def stAt (i : Nat) : Stmt := pT.main.body.getD i (.Pass default)
noncomputable def inAt (i k : Nat) : Stmt := match stAt i with
  | .ClassDef _ _ _ b .. => b.getD k (.Pass default)
  | s => s
noncomputable def defAt (s : Stmt) : Arguments × List Stmt × Scope := match s with
  | .FunctionDef _ a b _ _ _ c .. => (a, b, c)
  | _ => default
noncomputable abbrev qn0 : Str:=⟨⟨[nat_lit 107]⟩⟩
noncomputable abbrev qn1 : Str:=⟨⟨[nat_lit 120]⟩⟩
noncomputable abbrev qn2 : Str:=⟨⟨[nat_lit 119,nat_lit 104,nat_lit 97,nat_lit 116]⟩⟩
noncomputable abbrev qn3 : Str:=⟨⟨[nat_lit 107,nat_lit 105,nat_lit 110,nat_lit 100]⟩⟩
noncomputable abbrev qn15 : Str:=⟨⟨[nat_lit 95,nat_lit 95,nat_lit 110,nat_lit 97,nat_lit 109,nat_lit 101,nat_lit 95,nat_lit 95]⟩⟩
noncomputable abbrev qn16 : Str:=⟨⟨[nat_lit 95,nat_lit 119,nat_lit 97,nat_lit 108,nat_lit 108]⟩⟩
noncomputable abbrev qn17 : Str:=⟨⟨[nat_lit 99,nat_lit 108,nat_lit 115]⟩⟩
noncomputable abbrev qn18 : Str:=⟨⟨[nat_lit 115,nat_lit 117,nat_lit 98,nat_lit 99,nat_lit 108,nat_lit 97,nat_lit 115,nat_lit 115]⟩⟩
noncomputable abbrev qn19 : Str:=⟨⟨[nat_lit 105,nat_lit 110,nat_lit 115,nat_lit 116,nat_lit 97,nat_lit 110,nat_lit 99,nat_lit 101]⟩⟩
noncomputable abbrev qn20 : Str:=⟨⟨[nat_lit 67]⟩⟩
noncomputable abbrev qn26 : Str:=⟨⟨[nat_lit 95,nat_lit 65,nat_lit 66,nat_lit 67,nat_lit 76,nat_lit 105,nat_lit 107,nat_lit 101]⟩⟩
noncomputable abbrev qn27 : Str:=⟨⟨[nat_lit 65,nat_lit 66,nat_lit 67,nat_lit 77,nat_lit 101,nat_lit 116,nat_lit 97]⟩⟩
noncomputable abbrev qn28 : Str:=⟨⟨[nat_lit 112,nat_lit 97,nat_lit 116,nat_lit 104]⟩⟩
noncomputable abbrev qn31 : Str:=⟨⟨[nat_lit 95,nat_lit 97,nat_lit 98,nat_lit 99,nat_lit 95,nat_lit 112,nat_lit 108,nat_lit 97,nat_lit 105,nat_lit 110,nat_lit 95,nat_lit 109,nat_lit 101,nat_lit 116,nat_lit 97]⟩⟩
noncomputable abbrev qn32 : Str:=⟨⟨[nat_lit 104,nat_lit 111,nat_lit 111,nat_lit 107]⟩⟩
noncomputable abbrev qn36 : Str:=⟨⟨[nat_lit 95,nat_lit 112,nat_lit 108,nat_lit 97,nat_lit 105,nat_lit 110,nat_lit 95,nat_lit 110,nat_lit 97,nat_lit 109,nat_lit 101]⟩⟩
noncomputable abbrev qn38 : Str:=⟨⟨[nat_lit 103,nat_lit 105,nat_lit 118,nat_lit 101,nat_lit 110]⟩⟩
noncomputable abbrev qn45 : Str:=⟨⟨[nat_lit 110,nat_lit 97,nat_lit 109,nat_lit 101]⟩⟩
noncomputable abbrev qn46 : Str:=⟨⟨[nat_lit 116]⟩⟩
noncomputable abbrev qn49 : Str:=⟨⟨[nat_lit 95,nat_lit 107,nat_lit 105,nat_lit 110,nat_lit 100]⟩⟩
noncomputable abbrev qn50 : Str:=⟨⟨[nat_lit 112]⟩⟩
noncomputable abbrev qn51 : Str:=⟨⟨[nat_lit 95,nat_lit 102,nat_lit 115,nat_lit 112,nat_lit 97,nat_lit 116,nat_lit 104]⟩⟩
noncomputable abbrev qn52 : Str:=⟨⟨[nat_lit 115,nat_lit 112,nat_lit 108,nat_lit 105,nat_lit 116,nat_lit 101,nat_lit 120,nat_lit 116]⟩⟩
noncomputable abbrev qn53 : Str:=⟨⟨[nat_lit 115,nat_lit 101,nat_lit 112]⟩⟩
noncomputable abbrev qn54 : Str:=⟨⟨[nat_lit 47]⟩⟩
noncomputable abbrev qn55 : Str:=⟨⟨[nat_lit 101,nat_lit 120,nat_lit 116,nat_lit 115,nat_lit 101,nat_lit 112]⟩⟩
noncomputable abbrev qn57 : Str:=⟨⟨[nat_lit 115,nat_lit 101,nat_lit 112,nat_lit 73,nat_lit 110,nat_lit 100,nat_lit 101,nat_lit 120]⟩⟩
noncomputable abbrev qn59 : Str:=⟨⟨[nat_lit 100,nat_lit 111,nat_lit 116,nat_lit 73,nat_lit 110,nat_lit 100,nat_lit 101,nat_lit 120]⟩⟩
noncomputable abbrev qn60 : Str:=⟨⟨[nat_lit 102,nat_lit 105,nat_lit 108,nat_lit 101,nat_lit 110,nat_lit 97,nat_lit 109,nat_lit 101,nat_lit 73,nat_lit 110,nat_lit 100,nat_lit 101,nat_lit 120]⟩⟩
noncomputable abbrev qn61 : Str:=⟨⟨[nat_lit 99,nat_lit 110,nat_lit 97,nat_lit 109,nat_lit 101]⟩⟩
noncomputable abbrev qn62 : Str:=⟨⟨[nat_lit 97,nat_lit 114,nat_lit 103,nat_lit 110,nat_lit 97,nat_lit 109,nat_lit 101]⟩⟩
noncomputable abbrev qn63 : Str:=⟨⟨[nat_lit 97,nat_lit 114,nat_lit 103,nat_lit 115]⟩⟩
noncomputable abbrev qn64 : Str:=⟨⟨[nat_lit 107,nat_lit 119,nat_lit 97,nat_lit 114,nat_lit 103,nat_lit 115]⟩⟩
noncomputable abbrev qn66 : Str:=⟨⟨[nat_lit 115]⟩⟩
noncomputable abbrev qn67 : Str:=⟨⟨[nat_lit 101,nat_lit 109,nat_lit 112,nat_lit 116,nat_lit 121]⟩⟩
noncomputable abbrev qn68 : Str:=⟨⟨[nat_lit 95,nat_lit 115,nat_lit 104,nat_lit 101,nat_lit 108,nat_lit 102,nat_lit 95,nat_lit 102,nat_lit 114,nat_lit 101,nat_lit 115,nat_lit 104]⟩⟩
noncomputable abbrev qn69 : Str:=⟨⟨[nat_lit 98,nat_lit 97,nat_lit 115,nat_lit 101,nat_lit 110,nat_lit 97,nat_lit 109,nat_lit 101]⟩⟩
noncomputable abbrev qn70 : Str:=⟨⟨[nat_lit 105]⟩⟩
noncomputable abbrev qn71 : Str:=⟨⟨[nat_lit 100,nat_lit 111,nat_lit 116]⟩⟩
noncomputable abbrev qn72 : Str:=⟨⟨[nat_lit 100,nat_lit 111,nat_lit 116,nat_lit 100,nat_lit 111,nat_lit 116]⟩⟩
noncomputable abbrev qn74 : Str:=⟨⟨[nat_lit 95]⟩⟩
noncomputable abbrev qn75 : Str:=⟨⟨[nat_lit 105,nat_lit 110,nat_lit 105,nat_lit 116,nat_lit 105,nat_lit 97,nat_lit 108,nat_lit 95,nat_lit 115,nat_lit 108,nat_lit 97,nat_lit 115,nat_lit 104,nat_lit 101,nat_lit 115]⟩⟩
noncomputable abbrev qn76 : Str:=⟨⟨[nat_lit 95,nat_lit 115,nat_lit 112,nat_lit 108,nat_lit 105,nat_lit 116,nat_lit 114,nat_lit 111,nat_lit 111,nat_lit 116]⟩⟩
noncomputable abbrev qn77 : Str:=⟨⟨[nat_lit 99,nat_lit 111,nat_lit 109,nat_lit 112,nat_lit 115]⟩⟩
noncomputable abbrev qn79 : Str:=⟨⟨[nat_lit 110,nat_lit 101,nat_lit 119,nat_lit 95,nat_lit 99,nat_lit 111,nat_lit 109,nat_lit 112,nat_lit 115]⟩⟩
noncomputable abbrev qn80 : Str:=⟨⟨[nat_lit 99,nat_lit 111,nat_lit 109,nat_lit 112]⟩⟩
noncomputable abbrev qn83 : Str:=⟨⟨[nat_lit 106,nat_lit 111,nat_lit 105,nat_lit 110]⟩⟩
noncomputable abbrev qn84 : Str:=⟨⟨[nat_lit 95,nat_lit 110,nat_lit 111,nat_lit 114,nat_lit 109,nat_lit 112,nat_lit 97,nat_lit 116,nat_lit 104]⟩⟩
noncomputable abbrev qn85 : Str:=⟨⟨[nat_lit 95,nat_lit 99,nat_lit 95,nat_lit 112,nat_lit 97,nat_lit 116,nat_lit 104]⟩⟩
noncomputable abbrev qn86 : Str:=⟨⟨[nat_lit 110,nat_lit 111,nat_lit 114,nat_lit 109,nat_lit 112,nat_lit 97,nat_lit 116,nat_lit 104]⟩⟩
noncomputable abbrev qn88 : Str:=⟨⟨[nat_lit 115,nat_lit 101,nat_lit 108,nat_lit 102]⟩⟩
noncomputable abbrev qn91 : Str:=⟨⟨[nat_lit 95,nat_lit 109,nat_lit 111,nat_lit 100,nat_lit 115]⟩⟩
noncomputable abbrev qn92 : Str:=⟨⟨[nat_lit 95,nat_lit 100,nat_lit 105,nat_lit 114,nat_lit 115]⟩⟩
noncomputable abbrev qn93 : Str:=⟨⟨[nat_lit 100]⟩⟩
noncomputable abbrev qn95 : Str:=⟨⟨[nat_lit 95,nat_lit 105,nat_lit 103,nat_lit 110,nat_lit 111,nat_lit 114,nat_lit 101]⟩⟩
noncomputable abbrev qn98 : Str:=⟨⟨[nat_lit 102,nat_lit 105,nat_lit 108,nat_lit 101,nat_lit 110,nat_lit 97,nat_lit 109,nat_lit 101]⟩⟩
noncomputable abbrev qn99 : Str:=⟨⟨[nat_lit 109,nat_lit 111,nat_lit 100,nat_lit 117,nat_lit 108,nat_lit 101,nat_lit 110,nat_lit 97,nat_lit 109,nat_lit 101]⟩⟩
noncomputable abbrev qn100 : Str:=⟨⟨[nat_lit 109,nat_lit 111,nat_lit 100]⟩⟩
noncomputable abbrev qn102 : Str:=⟨⟨[nat_lit 98,nat_lit 97,nat_lit 115,nat_lit 101]⟩⟩
noncomputable abbrev qn103 : Str:=⟨⟨[nat_lit 101,nat_lit 120,nat_lit 116]⟩⟩
noncomputable abbrev qn104 : Str:=⟨⟨[nat_lit 109,nat_lit 121,nat_lit 99,nat_lit 109,nat_lit 112]⟩⟩
noncomputable abbrev qn105 : Str:=⟨⟨[nat_lit 75]⟩⟩
noncomputable abbrev qn107 : Str:=⟨⟨[nat_lit 95,nat_lit 95,nat_lit 109,nat_lit 111,nat_lit 100,nat_lit 117,nat_lit 108,nat_lit 101,nat_lit 95,nat_lit 95]⟩⟩
noncomputable abbrev qn108 : Str:=⟨⟨[nat_lit 99,nat_lit 112,nat_lit 121,nat_lit 51,nat_lit 49,nat_lit 51,nat_lit 46,nat_lit 102,nat_lit 117,nat_lit 110,nat_lit 99,nat_lit 116,nat_lit 111,nat_lit 111,nat_lit 108,nat_lit 115]⟩⟩
noncomputable abbrev qn111 : Str:=⟨⟨[nat_lit 95,nat_lit 95,nat_lit 105,nat_lit 110,nat_lit 105,nat_lit 116,nat_lit 95,nat_lit 95]⟩⟩
noncomputable abbrev qn113 : Str:=⟨⟨[nat_lit 111,nat_lit 116,nat_lit 104,nat_lit 101,nat_lit 114]⟩⟩
noncomputable abbrev qn119 : Str:=⟨⟨[nat_lit 102,nat_lit 117,nat_lit 110,nat_lit 99,nat_lit 116,nat_lit 105,nat_lit 111,nat_lit 110]⟩⟩
noncomputable abbrev qn120 : Str:=⟨⟨[nat_lit 115,nat_lit 101,nat_lit 113,nat_lit 117,nat_lit 101,nat_lit 110,nat_lit 99,nat_lit 101]⟩⟩
noncomputable abbrev qn121 : Str:=⟨⟨[nat_lit 105,nat_lit 110,nat_lit 105,nat_lit 116,nat_lit 105,nat_lit 97,nat_lit 108]⟩⟩
noncomputable abbrev qn122 : Str:=⟨⟨[nat_lit 95,nat_lit 105,nat_lit 110,nat_lit 105,nat_lit 116,nat_lit 105,nat_lit 97,nat_lit 108,nat_lit 95,nat_lit 109,nat_lit 105,nat_lit 115,nat_lit 115,nat_lit 105,nat_lit 110,nat_lit 103]⟩⟩
noncomputable abbrev qn123 : Str:=⟨⟨[nat_lit 105,nat_lit 116]⟩⟩
noncomputable abbrev qn125 : Str:=⟨⟨[nat_lit 118,nat_lit 97,nat_lit 108,nat_lit 117,nat_lit 101]⟩⟩
noncomputable abbrev qn129 : Str:=⟨⟨[nat_lit 101,nat_lit 108,nat_lit 101,nat_lit 109,nat_lit 101,nat_lit 110,nat_lit 116]⟩⟩
noncomputable abbrev qn130 : Str:=⟨⟨[nat_lit 102,nat_lit 117,nat_lit 110,nat_lit 99,nat_lit 110,nat_lit 97,nat_lit 109,nat_lit 101]⟩⟩
noncomputable abbrev qn131 : Str:=⟨⟨[nat_lit 104,nat_lit 97,nat_lit 115,nat_lit 115,nat_lit 116,nat_lit 114]⟩⟩
noncomputable abbrev qn132 : Str:=⟨⟨[nat_lit 104,nat_lit 97,nat_lit 115,nat_lit 98,nat_lit 121,nat_lit 116,nat_lit 101,nat_lit 115]⟩⟩
noncomputable abbrev qn136 : Str:=⟨⟨[nat_lit 97]⟩⟩
noncomputable abbrev qn137 : Str:=⟨⟨[nat_lit 102,nat_lit 115,nat_lit 112,nat_lit 97,nat_lit 116,nat_lit 104]⟩⟩
noncomputable abbrev qn138 : Str:=⟨⟨[nat_lit 95,nat_lit 103,nat_lit 101,nat_lit 116,nat_lit 95,nat_lit 115,nat_lit 101,nat_lit 112]⟩⟩
noncomputable abbrev qn139 : Str:=⟨⟨[nat_lit 98]⟩⟩
noncomputable abbrev qn143 : Str:=⟨⟨[nat_lit 95,nat_lit 99,nat_lit 104,nat_lit 101,nat_lit 99,nat_lit 107,nat_lit 95,nat_lit 97,nat_lit 114,nat_lit 103,nat_lit 95,nat_lit 116,nat_lit 121,nat_lit 112,nat_lit 101,nat_lit 115]⟩⟩
noncomputable abbrev qn144 : Str:=⟨⟨[nat_lit 104,nat_lit 101,nat_lit 97,nat_lit 100]⟩⟩
noncomputable abbrev qn146 : Str:=⟨⟨[nat_lit 111,nat_lit 110,nat_lit 101]⟩⟩
noncomputable abbrev qn151 : Str:=⟨⟨[nat_lit 114,nat_lit 111,nat_lit 119]⟩⟩
noncomputable abbrev qn152 : Str:=⟨⟨[nat_lit 100,nat_lit 105,nat_lit 114,nat_lit 110,nat_lit 97,nat_lit 109,nat_lit 101]⟩⟩
noncomputable abbrev qn158 : Str:=⟨⟨[nat_lit 99,nat_lit 104,nat_lit 111,nat_lit 115,nat_lit 101,nat_lit 110]⟩⟩
noncomputable abbrev qn159 : Str:=⟨⟨[nat_lit 97,nat_lit 98,nat_lit 111,nat_lit 118,nat_lit 101]⟩⟩
noncomputable abbrev qn184 : Str:=⟨⟨[nat_lit 95,nat_lit 73,nat_lit 103,nat_lit 110,nat_lit 111,nat_lit 114,nat_lit 101]⟩⟩
noncomputable abbrev qn187 : Str:=⟨⟨[nat_lit 110,nat_lit 97,nat_lit 109,nat_lit 101,nat_lit 115]⟩⟩
noncomputable abbrev qn188 : Str:=⟨⟨[nat_lit 95,nat_lit 109,nat_lit 111,nat_lit 100,nat_lit 110,nat_lit 97,nat_lit 109,nat_lit 101]⟩⟩
noncomputable abbrev qn191 : Str:=⟨⟨[nat_lit 114,nat_lit 101,nat_lit 100,nat_lit 117,nat_lit 99,nat_lit 101]⟩⟩
noncomputable abbrev qn192 : Str:=⟨⟨[nat_lit 95,nat_lit 108,nat_lit 97,nat_lit 119,nat_lit 95,nat_lit 103,nat_lit 97,nat_lit 116,nat_lit 104,nat_lit 101,nat_lit 114]⟩⟩
noncomputable abbrev qn195 : Str:=⟨⟨[nat_lit 99,nat_lit 109,nat_lit 112,nat_lit 95,nat_lit 116,nat_lit 111,nat_lit 95,nat_lit 107,nat_lit 101,nat_lit 121]⟩⟩
noncomputable abbrev qn196 : Str:=⟨⟨[nat_lit 95,nat_lit 108,nat_lit 97,nat_lit 119,nat_lit 95,nat_lit 100,nat_lit 101,nat_lit 101,nat_lit 112,nat_lit 101,nat_lit 114]⟩⟩
noncomputable abbrev qn198 : Str:=⟨⟨[nat_lit 95,nat_lit 108,nat_lit 97,nat_lit 119,nat_lit 95,nat_lit 102,nat_lit 101,nat_lit 119,nat_lit 101,nat_lit 115,nat_lit 116]⟩⟩
noncomputable abbrev qn199 : Str:=⟨⟨[nat_lit 95,nat_lit 108,nat_lit 97,nat_lit 119,nat_lit 95,nat_lit 100,nat_lit 111,nat_lit 119,nat_lit 110]⟩⟩
noncomputable abbrev qn200 : Str:=⟨⟨[nat_lit 111,nat_lit 115]⟩⟩
noncomputable abbrev qn201 : Str:=⟨⟨[nat_lit 97,nat_lit 98,nat_lit 99]⟩⟩
noncomputable abbrev qn202 : Str:=⟨⟨[nat_lit 114,nat_lit 101,nat_lit 103,nat_lit 105,nat_lit 115,nat_lit 116,nat_lit 101,nat_lit 114]⟩⟩
noncomputable abbrev qn203 : Str:=⟨⟨[nat_lit 99,nat_lit 111,nat_lit 108,nat_lit 108,nat_lit 101,nat_lit 99,nat_lit 116,nat_lit 105,nat_lit 111,nat_lit 110,nat_lit 115,nat_lit 46,nat_lit 97,nat_lit 98,nat_lit 99]⟩⟩
noncomputable abbrev qn204 : Str:=⟨⟨[nat_lit 95,nat_lit 95,nat_lit 105,nat_lit 110,nat_lit 115,nat_lit 116,nat_lit 97,nat_lit 110,nat_lit 99,nat_lit 101,nat_lit 99,nat_lit 104,nat_lit 101,nat_lit 99,nat_lit 107,nat_lit 95,nat_lit 95]⟩⟩
noncomputable abbrev qn205 : Str:=⟨⟨[nat_lit 95,nat_lit 95,nat_lit 115,nat_lit 117,nat_lit 98,nat_lit 99,nat_lit 108,nat_lit 97,nat_lit 115,nat_lit 115,nat_lit 99,nat_lit 104,nat_lit 101,nat_lit 99,nat_lit 107,nat_lit 95,nat_lit 95]⟩⟩
noncomputable abbrev qn206 : Str:=⟨⟨[nat_lit 111,nat_lit 115,nat_lit 46,nat_lit 112,nat_lit 97,nat_lit 116,nat_lit 104]⟩⟩
noncomputable abbrev qn207 : Str:=⟨⟨[nat_lit 99,nat_lit 112,nat_lit 121,nat_lit 51,nat_lit 49,nat_lit 51,nat_lit 46,nat_lit 116,nat_lit 114,nat_lit 97,nat_lit 99,nat_lit 101]⟩⟩
noncomputable abbrev qn208 : Str:=⟨⟨[nat_lit 99,nat_lit 112,nat_lit 121,nat_lit 51,nat_lit 49,nat_lit 51,nat_lit 46,nat_lit 103,nat_lit 101,nat_lit 110,nat_lit 101,nat_lit 114,nat_lit 105,nat_lit 99,nat_lit 112,nat_lit 97,nat_lit 116,nat_lit 104]⟩⟩
noncomputable abbrev qn209 : Str:=⟨⟨[nat_lit 99,nat_lit 112,nat_lit 121,nat_lit 51,nat_lit 49,nat_lit 51,nat_lit 46,nat_lit 112,nat_lit 111,nat_lit 115,nat_lit 105,nat_lit 120,nat_lit 112,nat_lit 97,nat_lit 116,nat_lit 104]⟩⟩
noncomputable abbrev qn210 : Str:=⟨⟨[nat_lit 108,nat_lit 97,nat_lit 119,nat_lit 95,nat_lit 107,nat_lit 116,nat_lit 48,nat_lit 48,nat_lit 52,nat_lit 50,nat_lit 95,nat_lit 48,nat_lit 49]⟩⟩
noncomputable abbrev qn211 : Str:=⟨⟨[nat_lit 108,nat_lit 97,nat_lit 119]⟩⟩
noncomputable abbrev qn212 : Str:=⟨⟨[nat_lit 95,nat_lit 95,nat_lit 100,nat_lit 111,nat_lit 99,nat_lit 95,nat_lit 95]⟩⟩
noncomputable abbrev qn213 : Str:=⟨⟨[nat_lit 95,nat_lit 95,nat_lit 112,nat_lit 97,nat_lit 99,nat_lit 107,nat_lit 97,nat_lit 103,nat_lit 101,nat_lit 95,nat_lit 95]⟩⟩
noncomputable abbrev qn214 : Str:=⟨⟨[nat_lit 95,nat_lit 95,nat_lit 108,nat_lit 111,nat_lit 97,nat_lit 100,nat_lit 101,nat_lit 114,nat_lit 95,nat_lit 95]⟩⟩
noncomputable abbrev qn215 : Str:=⟨⟨[nat_lit 95,nat_lit 95,nat_lit 115,nat_lit 112,nat_lit 101,nat_lit 99,nat_lit 95,nat_lit 95]⟩⟩
noncomputable abbrev qn216 : Str:=⟨⟨[nat_lit 95,nat_lit 95,nat_lit 97,nat_lit 110,nat_lit 110,nat_lit 111,nat_lit 116,nat_lit 97,nat_lit 116,nat_lit 105,nat_lit 111,nat_lit 110,nat_lit 115,nat_lit 95,nat_lit 95]⟩⟩
noncomputable abbrev qn217 : Str:=⟨⟨[nat_lit 95,nat_lit 95,nat_lit 98,nat_lit 117,nat_lit 105,nat_lit 108,nat_lit 116,nat_lit 105,nat_lit 110,nat_lit 115,nat_lit 95,nat_lit 95]⟩⟩
noncomputable abbrev qn218 : Str:=⟨⟨[nat_lit 95,nat_lit 95,nat_lit 102,nat_lit 105,nat_lit 108,nat_lit 101,nat_lit 95,nat_lit 95]⟩⟩
noncomputable abbrev qn219 : Str:=⟨⟨[nat_lit 47,nat_lit 99,nat_lit 108,nat_lit 97,nat_lit 105,nat_lit 109,nat_lit 47,nat_lit 99,nat_lit 117,nat_lit 116,nat_lit 46,nat_lit 112,nat_lit 121]⟩⟩
noncomputable abbrev qn220 : Str:=⟨⟨[nat_lit 95,nat_lit 95,nat_lit 99,nat_lit 97,nat_lit 99,nat_lit 104,nat_lit 101,nat_lit 100,nat_lit 95,nat_lit 95]⟩⟩
noncomputable abbrev qn221 : Str:=⟨⟨[nat_lit 95,nat_lit 95,nat_lit 113,nat_lit 117,nat_lit 97,nat_lit 108,nat_lit 110,nat_lit 97,nat_lit 109,nat_lit 101,nat_lit 95,nat_lit 95]⟩⟩
noncomputable abbrev qn222 : Str:=⟨⟨[nat_lit 95,nat_lit 95,nat_lit 102,nat_lit 105,nat_lit 114,nat_lit 115,nat_lit 116,nat_lit 108,nat_lit 105,nat_lit 110,nat_lit 101,nat_lit 110,nat_lit 111,nat_lit 95,nat_lit 95]⟩⟩
noncomputable abbrev qn223 : Str:=⟨⟨[nat_lit 95,nat_lit 95,nat_lit 115,nat_lit 116,nat_lit 97,nat_lit 116,nat_lit 105,nat_lit 99,nat_lit 95,nat_lit 97,nat_lit 116,nat_lit 116,nat_lit 114,nat_lit 105,nat_lit 98,nat_lit 117,nat_lit 116,nat_lit 101,nat_lit 115,nat_lit 95,nat_lit 95]⟩⟩
noncomputable abbrev qn224 : Str:=⟨⟨[nat_lit 95,nat_lit 73,nat_lit 103,nat_lit 110,nat_lit 111,nat_lit 114,nat_lit 101,nat_lit 46,nat_lit 110,nat_lit 97,nat_lit 109,nat_lit 101,nat_lit 115]⟩⟩
noncomputable abbrev qn225 : Str:=⟨⟨[nat_lit 95,nat_lit 65,nat_lit 66,nat_lit 67,nat_lit 76,nat_lit 105,nat_lit 107,nat_lit 101,nat_lit 46,nat_lit 95,nat_lit 95,nat_lit 115,nat_lit 117,nat_lit 98,nat_lit 99,nat_lit 108,nat_lit 97,nat_lit 115,nat_lit 115,nat_lit 99,nat_lit 104,nat_lit 101,nat_lit 99,nat_lit 107,nat_lit 95,nat_lit 95]⟩⟩
noncomputable abbrev qn226 : Str:=⟨⟨[nat_lit 95,nat_lit 95,nat_lit 100,nat_lit 105,nat_lit 99,nat_lit 116,nat_lit 95,nat_lit 95]⟩⟩
noncomputable abbrev qn227 : Str:=⟨⟨[nat_lit 95,nat_lit 95,nat_lit 119,nat_lit 101,nat_lit 97,nat_lit 107,nat_lit 114,nat_lit 101,nat_lit 102,nat_lit 95,nat_lit 95]⟩⟩
noncomputable abbrev qn228 : Str:=⟨⟨[nat_lit 95,nat_lit 65,nat_lit 66,nat_lit 67,nat_lit 76,nat_lit 105,nat_lit 107,nat_lit 101,nat_lit 46,nat_lit 114,nat_lit 101,nat_lit 103,nat_lit 105,nat_lit 115,nat_lit 116,nat_lit 101,nat_lit 114]⟩⟩
noncomputable abbrev qn229 : Str:=⟨⟨[nat_lit 95,nat_lit 65,nat_lit 66,nat_lit 67,nat_lit 76,nat_lit 105,nat_lit 107,nat_lit 101,nat_lit 46,nat_lit 95,nat_lit 95,nat_lit 105,nat_lit 110,nat_lit 115,nat_lit 116,nat_lit 97,nat_lit 110,nat_lit 99,nat_lit 101,nat_lit 99,nat_lit 104,nat_lit 101,nat_lit 99,nat_lit 107,nat_lit 95,nat_lit 95]⟩⟩
noncomputable abbrev qn230 : Str:=⟨⟨[nat_lit 65,nat_lit 66,nat_lit 67,nat_lit 77,nat_lit 101,nat_lit 116,nat_lit 97,nat_lit 46,nat_lit 114,nat_lit 101,nat_lit 103,nat_lit 105,nat_lit 115,nat_lit 116,nat_lit 101,nat_lit 114]⟩⟩
noncomputable abbrev qn231 : Str:=⟨⟨[nat_lit 95,nat_lit 73,nat_lit 103,nat_lit 110,nat_lit 111,nat_lit 114,nat_lit 101,nat_lit 46,nat_lit 95,nat_lit 95,nat_lit 105,nat_lit 110,nat_lit 105,nat_lit 116,nat_lit 95,nat_lit 95]⟩⟩
noncomputable abbrev qn232 : Str:=⟨⟨[nat_lit 60,nat_lit 109,nat_lit 111,nat_lit 100,nat_lit 117,nat_lit 108,nat_lit 101,nat_lit 62]⟩⟩
noncomputable abbrev qn233 : Str:=⟨⟨[nat_lit 95,nat_lit 95,nat_lit 109,nat_lit 97,nat_lit 105,nat_lit 110,nat_lit 95,nat_lit 95]⟩⟩
noncomputable abbrev qa0 : Arguments := (defAt (stAt 0)).1
noncomputable abbrev qb1 : List Stmt:=(defAt (stAt 0)).2.1
noncomputable abbrev qs2 : Scope:=(defAt (stAt 0)).2.2
noncomputable abbrev qa3 : Arguments := (defAt (stAt 3)).1
noncomputable abbrev qb4 : List Stmt:=(defAt (stAt 3)).2.1
noncomputable abbrev qs5 : Scope:=(defAt (stAt 3)).2.2
noncomputable abbrev qa6 : Arguments := (defAt (inAt 5 0)).1
noncomputable abbrev qb7 : List Stmt:=(defAt (inAt 5 0)).2.1
noncomputable abbrev qs8 : Scope:=(defAt (inAt 5 0)).2.2
noncomputable abbrev qa9 : Arguments := (defAt (inAt 7 0)).1
noncomputable abbrev qb10 : List Stmt:=(defAt (inAt 7 0)).2.1
noncomputable abbrev qs11 : Scope:=(defAt (inAt 7 0)).2.2
noncomputable abbrev qa12 : Arguments := (defAt (inAt 7 1)).1
noncomputable abbrev qb13 : List Stmt:=(defAt (inAt 7 1)).2.1
noncomputable abbrev qs14 : Scope:=(defAt (inAt 7 1)).2.2
noncomputable abbrev qa15 : Arguments := (defAt (inAt 7 2)).1
noncomputable abbrev qb16 : List Stmt:=(defAt (inAt 7 2)).2.1
noncomputable abbrev qa17 : Arguments := (defAt (stAt 8)).1
noncomputable abbrev qb18 : List Stmt:=(defAt (stAt 8)).2.1
noncomputable abbrev qs19 : Scope:=(defAt (stAt 8)).2.2
noncomputable abbrev qa20 : Arguments := (defAt (stAt 10)).1
noncomputable abbrev qb21 : List Stmt:=(defAt (stAt 10)).2.1
noncomputable abbrev qs22 : Scope:=(defAt (stAt 10)).2.2
noncomputable abbrev qa23 : Arguments := (defAt (stAt 12)).1
noncomputable abbrev qb24 : List Stmt:=(defAt (stAt 12)).2.1
noncomputable abbrev qs25 : Scope:=(defAt (stAt 12)).2.2
noncomputable abbrev qa26 : Arguments := (defAt (stAt 13)).1
noncomputable abbrev qb27 : List Stmt:=(defAt (stAt 13)).2.1
noncomputable abbrev qs28 : Scope:=(defAt (stAt 13)).2.2
noncomputable abbrev qa29 : Arguments := (defAt (stAt 14)).1
noncomputable abbrev qb30 : List Stmt:=(defAt (stAt 14)).2.1
noncomputable abbrev qs31 : Scope:=(defAt (stAt 14)).2.2
noncomputable abbrev qa32 : Arguments := (defAt (stAt 15)).1
noncomputable abbrev qb33 : List Stmt:=(defAt (stAt 15)).2.1
noncomputable abbrev qs34 : Scope:=(defAt (stAt 15)).2.2
noncomputable abbrev qa35 : Arguments := (defAt (stAt 16)).1
noncomputable abbrev qb36 : List Stmt:=(defAt (stAt 16)).2.1
noncomputable abbrev qs37 : Scope:=(defAt (stAt 16)).2.2
noncomputable abbrev qa38 : Arguments := (defAt (stAt 17)).1
noncomputable abbrev qb39 : List Stmt:=(defAt (stAt 17)).2.1
noncomputable abbrev qs40 : Scope:=(defAt (stAt 17)).2.2
noncomputable abbrev qa41 : Arguments := (defAt (stAt 18)).1
noncomputable abbrev qb42 : List Stmt:=(defAt (stAt 18)).2.1
noncomputable abbrev qs43 : Scope:=(defAt (stAt 18)).2.2
noncomputable abbrev qa44 : Arguments := (defAt (stAt 19)).1
noncomputable abbrev qb45 : List Stmt:=(defAt (stAt 19)).2.1
noncomputable abbrev qs46 : Scope:=(defAt (stAt 19)).2.2
noncomputable abbrev qa47 : Arguments := (defAt (stAt 20)).1
noncomputable abbrev qb48 : List Stmt:=(defAt (stAt 20)).2.1
noncomputable abbrev qs49 : Scope:=(defAt (stAt 20)).2.2
noncomputable abbrev qa50 : Arguments := (defAt (inAt 22 0)).1
noncomputable abbrev qb51 : List Stmt:=(defAt (inAt 22 0)).2.1
noncomputable abbrev qs52 : Scope:=(defAt (inAt 22 0)).2.2
noncomputable abbrev qa53 : Arguments := (defAt (inAt 22 1)).1
noncomputable abbrev qb54 : List Stmt:=(defAt (inAt 22 1)).2.1
noncomputable abbrev qs55 : Scope:=(defAt (inAt 22 1)).2.2
noncomputable abbrev qa56 : Arguments := (defAt (stAt 23)).1
noncomputable abbrev qb57 : List Stmt:=(defAt (stAt 23)).2.1
noncomputable abbrev qs58 : Scope:=(defAt (stAt 23)).2.2
noncomputable abbrev qa59 : Arguments := (defAt (stAt 25)).1
noncomputable abbrev qb60 : List Stmt:=(defAt (stAt 25)).2.1
noncomputable abbrev qs61 : Scope:=(defAt (stAt 25)).2.2
noncomputable abbrev qa62 : Arguments := (defAt (stAt 27)).1
noncomputable abbrev qb63 : List Stmt:=(defAt (stAt 27)).2.1
noncomputable abbrev qs64 : Scope:=(defAt (stAt 27)).2.2
noncomputable abbrev qa65 : Arguments := (defAt (stAt 29)).1
noncomputable abbrev qb66 : List Stmt:=(defAt (stAt 29)).2.1
noncomputable abbrev qs67 : Scope:=(defAt (stAt 29)).2.2
noncomputable abbrev qa68 : Arguments := (defAt (stAt 31)).1
noncomputable abbrev qb69 : List Stmt:=(defAt (stAt 31)).2.1
noncomputable abbrev qs70 : Scope:=(defAt (stAt 31)).2.2
noncomputable abbrev qa71 : Arguments := (defAt (stAt 32)).1
noncomputable abbrev qb72 : List Stmt:=(defAt (stAt 32)).2.1
noncomputable abbrev qs73 : Scope:=(defAt (stAt 32)).2.2
noncomputable abbrev qa74 : Arguments := (defAt (stAt 33)).1
noncomputable abbrev qb75 : List Stmt:=(defAt (stAt 33)).2.1
noncomputable abbrev qs76 : Scope:=(defAt (stAt 33)).2.2
noncomputable abbrev qa77 : Arguments := (defAt (stAt 35)).1
noncomputable abbrev qb78 : List Stmt:=(defAt (stAt 35)).2.1
noncomputable abbrev qs79 : Scope:=(defAt (stAt 35)).2.2
noncomputable abbrev qa80 : Arguments := (defAt (stAt 36)).1
noncomputable abbrev qb81 : List Stmt:=(defAt (stAt 36)).2.1
noncomputable abbrev qs82 : Scope:=(defAt (stAt 36)).2.2
noncomputable abbrev qa83 : Arguments := (defAt (stAt 37)).1
noncomputable abbrev qb84 : List Stmt:=(defAt (stAt 37)).2.1
noncomputable abbrev qs85 : Scope:=(defAt (stAt 37)).2.2
noncomputable abbrev qa86 : Arguments := (defAt (stAt 38)).1
noncomputable abbrev qb87 : List Stmt:=(defAt (stAt 38)).2.1
noncomputable abbrev qs88 : Scope:=(defAt (stAt 38)).2.2
noncomputable abbrev qa89 : Arguments := (defAt (stAt 39)).1
noncomputable abbrev qb90 : List Stmt:=(defAt (stAt 39)).2.1
noncomputable abbrev qs91 : Scope:=(defAt (stAt 39)).2.2
noncomputable abbrev qf92 : FuncData := ⟨qn68, qn68, qa35, (.stmts qb36), qs37,0, [], .none, .none, .none, .none, .none, .none, .none, 0⟩
noncomputable abbrev qf93 : FuncData := ⟨qn188, qn188, qa56, (.stmts qb57), qs58,3, [], .none, .none, .none, (.str qn207 387), .none, (.ref 190), .none, 0⟩
noncomputable abbrev qf94 : FuncData := ⟨qn69, qn69, qa41, (.stmts qb42), qs43,3, [], .none, .none, .none, (.str qn206 295), .none, (.ref 142), .none, 0⟩
noncomputable abbrev qf95 : FuncData := ⟨qn191, qn191, qa62, (.stmts qb63), qs64,3, [], (.ref 200), .none, .none, (.str qn108 439), .none, (.ref 206), .none, 0⟩
noncomputable abbrev qf96 : FuncData := ⟨qn187, qn224, qa53, (.stmts qb54), qs55,0, [], .none, .none, .none, .none, .none, .none, .none, 0⟩
noncomputable abbrev qf97 : FuncData := ⟨qn31, qn31, qa17, (.stmts qb18), qs19,3, [], .none, .none, .none, (.str qn203 233), .none, (.ref 86), .none, 0⟩
noncomputable abbrev qf98 : FuncData := ⟨qn192, qn192, qa80, (.stmts qb81), qs82,3, [], .none, .none, .none, (.str qn210 506), .none, (.ref 246), .none, 0⟩
noncomputable abbrev qf99 : FuncData := ⟨qn16, qn16, qa0, (.stmts qb1), qs2,0, [], .none, .none, .none, .none, .none, .none, .none, 0⟩
noncomputable abbrev qf100 : FuncData := ⟨qn198, qn198, qa86, (.stmts qb87), qs88,3, [], .none, .none, .none, (.str qn210 506), .none, (.ref 258), .none, 0⟩
noncomputable abbrev qf101 : FuncData := ⟨qn49, qn49, qa23, (.stmts qb24), qs25,0, [], .none, .none, .none, .none, .none, .none, .none, 0⟩
noncomputable abbrev qf102 : FuncData := ⟨qn52, qn52, qa29, (.stmts qb30), qs31,3, [], .none, .none, .none, (.str qn206 295), .none, (.ref 114), .none, 0⟩
noncomputable abbrev qf103 : FuncData := ⟨qn202, qn228, qa15, (.stmts qb16), qs8,3, [], .none, .none, .none, (.str qn203 233), .none, (.ref 74), .none, 0⟩
noncomputable abbrev qf104 : FuncData := ⟨qn152, qn152, qa74, (.stmts qb75), qs76,3, [], .none, .none, .none, (.str qn209 476), .none, (.ref 234), .none, 0⟩
noncomputable abbrev qf105 : FuncData := ⟨qn204, qn229, qa9, (.stmts qb10), qs11,0, [], .none, .none, .none, .none, .none, .none, .none, 0⟩
noncomputable abbrev qf106 : FuncData := ⟨qn86, qn86, qa47, (.stmts qb48), qs49,0, [], .none, .none, .none, .none, .none, .none, .none, 0⟩
noncomputable abbrev qf107 : FuncData := ⟨qn138, qn138, qa68, (.stmts qb69), qs70,0, [], .none, .none, .none, .none, .none, .none, .none, 0⟩
noncomputable abbrev qf108 : FuncData := ⟨qn68, qn68, qa35, (.stmts qb36), qs37,3, [], .none, .none, .none, (.str qn206 295), .none, (.ref 128), .none, 0⟩
noncomputable abbrev qf109 : FuncData := ⟨qn198, qn198, qa86, (.stmts qb87), qs88,0, [], .none, .none, .none, .none, .none, .none, .none, 0⟩
noncomputable abbrev qf110 : FuncData := ⟨qn52, qn52, qa29, (.stmts qb30), qs31,0, [], .none, .none, .none, .none, .none, .none, .none, 0⟩
noncomputable abbrev qf111 : FuncData := ⟨qn187, qn224, qa53, (.stmts qb54), qs55,3, [], .none, .none, .none, (.str qn207 387), .none, (.ref 176), .none, 0⟩
noncomputable abbrev qf112 : FuncData := ⟨qn202, qn228, qa15, (.stmts qb16), qs8,0, [], .none, .none, .none, .none, .none, .none, .none, 0⟩
noncomputable abbrev qf113 : FuncData := ⟨qn152, qn152, qa74, (.stmts qb75), qs76,0, [], .none, .none, .none, .none, .none, .none, .none, 0⟩
noncomputable abbrev qf114 : FuncData := ⟨qn16, qn16, qa0, (.stmts qb1), qs2,3, [], .none, .none, .none, (.str qn233 164), .none, (.ref 20), .none, 0⟩
noncomputable abbrev qf115 : FuncData := ⟨qn49, qn49, qa23, (.stmts qb24), qs25,3, [], .none, .none, .none, (.str qn206 295), .none, (.ref 100), .none, 0⟩
noncomputable abbrev qf116 : FuncData := ⟨qn31, qn31, qa17, (.stmts qb18), qs19,0, [], .none, .none, .none, .none, .none, .none, .none, 0⟩
noncomputable abbrev qf117 : FuncData := ⟨qn192, qn192, qa80, (.stmts qb81), qs82,0, [], .none, .none, .none, .none, .none, .none, .none, 0⟩
noncomputable abbrev qf118 : FuncData := ⟨qn69, qn69, qa41, (.stmts qb42), qs43,0, [], .none, .none, .none, .none, .none, .none, .none, 0⟩
noncomputable abbrev qf119 : FuncData := ⟨qn191, qn191, qa62, (.stmts qb63), qs64,0, [], .none, .none, .none, .none, .none, .none, .none, 0⟩
noncomputable abbrev qf120 : FuncData := ⟨qn204, qn229, qa9, (.stmts qb10), qs11,3, [], .none, .none, .none, (.str qn203 233), .none, (.ref 60), .none, 0⟩
noncomputable abbrev qf121 : FuncData := ⟨qn86, qn86, qa47, (.stmts qb48), qs49,3, [], .none, .none, .none, (.str qn206 295), .none, (.ref 156), .none, 0⟩
noncomputable abbrev qf122 : FuncData := ⟨qn138, qn138, qa68, (.stmts qb69), qs70,3, [], .none, .none, .none, (.str qn209 476), .none, (.ref 220), .none, 0⟩
noncomputable abbrev qf123 : FuncData := ⟨qn188, qn188, qa56, (.stmts qb57), qs58,0, [], .none, .none, .none, .none, .none, .none, .none, 0⟩
noncomputable abbrev qf124 : FuncData := ⟨qn196, qn196, qa77, (.stmts qb78), qs79,0, [], .none, .none, .none, .none, .none, .none, .none, 0⟩
noncomputable abbrev qf125 : FuncData := ⟨qn202, qn230, qa6, (.stmts qb7), qs8,0, [], .none, .none, .none, .none, .none, .none, .none, 0⟩
noncomputable abbrev qf126 : FuncData := ⟨qn76, qn76, qa38, (.stmts qb39), qs40,3, [], .none, .none, .none, (.str qn206 295), .none, (.ref 135), .none, 0⟩
noncomputable abbrev qf127 : FuncData := ⟨qn211, qn211, qa89, (.stmts qb90), qs91,3, [], .none, .none, .none, (.str qn210 506), .none, (.ref 263), .none, 0⟩
noncomputable abbrev qf128 : FuncData := ⟨qn111, qn231, qa50, (.stmts qb51), qs52,0, [], .none, .none, .none, .none, .none, .none, .none, 0⟩
noncomputable abbrev qf129 : FuncData := ⟨qn85, qn85, qa32, (.stmts qb33), qs34,0, [], .none, .none, .none, .none, .none, .none, .none, 0⟩
noncomputable abbrev qf130 : FuncData := ⟨qn205, qn225, qa12, (.stmts qb13), qs14,3, [], .none, .none, .none, (.str qn203 233), .none, (.ref 67), .none, 0⟩
noncomputable abbrev qf131 : FuncData := ⟨qn195, qn195, qa59, (.stmts qb60), qs61,0, [], .none, .none, .none, .none, .none, .none, .none, 0⟩
noncomputable abbrev qf132 : FuncData := ⟨qn83, qn83, qa71, (.stmts qb72), qs73,3, [], .none, .none, .none, (.str qn209 476), .none, (.ref 227), .none, 0⟩
noncomputable abbrev qf133 : FuncData := ⟨qn84, qn84, qa44, (.stmts qb45), qs46,0, [], .none, .none, .none, .none, .none, .none, .none, 0⟩
noncomputable abbrev qf134 : FuncData := ⟨qn143, qn143, qa65, (.stmts qb66), qs67,0, [], .none, .none, .none, .none, .none, .none, .none, 0⟩
noncomputable abbrev qf135 : FuncData := ⟨qn36, qn36, qa3, (.stmts qb4), qs5,3, [], .none, .none, .none, (.str qn200 194), .none, (.ref 27), .none, 0⟩
noncomputable abbrev qf136 : FuncData := ⟨qn51, qn51, qa26, (.stmts qb27), qs28,3, [], .none, .none, .none, (.str qn206 295), .none, (.ref 107), .none, 0⟩
noncomputable abbrev qf137 : FuncData := ⟨qn137, qn137, qa20, (.stmts qb21), qs22,0, [], .none, .none, .none, .none, .none, .none, .none, 0⟩
noncomputable abbrev qf138 : FuncData := ⟨qn199, qn199, qa83, (.stmts qb84), qs85,0, [], .none, .none, .none, .none, .none, .none, .none, 0⟩
noncomputable abbrev qf139 : FuncData := ⟨qn205, qn225, qa12, (.stmts qb13), qs14,0, [], .none, .none, .none, .none, .none, .none, .none, 0⟩
noncomputable abbrev qf140 : FuncData := ⟨qn83, qn83, qa71, (.stmts qb72), qs73,0, [], .none, .none, .none, .none, .none, .none, .none, 0⟩
noncomputable abbrev qf141 : FuncData := ⟨qn196, qn196, qa77, (.stmts qb78), qs79,3, [], .none, .none, .none, (.str qn210 506), .none, (.ref 241), .none, 0⟩
noncomputable abbrev qf142 : FuncData := ⟨qn36, qn36, qa3, (.stmts qb4), qs5,0, [], .none, .none, .none, .none, .none, .none, .none, 0⟩
noncomputable abbrev qf143 : FuncData := ⟨qn202, qn230, qa6, (.stmts qb7), qs8,3, [], .none, .none, .none, (.str qn201 207), .none, (.ref 41), .none, 0⟩
noncomputable abbrev qf144 : FuncData := ⟨qn51, qn51, qa26, (.stmts qb27), qs28,0, [], .none, .none, .none, .none, .none, .none, .none, 0⟩
noncomputable abbrev qf145 : FuncData := ⟨qn111, qn231, qa50, (.stmts qb51), qs52,3, [], (.ref 165), .none, .none, (.str qn207 387), .none, (.ref 169), .none, 0⟩
noncomputable abbrev qf146 : FuncData := ⟨qn85, qn85, qa32, (.stmts qb33), qs34,3, [], .none, .none, .none, (.str qn206 295), .none, (.ref 121), .none, 0⟩
noncomputable abbrev qf147 : FuncData := ⟨qn76, qn76, qa38, (.stmts qb39), qs40,0, [], .none, .none, .none, .none, .none, .none, .none, 0⟩
noncomputable abbrev qf148 : FuncData := ⟨qn211, qn211, qa89, (.stmts qb90), qs91,0, [], .none, .none, .none, .none, .none, .none, .none, 0⟩
noncomputable abbrev qf149 : FuncData := ⟨qn195, qn195, qa59, (.stmts qb60), qs61,3, [], .none, .none, .none, (.str qn108 439), .none, (.ref 197), .none, 0⟩
noncomputable abbrev qf150 : FuncData := ⟨qn84, qn84, qa44, (.stmts qb45), qs46,3, [], .none, .none, .none, (.str qn206 295), .none, (.ref 149), .none, 0⟩
noncomputable abbrev qf151 : FuncData := ⟨qn143, qn143, qa65, (.stmts qb66), qs67,3, [], .none, .none, .none, (.str qn208 463), .none, (.ref 213), .none, 0⟩
noncomputable abbrev qf152 : FuncData := ⟨qn137, qn137, qa20, (.stmts qb21), qs22,3, [], .none, .none, .none, (.str qn200 283), .none, (.ref 93), .none, 0⟩
noncomputable abbrev qf153 : FuncData := ⟨qn199, qn199, qa83, (.stmts qb84), qs85,3, [], .none, .none, .none, (.str qn210 506), .none, (.ref 253), .none, 0⟩
noncomputable abbrev ob0 (P : Params) : Obj:=(PySem.W.boot_o_0 P)
noncomputable abbrev ob1 (P : Params) : Obj:=(PySem.W.boot_o_1 P)
noncomputable abbrev ob2 (P : Params) : Obj:=(PySem.W.boot_o_2 P)
noncomputable abbrev ob3 (P : Params) : Obj:=⟨(.type "dict"),.none,(.dict (List.toArray (⟨(PySem.PyData.keyHash P qn15),(.str qn15 165),(.str qn210 506)⟩::⟨(PySem.PyData.keyHash P qn212),(.str qn212 166),.none⟩::⟨(PySem.PyData.keyHash P qn213),(.str qn213 167),.none⟩::⟨(PySem.PyData.keyHash P qn214),(.str qn214 168),(.builtin "__main__.__loader__#opaque")⟩::⟨(PySem.PyData.keyHash P qn215),(.str qn215 169),.none⟩::⟨(PySem.PyData.keyHash P qn216),(.str qn216 170),(.ref 6)⟩::⟨(PySem.PyData.keyHash P qn217),(.str qn217 171),(.ref 4)⟩::⟨(PySem.PyData.keyHash P qn218),(.str qn218 173),(.str qn219 172)⟩::⟨(PySem.PyData.keyHash P qn220),(.str qn220 174),.none⟩::⟨(PySem.PyData.keyHash P qn16),(.str qn16 193),(.ref 21)⟩::⟨(PySem.PyData.keyHash P qn53),(.str qn53 197),(.str qn54 196)⟩::⟨(PySem.PyData.keyHash P qn36),(.str qn36 206),(.ref 28)⟩::⟨(PySem.PyData.keyHash P qn27),(.str qn27 232),(.ref 45)⟩::⟨(PySem.PyData.keyHash P qn26),(.str qn26 275),(.ref 78)⟩::⟨(PySem.PyData.keyHash P qn31),(.str qn31 282),(.ref 87)⟩::⟨(PySem.PyData.keyHash P qn137),(.str qn137 294),(.ref 94)⟩::⟨(PySem.PyData.keyHash P qn49),(.str qn49 305),(.ref 101)⟩::⟨(PySem.PyData.keyHash P qn51),(.str qn51 314),(.ref 108)⟩::⟨(PySem.PyData.keyHash P qn52),(.str qn52 326),(.ref 115)⟩::⟨(PySem.PyData.keyHash P qn85),(.str qn85 339),(.ref 122)⟩::⟨(PySem.PyData.keyHash P qn68),(.str qn68 346),(.ref 129)⟩::⟨(PySem.PyData.keyHash P qn76),(.str qn76 355),(.ref 136)⟩::⟨(PySem.PyData.keyHash P qn69),(.str qn69 363),(.ref 143)⟩::⟨(PySem.PyData.keyHash P qn84),(.str qn84 378),(.ref 150)⟩::⟨(PySem.PyData.keyHash P qn86),(.str qn86 386),(.ref 157)⟩::⟨(PySem.PyData.keyHash P qn184),(.str qn184 428),(.ref 180)⟩::⟨(PySem.PyData.keyHash P qn188),(.str qn188 438),(.ref 191)⟩::⟨(PySem.PyData.keyHash P qn195),(.str qn195 449),(.ref 198)⟩::⟨(PySem.PyData.keyHash P qn122),(.str qn122 450),(.ref 199)⟩::⟨(PySem.PyData.keyHash P qn191),(.str qn191 462),(.ref 207)⟩::⟨(PySem.PyData.keyHash P qn143),(.str qn143 475),(.ref 214)⟩::⟨(PySem.PyData.keyHash P qn138),(.str qn138 484),(.ref 221)⟩::⟨(PySem.PyData.keyHash P qn83),(.str qn83 495),(.ref 228)⟩::⟨(PySem.PyData.keyHash P qn152),(.str qn152 505),(.ref 235)⟩::⟨(PySem.PyData.keyHash P qn196),(.str qn196 515),(.ref 242)⟩::⟨(PySem.PyData.keyHash P qn192),(.str qn192 521),(.ref 247)⟩::⟨(PySem.PyData.keyHash P qn199),(.str qn199 530),(.ref 254)⟩::⟨(PySem.PyData.keyHash P qn198),(.str qn198 536),(.ref 259)⟩::⟨(PySem.PyData.keyHash P qn211),(.str qn211 542),(.ref 264)⟩::[])) 39),(List.toArray [])⟩
noncomputable abbrev ob4 (P : Params) : Obj:=(PySem.W.boot_o_4 P)
noncomputable abbrev ob5 (P : Params) : Obj:=(PySem.W.boot_o_5 P)
noncomputable abbrev ob6 (P : Params) : Obj:=(PySem.W.boot_o_6 P)
noncomputable abbrev ob7 (P : Params) : Obj:=(PySem.W.boot_o_7 P)
noncomputable abbrev ob8 (P : Params) : Obj:=(PySem.W.boot_o_8 P)
noncomputable abbrev ob9 (P : Params) : Obj:=(PySem.W.boot_o_9 P)
noncomputable abbrev ob10 (P : Params) : Obj:=(PySem.W.boot_o_10 P)
noncomputable abbrev ob11 (P : Params) : Obj:=⟨(.type "tuple"),.none,(.seq (List.toArray []) 0),(List.toArray [])⟩
noncomputable abbrev ob12 (P : Params) : Obj:=⟨.none,.none,(.fields (List.toArray ((.int 1 0)::(.int 0 0)::(.ref 20)::(.int 6 0)::(.int 0 0)::(.ref 27)::(.int 12 0)::(.int 0 0)::(.ref 34)::(.int 17 0)::(.int 0 0)::(.ref 53)::(.int 32 0)::(.int 0 0)::(.ref 86)::(.int 36 0)::(.int 0 0)::(.ref 93)::(.int 53 0)::(.int 0 0)::(.ref 100)::(.int 74 0)::(.int 0 0)::(.ref 107)::(.int 79 0)::(.int 0 0)::(.ref 114)::(.int 92 0)::(.int 0 0)::(.ref 121)::(.int 103 0)::(.int 0 0)::(.ref 128)::(.int 105 0)::(.int 0 0)::(.ref 135)::(.int 114 0)::(.int 0 0)::(.ref 142)::(.int 118 0)::(.int 0 0)::(.ref 149)::(.int 139 0)::(.int 0 0)::(.ref 156)::(.int 142 0)::(.int 0 0)::(.ref 163)::(.int 168 0)::(.int 0 0)::(.ref 190)::(.int 173 0)::(.int 0 0)::(.ref 197)::(.int 199 0)::(.int 0 0)::(.ref 206)::(.int 212 0)::(.int 0 0)::(.ref 213)::(.int 224 0)::(.int 0 0)::(.ref 220)::(.int 229 0)::(.int 0 0)::(.ref 227)::(.int 246 0)::(.int 0 0)::(.ref 234)::(.int 255 0)::(.int 0 0)::(.ref 241)::(.int 257 0)::(.int 0 0)::(.ref 246)::(.int 263 0)::(.int 0 0)::(.ref 253)::(.int 270 0)::(.int 0 0)::(.ref 258)::(.int 282 0)::(.int 0 0)::(.ref 263)::[]))),(List.toArray [])⟩
noncomputable abbrev ob13 (P : Params) : Obj:=⟨(.type "code"),.none,(.fields (List.toArray [(.str qn232 182),(.str qn232 183),(.str qn219 184),(.int 1 0),(.int 0 0),(.int 0 0),(.int 0 0),(.int 0 0),(.ref 11),(.bool false),(.int 181 0),(.ref 12),.none,.none,.none,.none,(.int 185 0),(.int 1 0),(.str qn219 186)])),(List.toArray [])⟩
noncomputable abbrev ob14 (P : Params) : Obj:=⟨(.type "frame"),.none,.plain,(List.toArray [(.some (.ref 13)),(.some (.ref 3)),(.some (.ref 3)),.none,(.some (.str qn233 164)),.none,(.some (.ref 0))])⟩
noncomputable abbrev ob15 (P : Params) : Obj:=⟨(.type "tuple"),.none,(.seq (List.toArray []) 0),(List.toArray [])⟩
noncomputable abbrev ob16 (P : Params) : Obj:=⟨.none,.none,(.fields (List.toArray [])),(List.toArray [])⟩
noncomputable abbrev ob17 (P : Params) : Obj:=⟨(.type "tuple"),.none,(.seq (List.toArray [(.str qn0 190)]) 0),(List.toArray [])⟩
noncomputable abbrev ob18 (P : Params) : Obj:=⟨(.type "tuple"),.none,(.seq (List.toArray []) 0),(List.toArray [])⟩
noncomputable abbrev ob19 (P : Params) : Obj:=⟨.none,.none,(.func qf99),(List.toArray [])⟩
noncomputable abbrev ob20 (P : Params) : Obj:=⟨(.type "code"),.none,(.fields (List.toArray [(.str qn16 187),(.str qn16 188),(.str qn219 189),(.int 1 0),(.int 1 0),(.int 0 0),(.int 0 0),(.int 3 0),(.ref 15),(.bool true),(.int 181 0),(.ref 16),.none,(.ref 17),(.ref 18),(.ref 19),(.int 191 0),(.int 1 0),(.str qn219 192)])),(List.toArray [])⟩
noncomputable abbrev ob21 (P : Params) : Obj:=⟨(.type "function"),.none,(.func qf114),(List.toArray [])⟩
noncomputable abbrev ob22 (P : Params) : Obj:=⟨(.type "tuple"),.none,(.seq (List.toArray []) 0),(List.toArray [])⟩
noncomputable abbrev ob23 (P : Params) : Obj:=⟨.none,.none,(.fields (List.toArray [])),(List.toArray [])⟩
noncomputable abbrev ob24 (P : Params) : Obj:=⟨(.type "tuple"),.none,(.seq (List.toArray [(.str qn1 201),(.str qn2 202),(.str qn3 203)]) 0),(List.toArray [])⟩
noncomputable abbrev ob25 (P : Params) : Obj:=⟨(.type "tuple"),.none,(.seq (List.toArray []) 0),(List.toArray [])⟩
noncomputable abbrev ob26 (P : Params) : Obj:=⟨.none,.none,(.func qf142),(List.toArray [])⟩
noncomputable abbrev ob27 (P : Params) : Obj:=⟨(.type "code"),.none,(.fields (List.toArray [(.str qn36 198),(.str qn36 199),(.str qn219 200),(.int 6 0),(.int 2 0),(.int 0 0),(.int 0 0),(.int 3 0),(.ref 22),(.bool true),(.int 181 0),(.ref 23),.none,(.ref 24),(.ref 25),(.ref 26),(.int 204 0),(.int 6 0),(.str qn219 205)])),(List.toArray [])⟩
noncomputable abbrev ob28 (P : Params) : Obj:=⟨(.type "function"),.none,(.func qf135),(List.toArray [])⟩
noncomputable abbrev ob29 (P : Params) : Obj:=⟨(.type "tuple"),.none,(.seq (List.toArray [(.type "type")]) 0),(List.toArray [])⟩
noncomputable abbrev ob30 (P : Params) : Obj:=⟨(.type "builtin_function_or_method"),.none,(.fields (List.toArray [(.builtin "type.__prepare__"),(.type "type")])),(List.toArray [])⟩
noncomputable abbrev ob31 (P : Params) : Obj:=⟨(.type "dict"),.none,(.dict (List.toArray [⟨(PySem.PyData.keyHash P qn107),(.str qn107 216),(.str qn201 207)⟩,⟨(PySem.PyData.keyHash P qn221),(.str qn221 218),(.str qn27 217)⟩,⟨(PySem.PyData.keyHash P qn222),(.str qn222 220),(.int 12 219)⟩,⟨(PySem.PyData.keyHash P qn202),(.str qn202 228),(.ref 42)⟩,⟨(PySem.PyData.keyHash P qn223),(.str qn223 229),(.ref 43)⟩]) 5),(List.toArray [])⟩
noncomputable abbrev ob32 (P : Params) : Obj:=⟨(.type "tuple"),.none,(.seq (List.toArray []) 0),(List.toArray [])⟩
noncomputable abbrev ob33 (P : Params) : Obj:=⟨.none,.none,(.fields (List.toArray [(.int 14 0),(.int 4 0),(.ref 41)])),(List.toArray [])⟩
noncomputable abbrev ob34 (P : Params) : Obj:=⟨(.type "code"),.none,(.fields (List.toArray [(.str qn27 211),(.str qn27 212),(.str qn219 213),(.int 12 0),(.int 0 0),(.int 0 0),(.int 0 0),(.int 0 0),(.ref 32),(.bool false),(.int 181 0),(.ref 33),.none,.none,.none,.none,(.int 214 0),(.int 12 0),(.str qn219 215)])),(List.toArray [])⟩
noncomputable abbrev ob35 (P : Params) : Obj:=⟨(.type "frame"),.none,.plain,(List.toArray [(.some (.ref 34)),(.some (.ref 3)),(.some (.ref 31)),.none,(.some (.str qn201 207)),.none,(.some (.ref 0))])⟩
noncomputable abbrev ob36 (P : Params) : Obj:=⟨(.type "tuple"),.none,(.seq (List.toArray []) 0),(List.toArray [])⟩
noncomputable abbrev ob37 (P : Params) : Obj:=⟨.none,.none,(.fields (List.toArray [])),(List.toArray [])⟩
noncomputable abbrev ob38 (P : Params) : Obj:=⟨(.type "tuple"),.none,(.seq (List.toArray [(.str qn17 224),(.str qn18 225)]) 0),(List.toArray [])⟩
noncomputable abbrev ob39 (P : Params) : Obj:=⟨(.type "tuple"),.none,(.seq (List.toArray []) 0),(List.toArray [])⟩
noncomputable abbrev ob40 (P : Params) : Obj:=⟨.none,.none,(.func qf125),(List.toArray [])⟩
noncomputable abbrev ob41 (P : Params) : Obj:=⟨(.type "code"),.none,(.fields (List.toArray [(.str qn202 221),(.str qn230 222),(.str qn219 223),(.int 14 0),(.int 2 0),(.int 0 0),(.int 0 0),(.int 3 0),(.ref 36),(.bool true),(.int 181 0),(.ref 37),.none,(.ref 38),(.ref 39),(.ref 40),(.int 226 0),(.int 14 0),(.str qn219 227)])),(List.toArray [])⟩
noncomputable abbrev ob42 (P : Params) : Obj:=⟨(.type "function"),.none,(.func qf143),(List.toArray [])⟩
noncomputable abbrev ob43 (P : Params) : Obj:=⟨(.type "tuple"),.none,(.seq (List.toArray []) 0),(List.toArray [])⟩
noncomputable abbrev ob44 (P : Params) : Obj:=⟨(.type "dict"),.none,(.dict (List.toArray [⟨(PySem.PyData.keyHash P qn107),(.str qn107 216),(.str qn201 207)⟩,⟨(PySem.PyData.keyHash P qn222),(.str qn222 220),(.int 12 219)⟩,⟨(PySem.PyData.keyHash P qn202),(.str qn202 228),(.ref 42)⟩,⟨(PySem.PyData.keyHash P qn223),(.str qn223 229),(.ref 43)⟩,⟨(PySem.PyData.keyHash P qn212),(.str qn212 230),.none⟩]) 2),(List.toArray [])⟩
noncomputable abbrev ob45 (P : Params) : Obj:=⟨(.type "type"),.none,(.cls ⟨qn27,[(.type "type")],[(.ref 45),(.type "type"),(.type "object")],44,qn27,true,[],[(.ref 78)],false,.none,false⟩),(List.toArray [(.some (.ref 29)),.none,(.some (.str qn27 209)),(.some (.str qn27 217)),(.some (.builtin "type.__new__")),(.some (.bool true))])⟩
noncomputable abbrev ob46 (P : Params) : Obj:=⟨(.type "super"),.none,(.fields (List.toArray [(.ref 45),(.ref 45),(.ref 45)])),(List.toArray [])⟩
noncomputable abbrev ob47 (P : Params) : Obj:=⟨(.type "builtin_function_or_method"),.none,(.fields (List.toArray [(.builtin "object.__init_subclass__"),(.ref 45)])),(List.toArray [])⟩
noncomputable abbrev ob48 (P : Params) : Obj:=⟨(.type "tuple"),.none,(.seq (List.toArray [(.ref 45)]) 0),(List.toArray [])⟩
noncomputable abbrev ob49 (P : Params) : Obj:=⟨(.type "builtin_function_or_method"),.none,(.fields (List.toArray [(.builtin "type.__prepare__"),(.type "type")])),(List.toArray [])⟩
noncomputable abbrev ob50 (P : Params) : Obj:=⟨(.type "dict"),.none,(.dict (List.toArray [⟨(PySem.PyData.keyHash P qn107),(.str qn107 242),(.str qn203 233)⟩,⟨(PySem.PyData.keyHash P qn221),(.str qn221 244),(.str qn26 243)⟩,⟨(PySem.PyData.keyHash P qn222),(.str qn222 246),(.int 17 245)⟩,⟨(PySem.PyData.keyHash P qn204),(.str qn204 255),(.ref 61)⟩,⟨(PySem.PyData.keyHash P qn205),(.str qn205 263),(.ref 68)⟩,⟨(PySem.PyData.keyHash P qn202),(.str qn202 271),(.ref 75)⟩,⟨(PySem.PyData.keyHash P qn223),(.str qn223 272),(.ref 76)⟩]) 7),(List.toArray [])⟩
noncomputable abbrev ob51 (P : Params) : Obj:=⟨(.type "tuple"),.none,(.seq (List.toArray []) 0),(List.toArray [])⟩
noncomputable abbrev ob52 (P : Params) : Obj:=⟨.none,.none,(.fields (List.toArray [(.int 19 0),(.int 4 0),(.ref 60),(.int 25 0),(.int 4 0),(.ref 67),(.int 30 0),(.int 4 0),(.ref 74)])),(List.toArray [])⟩
noncomputable abbrev ob53 (P : Params) : Obj:=⟨(.type "code"),.none,(.fields (List.toArray [(.str qn26 237),(.str qn26 238),(.str qn219 239),(.int 17 0),(.int 0 0),(.int 0 0),(.int 0 0),(.int 0 0),(.ref 51),(.bool false),(.int 181 0),(.ref 52),.none,.none,.none,.none,(.int 240 0),(.int 17 0),(.str qn219 241)])),(List.toArray [])⟩
noncomputable abbrev ob54 (P : Params) : Obj:=⟨(.type "frame"),.none,.plain,(List.toArray [(.some (.ref 53)),(.some (.ref 3)),(.some (.ref 50)),.none,(.some (.str qn203 233)),.none,(.some (.ref 0))])⟩
noncomputable abbrev ob55 (P : Params) : Obj:=⟨(.type "tuple"),.none,(.seq (List.toArray []) 0),(List.toArray [])⟩
noncomputable abbrev ob56 (P : Params) : Obj:=⟨.none,.none,(.fields (List.toArray [])),(List.toArray [])⟩
noncomputable abbrev ob57 (P : Params) : Obj:=⟨(.type "tuple"),.none,(.seq (List.toArray [(.str qn17 250),(.str qn19 251),(.str qn20 252)]) 0),(List.toArray [])⟩
noncomputable abbrev ob58 (P : Params) : Obj:=⟨(.type "tuple"),.none,(.seq (List.toArray []) 0),(List.toArray [])⟩
noncomputable abbrev ob59 (P : Params) : Obj:=⟨.none,.none,(.func qf105),(List.toArray [])⟩
noncomputable abbrev ob60 (P : Params) : Obj:=⟨(.type "code"),.none,(.fields (List.toArray [(.str qn204 247),(.str qn229 248),(.str qn219 249),(.int 19 0),(.int 2 0),(.int 0 0),(.int 0 0),(.int 3 0),(.ref 55),(.bool true),(.int 181 0),(.ref 56),.none,(.ref 57),(.ref 58),(.ref 59),(.int 253 0),(.int 19 0),(.str qn219 254)])),(List.toArray [])⟩
noncomputable abbrev ob61 (P : Params) : Obj:=⟨(.type "function"),.none,(.func qf120),(List.toArray [])⟩
noncomputable abbrev ob62 (P : Params) : Obj:=⟨(.type "tuple"),.none,(.seq (List.toArray []) 0),(List.toArray [])⟩
noncomputable abbrev ob63 (P : Params) : Obj:=⟨.none,.none,(.fields (List.toArray [])),(List.toArray [])⟩
noncomputable abbrev ob64 (P : Params) : Obj:=⟨(.type "tuple"),.none,(.seq (List.toArray [(.str qn17 259),(.str qn20 260)]) 0),(List.toArray [])⟩
noncomputable abbrev ob65 (P : Params) : Obj:=⟨(.type "tuple"),.none,(.seq (List.toArray []) 0),(List.toArray [])⟩
noncomputable abbrev ob66 (P : Params) : Obj:=⟨.none,.none,(.func qf139),(List.toArray [])⟩
noncomputable abbrev ob67 (P : Params) : Obj:=⟨(.type "code"),.none,(.fields (List.toArray [(.str qn205 256),(.str qn225 257),(.str qn219 258),(.int 25 0),(.int 2 0),(.int 0 0),(.int 0 0),(.int 3 0),(.ref 62),(.bool true),(.int 181 0),(.ref 63),.none,(.ref 64),(.ref 65),(.ref 66),(.int 261 0),(.int 25 0),(.str qn219 262)])),(List.toArray [])⟩
noncomputable abbrev ob68 (P : Params) : Obj:=⟨(.type "function"),.none,(.func qf130),(List.toArray [])⟩
noncomputable abbrev ob69 (P : Params) : Obj:=⟨(.type "tuple"),.none,(.seq (List.toArray []) 0),(List.toArray [])⟩
noncomputable abbrev ob70 (P : Params) : Obj:=⟨.none,.none,(.fields (List.toArray [])),(List.toArray [])⟩
noncomputable abbrev ob71 (P : Params) : Obj:=⟨(.type "tuple"),.none,(.seq (List.toArray [(.str qn17 267),(.str qn18 268)]) 0),(List.toArray [])⟩
noncomputable abbrev ob72 (P : Params) : Obj:=⟨(.type "tuple"),.none,(.seq (List.toArray []) 0),(List.toArray [])⟩
noncomputable abbrev ob73 (P : Params) : Obj:=⟨.none,.none,(.func qf112),(List.toArray [])⟩
noncomputable abbrev ob74 (P : Params) : Obj:=⟨(.type "code"),.none,(.fields (List.toArray [(.str qn202 264),(.str qn228 265),(.str qn219 266),(.int 30 0),(.int 2 0),(.int 0 0),(.int 0 0),(.int 3 0),(.ref 69),(.bool true),(.int 181 0),(.ref 70),.none,(.ref 71),(.ref 72),(.ref 73),(.int 269 0),(.int 30 0),(.str qn219 270)])),(List.toArray [])⟩
noncomputable abbrev ob75 (P : Params) : Obj:=⟨(.type "function"),.none,(.func qf103),(List.toArray [])⟩
noncomputable abbrev ob76 (P : Params) : Obj:=⟨(.type "tuple"),.none,(.seq (List.toArray []) 0),(List.toArray [])⟩
noncomputable abbrev ob77 (P : Params) : Obj:=⟨(.type "dict"),.none,(.dict (List.toArray [⟨(PySem.PyData.keyHash P qn107),(.str qn107 242),(.str qn203 233)⟩,⟨(PySem.PyData.keyHash P qn222),(.str qn222 246),(.int 17 245)⟩,⟨(PySem.PyData.keyHash P qn204),(.str qn204 255),(.ref 61)⟩,⟨(PySem.PyData.keyHash P qn205),(.str qn205 263),(.ref 68)⟩,⟨(PySem.PyData.keyHash P qn202),(.str qn202 271),(.ref 75)⟩,⟨(PySem.PyData.keyHash P qn223),(.str qn223 272),(.ref 76)⟩,⟨(PySem.PyData.keyHash P qn212),(.str qn212 273),.none⟩]) 2),(List.toArray [])⟩
noncomputable abbrev ob78 (P : Params) : Obj:=⟨(.type "type"),.none,(.cls ⟨qn26,[(.ref 45)],[(.ref 78),(.ref 45),(.type "type"),(.type "object")],77,qn26,true,[],[],false,.none,false⟩),(List.toArray [(.some (.ref 48)),.none,(.some (.str qn26 235)),(.some (.str qn26 243)),(.some (.builtin "type.__new__")),(.some (.bool true))])⟩
noncomputable abbrev ob79 (P : Params) : Obj:=⟨(.type "super"),.none,(.fields (List.toArray [(.ref 78),(.ref 78),(.ref 78)])),(List.toArray [])⟩
noncomputable abbrev ob80 (P : Params) : Obj:=⟨(.type "builtin_function_or_method"),.none,(.fields (List.toArray [(.builtin "object.__init_subclass__"),(.ref 78)])),(List.toArray [])⟩
noncomputable abbrev ob81 (P : Params) : Obj:=⟨(.type "tuple"),.none,(.seq (List.toArray []) 0),(List.toArray [])⟩
noncomputable abbrev ob82 (P : Params) : Obj:=⟨.none,.none,(.fields (List.toArray [])),(List.toArray [])⟩
noncomputable abbrev ob83 (P : Params) : Obj:=⟨(.type "tuple"),.none,(.seq (List.toArray [(.str qn20 279)]) 0),(List.toArray [])⟩
noncomputable abbrev ob84 (P : Params) : Obj:=⟨(.type "tuple"),.none,(.seq (List.toArray []) 0),(List.toArray [])⟩
noncomputable abbrev ob85 (P : Params) : Obj:=⟨.none,.none,(.func qf116),(List.toArray [])⟩
noncomputable abbrev ob86 (P : Params) : Obj:=⟨(.type "code"),.none,(.fields (List.toArray [(.str qn31 276),(.str qn31 277),(.str qn219 278),(.int 32 0),(.int 1 0),(.int 0 0),(.int 0 0),(.int 3 0),(.ref 81),(.bool true),(.int 181 0),(.ref 82),.none,(.ref 83),(.ref 84),(.ref 85),(.int 280 0),(.int 32 0),(.str qn219 281)])),(List.toArray [])⟩
noncomputable abbrev ob87 (P : Params) : Obj:=⟨(.type "function"),.none,(.func qf97),(List.toArray [])⟩
noncomputable abbrev ob88 (P : Params) : Obj:=⟨(.type "tuple"),.none,(.seq (List.toArray []) 0),(List.toArray [])⟩
noncomputable abbrev ob89 (P : Params) : Obj:=⟨.none,.none,(.fields (List.toArray [])),(List.toArray [])⟩
noncomputable abbrev ob90 (P : Params) : Obj:=⟨(.type "tuple"),.none,(.seq (List.toArray [(.str qn28 288),(.str qn3 289),(.str qn32 290),(.str qn38 291)]) 0),(List.toArray [])⟩
noncomputable abbrev ob91 (P : Params) : Obj:=⟨(.type "tuple"),.none,(.seq (List.toArray []) 0),(List.toArray [])⟩
noncomputable abbrev ob92 (P : Params) : Obj:=⟨.none,.none,(.func qf137),(List.toArray [])⟩
noncomputable abbrev ob93 (P : Params) : Obj:=⟨(.type "code"),.none,(.fields (List.toArray [(.str qn137 285),(.str qn137 286),(.str qn219 287),(.int 36 0),(.int 1 0),(.int 0 0),(.int 0 0),(.int 3 0),(.ref 88),(.bool true),(.int 181 0),(.ref 89),.none,(.ref 90),(.ref 91),(.ref 92),(.int 292 0),(.int 36 0),(.str qn219 293)])),(List.toArray [])⟩
noncomputable abbrev ob94 (P : Params) : Obj:=⟨(.type "function"),.none,(.func qf152),(List.toArray [])⟩
noncomputable abbrev ob95 (P : Params) : Obj:=⟨(.type "tuple"),.none,(.seq (List.toArray []) 0),(List.toArray [])⟩
noncomputable abbrev ob96 (P : Params) : Obj:=⟨.none,.none,(.fields (List.toArray [])),(List.toArray [])⟩
noncomputable abbrev ob97 (P : Params) : Obj:=⟨(.type "tuple"),.none,(.seq (List.toArray [(.str qn45 300),(.str qn1 301),(.str qn46 302)]) 0),(List.toArray [])⟩
noncomputable abbrev ob98 (P : Params) : Obj:=⟨(.type "tuple"),.none,(.seq (List.toArray []) 0),(List.toArray [])⟩
noncomputable abbrev ob99 (P : Params) : Obj:=⟨.none,.none,(.func qf101),(List.toArray [])⟩
noncomputable abbrev ob100 (P : Params) : Obj:=⟨(.type "code"),.none,(.fields (List.toArray [(.str qn49 297),(.str qn49 298),(.str qn219 299),(.int 53 0),(.int 2 0),(.int 0 0),(.int 0 0),(.int 3 0),(.ref 95),(.bool true),(.int 181 0),(.ref 96),.none,(.ref 97),(.ref 98),(.ref 99),(.int 303 0),(.int 53 0),(.str qn219 304)])),(List.toArray [])⟩
noncomputable abbrev ob101 (P : Params) : Obj:=⟨(.type "function"),.none,(.func qf115),(List.toArray [])⟩
noncomputable abbrev ob102 (P : Params) : Obj:=⟨(.type "tuple"),.none,(.seq (List.toArray []) 0),(List.toArray [])⟩
noncomputable abbrev ob103 (P : Params) : Obj:=⟨.none,.none,(.fields (List.toArray [])),(List.toArray [])⟩
noncomputable abbrev ob104 (P : Params) : Obj:=⟨(.type "tuple"),.none,(.seq (List.toArray [(.str qn45 309),(.str qn1 310),(.str qn0 311)]) 0),(List.toArray [])⟩
noncomputable abbrev ob105 (P : Params) : Obj:=⟨(.type "tuple"),.none,(.seq (List.toArray []) 0),(List.toArray [])⟩
noncomputable abbrev ob106 (P : Params) : Obj:=⟨.none,.none,(.func qf144),(List.toArray [])⟩
noncomputable abbrev ob107 (P : Params) : Obj:=⟨(.type "code"),.none,(.fields (List.toArray [(.str qn51 306),(.str qn51 307),(.str qn219 308),(.int 74 0),(.int 2 0),(.int 0 0),(.int 0 0),(.int 3 0),(.ref 102),(.bool true),(.int 181 0),(.ref 103),.none,(.ref 104),(.ref 105),(.ref 106),(.int 312 0),(.int 74 0),(.str qn219 313)])),(List.toArray [])⟩
noncomputable abbrev ob108 (P : Params) : Obj:=⟨(.type "function"),.none,(.func qf136),(List.toArray [])⟩
noncomputable abbrev ob109 (P : Params) : Obj:=⟨(.type "tuple"),.none,(.seq (List.toArray []) 0),(List.toArray [])⟩
noncomputable abbrev ob110 (P : Params) : Obj:=⟨.none,.none,(.fields (List.toArray [])),(List.toArray [])⟩
noncomputable abbrev ob111 (P : Params) : Obj:=⟨(.type "tuple"),.none,(.seq (List.toArray [(.str qn50 318),(.str qn53 319),(.str qn55 320),(.str qn57 321),(.str qn59 322),(.str qn60 323)]) 0),(List.toArray [])⟩
noncomputable abbrev ob112 (P : Params) : Obj:=⟨(.type "tuple"),.none,(.seq (List.toArray []) 0),(List.toArray [])⟩
noncomputable abbrev ob113 (P : Params) : Obj:=⟨.none,.none,(.func qf110),(List.toArray [])⟩
noncomputable abbrev ob114 (P : Params) : Obj:=⟨(.type "code"),.none,(.fields (List.toArray [(.str qn52 315),(.str qn52 316),(.str qn219 317),(.int 79 0),(.int 1 0),(.int 0 0),(.int 0 0),(.int 3 0),(.ref 109),(.bool true),(.int 181 0),(.ref 110),.none,(.ref 111),(.ref 112),(.ref 113),(.int 324 0),(.int 79 0),(.str qn219 325)])),(List.toArray [])⟩
noncomputable abbrev ob115 (P : Params) : Obj:=⟨(.type "function"),.none,(.func qf102),(List.toArray [])⟩
noncomputable abbrev ob116 (P : Params) : Obj:=⟨(.type "tuple"),.none,(.seq (List.toArray []) 0),(List.toArray [])⟩
noncomputable abbrev ob117 (P : Params) : Obj:=⟨.none,.none,(.fields (List.toArray [])),(List.toArray [])⟩
noncomputable abbrev ob118 (P : Params) : Obj:=⟨(.type "tuple"),.none,(.seq (List.toArray [(.str qn45 330),(.str qn61 331),(.str qn62 332),(.str qn63 333),(.str qn64 334),(.str qn1 335),(.str qn0 336)]) 0),(List.toArray [])⟩
noncomputable abbrev ob119 (P : Params) : Obj:=⟨(.type "tuple"),.none,(.seq (List.toArray []) 0),(List.toArray [])⟩
noncomputable abbrev ob120 (P : Params) : Obj:=⟨.none,.none,(.func qf129),(List.toArray [])⟩
noncomputable abbrev ob121 (P : Params) : Obj:=⟨(.type "code"),.none,(.fields (List.toArray [(.str qn85 327),(.str qn85 328),(.str qn219 329),(.int 92 0),(.int 5 0),(.int 0 0),(.int 0 0),(.int 3 0),(.ref 116),(.bool true),(.int 181 0),(.ref 117),.none,(.ref 118),(.ref 119),(.ref 120),(.int 337 0),(.int 92 0),(.str qn219 338)])),(List.toArray [])⟩
noncomputable abbrev ob122 (P : Params) : Obj:=⟨(.type "function"),.none,(.func qf146),(List.toArray [])⟩
noncomputable abbrev ob123 (P : Params) : Obj:=⟨(.type "tuple"),.none,(.seq (List.toArray []) 0),(List.toArray [])⟩
noncomputable abbrev ob124 (P : Params) : Obj:=⟨.none,.none,(.fields (List.toArray [])),(List.toArray [])⟩
noncomputable abbrev ob125 (P : Params) : Obj:=⟨(.type "tuple"),.none,(.seq (List.toArray [(.str qn66 343)]) 0),(List.toArray [])⟩
noncomputable abbrev ob126 (P : Params) : Obj:=⟨(.type "tuple"),.none,(.seq (List.toArray []) 0),(List.toArray [])⟩
noncomputable abbrev ob127 (P : Params) : Obj:=⟨.none,.none,(.func qf92),(List.toArray [])⟩
noncomputable abbrev ob128 (P : Params) : Obj:=⟨(.type "code"),.none,(.fields (List.toArray [(.str qn68 340),(.str qn68 341),(.str qn219 342),(.int 103 0),(.int 1 0),(.int 0 0),(.int 0 0),(.int 3 0),(.ref 123),(.bool true),(.int 181 0),(.ref 124),.none,(.ref 125),(.ref 126),(.ref 127),(.int 344 0),(.int 103 0),(.str qn219 345)])),(List.toArray [])⟩
noncomputable abbrev ob129 (P : Params) : Obj:=⟨(.type "function"),.none,(.func qf108),(List.toArray [])⟩
noncomputable abbrev ob130 (P : Params) : Obj:=⟨(.type "tuple"),.none,(.seq (List.toArray []) 0),(List.toArray [])⟩
noncomputable abbrev ob131 (P : Params) : Obj:=⟨.none,.none,(.fields (List.toArray [])),(List.toArray [])⟩
noncomputable abbrev ob132 (P : Params) : Obj:=⟨(.type "tuple"),.none,(.seq (List.toArray [(.str qn50 350),(.str qn53 351),(.str qn67 352)]) 0),(List.toArray [])⟩
noncomputable abbrev ob133 (P : Params) : Obj:=⟨(.type "tuple"),.none,(.seq (List.toArray []) 0),(List.toArray [])⟩
noncomputable abbrev ob134 (P : Params) : Obj:=⟨.none,.none,(.func qf147),(List.toArray [])⟩
noncomputable abbrev ob135 (P : Params) : Obj:=⟨(.type "code"),.none,(.fields (List.toArray [(.str qn76 347),(.str qn76 348),(.str qn219 349),(.int 105 0),(.int 1 0),(.int 0 0),(.int 0 0),(.int 3 0),(.ref 130),(.bool true),(.int 181 0),(.ref 131),.none,(.ref 132),(.ref 133),(.ref 134),(.int 353 0),(.int 105 0),(.str qn219 354)])),(List.toArray [])⟩
noncomputable abbrev ob136 (P : Params) : Obj:=⟨(.type "function"),.none,(.func qf126),(List.toArray [])⟩
noncomputable abbrev ob137 (P : Params) : Obj:=⟨(.type "tuple"),.none,(.seq (List.toArray []) 0),(List.toArray [])⟩
noncomputable abbrev ob138 (P : Params) : Obj:=⟨.none,.none,(.fields (List.toArray [])),(List.toArray [])⟩
noncomputable abbrev ob139 (P : Params) : Obj:=⟨(.type "tuple"),.none,(.seq (List.toArray [(.str qn50 359),(.str qn70 360)]) 0),(List.toArray [])⟩
noncomputable abbrev ob140 (P : Params) : Obj:=⟨(.type "tuple"),.none,(.seq (List.toArray []) 0),(List.toArray [])⟩
noncomputable abbrev ob141 (P : Params) : Obj:=⟨.none,.none,(.func qf118),(List.toArray [])⟩
noncomputable abbrev ob142 (P : Params) : Obj:=⟨(.type "code"),.none,(.fields (List.toArray [(.str qn69 356),(.str qn69 357),(.str qn219 358),(.int 114 0),(.int 1 0),(.int 0 0),(.int 0 0),(.int 3 0),(.ref 137),(.bool true),(.int 181 0),(.ref 138),.none,(.ref 139),(.ref 140),(.ref 141),(.int 361 0),(.int 114 0),(.str qn219 362)])),(List.toArray [])⟩
noncomputable abbrev ob143 (P : Params) : Obj:=⟨(.type "function"),.none,(.func qf94),(List.toArray [])⟩
noncomputable abbrev ob144 (P : Params) : Obj:=⟨(.type "tuple"),.none,(.seq (List.toArray []) 0),(List.toArray [])⟩
noncomputable abbrev ob145 (P : Params) : Obj:=⟨.none,.none,(.fields (List.toArray [])),(List.toArray [])⟩
noncomputable abbrev ob146 (P : Params) : Obj:=⟨(.type "tuple"),.none,(.seq (List.toArray [(.str qn28 367),(.str qn53 368),(.str qn71 369),(.str qn72 370),(.str qn74 371),(.str qn75 372),(.str qn77 373),(.str qn79 374),(.str qn80 375)]) 0),(List.toArray [])⟩
noncomputable abbrev ob147 (P : Params) : Obj:=⟨(.type "tuple"),.none,(.seq (List.toArray []) 0),(List.toArray [])⟩
noncomputable abbrev ob148 (P : Params) : Obj:=⟨.none,.none,(.func qf133),(List.toArray [])⟩
noncomputable abbrev ob149 (P : Params) : Obj:=⟨(.type "code"),.none,(.fields (List.toArray [(.str qn84 364),(.str qn84 365),(.str qn219 366),(.int 118 0),(.int 1 0),(.int 0 0),(.int 0 0),(.int 3 0),(.ref 144),(.bool true),(.int 181 0),(.ref 145),.none,(.ref 146),(.ref 147),(.ref 148),(.int 376 0),(.int 118 0),(.str qn219 377)])),(List.toArray [])⟩
noncomputable abbrev ob150 (P : Params) : Obj:=⟨(.type "function"),.none,(.func qf150),(List.toArray [])⟩
noncomputable abbrev ob151 (P : Params) : Obj:=⟨(.type "tuple"),.none,(.seq (List.toArray []) 0),(List.toArray [])⟩
noncomputable abbrev ob152 (P : Params) : Obj:=⟨.none,.none,(.fields (List.toArray [])),(List.toArray [])⟩
noncomputable abbrev ob153 (P : Params) : Obj:=⟨(.type "tuple"),.none,(.seq (List.toArray [(.str qn63 382),(.str qn64 383)]) 0),(List.toArray [])⟩
noncomputable abbrev ob154 (P : Params) : Obj:=⟨(.type "tuple"),.none,(.seq (List.toArray []) 0),(List.toArray [])⟩
noncomputable abbrev ob155 (P : Params) : Obj:=⟨.none,.none,(.func qf106),(List.toArray [])⟩
noncomputable abbrev ob156 (P : Params) : Obj:=⟨(.type "code"),.none,(.fields (List.toArray [(.str qn86 379),(.str qn86 380),(.str qn219 381),(.int 139 0),(.int 0 0),(.int 0 0),(.int 0 0),(.int 15 0),(.ref 151),(.bool true),(.int 181 0),(.ref 152),.none,(.ref 153),(.ref 154),(.ref 155),(.int 384 0),(.int 139 0),(.str qn219 385)])),(List.toArray [])⟩
noncomputable abbrev ob157 (P : Params) : Obj:=⟨(.type "function"),.none,(.func qf121),(List.toArray [])⟩
noncomputable abbrev ob158 (P : Params) : Obj:=⟨(.type "tuple"),.none,(.seq (List.toArray []) 0),(List.toArray [])⟩
noncomputable abbrev ob159 (P : Params) : Obj:=⟨(.type "builtin_function_or_method"),.none,(.fields (List.toArray [(.builtin "type.__prepare__"),(.type "type")])),(List.toArray [])⟩
noncomputable abbrev ob160 (P : Params) : Obj:=⟨(.type "dict"),.none,(.dict (List.toArray [⟨(PySem.PyData.keyHash P qn107),(.str qn107 396),(.str qn207 387)⟩,⟨(PySem.PyData.keyHash P qn221),(.str qn221 398),(.str qn184 397)⟩,⟨(PySem.PyData.keyHash P qn222),(.str qn222 400),(.int 142 399)⟩,⟨(PySem.PyData.keyHash P qn111),(.str qn111 406),(.ref 170)⟩,⟨(PySem.PyData.keyHash P qn187),(.str qn187 417),(.ref 177)⟩,⟨(PySem.PyData.keyHash P qn223),(.str qn223 421),(.ref 178)⟩]) 6),(List.toArray [])⟩
noncomputable abbrev ob161 (P : Params) : Obj:=⟨(.type "tuple"),.none,(.seq (List.toArray []) 0),(List.toArray [])⟩
noncomputable abbrev ob162 (P : Params) : Obj:=⟨.none,.none,(.fields (List.toArray [(.int 144 0),(.int 4 0),(.ref 169),(.int 149 0),(.int 4 0),(.ref 176)])),(List.toArray [])⟩
noncomputable abbrev ob163 (P : Params) : Obj:=⟨(.type "code"),.none,(.fields (List.toArray [(.str qn184 391),(.str qn184 392),(.str qn219 393),(.int 142 0),(.int 0 0),(.int 0 0),(.int 0 0),(.int 0 0),(.ref 161),(.bool false),(.int 181 0),(.ref 162),.none,.none,.none,.none,(.int 394 0),(.int 142 0),(.str qn219 395)])),(List.toArray [])⟩
noncomputable abbrev ob164 (P : Params) : Obj:=⟨(.type "frame"),.none,.plain,(List.toArray [(.some (.ref 163)),(.some (.ref 3)),(.some (.ref 160)),.none,(.some (.str qn207 387)),.none,(.some (.ref 0))])⟩
noncomputable abbrev ob165 (P : Params) : Obj:=⟨(.type "tuple"),.none,(.seq (List.toArray [.none,.none]) 0),(List.toArray [])⟩
noncomputable abbrev ob166 (P : Params) : Obj:=⟨(.type "tuple"),.none,(.seq (List.toArray []) 0),(List.toArray [])⟩
noncomputable abbrev ob167 (P : Params) : Obj:=⟨.none,.none,(.fields (List.toArray [])),(List.toArray [])⟩
noncomputable abbrev ob168 (P : Params) : Obj:=⟨.none,.none,(.func qf128),(List.toArray [])⟩
noncomputable abbrev ob169 (P : Params) : Obj:=⟨(.type "code"),.none,(.fields (List.toArray [(.str qn111 401),(.str qn231 402),(.str qn219 403),(.int 144 0),(.int 3 0),(.int 0 0),(.int 0 0),(.int 3 0),(.ref 166),(.bool true),(.int 181 0),(.ref 167),.none,.none,.none,(.ref 168),(.int 404 0),(.int 144 0),(.str qn219 405)])),(List.toArray [])⟩
noncomputable abbrev ob170 (P : Params) : Obj:=⟨(.type "function"),.none,(.func qf145),(List.toArray [])⟩
noncomputable abbrev ob171 (P : Params) : Obj:=⟨(.type "tuple"),.none,(.seq (List.toArray []) 0),(List.toArray [])⟩
noncomputable abbrev ob172 (P : Params) : Obj:=⟨.none,.none,(.fields (List.toArray [])),(List.toArray [])⟩
noncomputable abbrev ob173 (P : Params) : Obj:=⟨(.type "tuple"),.none,(.seq (List.toArray [(.str qn88 410),(.str qn98 411),(.str qn99 412),(.str qn100 413),(.str qn93 414)]) 0),(List.toArray [])⟩
noncomputable abbrev ob174 (P : Params) : Obj:=⟨(.type "tuple"),.none,(.seq (List.toArray []) 0),(List.toArray [])⟩
noncomputable abbrev ob175 (P : Params) : Obj:=⟨.none,.none,(.func qf96),(List.toArray [])⟩
noncomputable abbrev ob176 (P : Params) : Obj:=⟨(.type "code"),.none,(.fields (List.toArray [(.str qn187 407),(.str qn224 408),(.str qn219 409),(.int 149 0),(.int 3 0),(.int 0 0),(.int 0 0),(.int 3 0),(.ref 171),(.bool true),(.int 181 0),(.ref 172),.none,(.ref 173),(.ref 174),(.ref 175),(.int 415 0),(.int 149 0),(.str qn219 416)])),(List.toArray [])⟩
noncomputable abbrev ob177 (P : Params) : Obj:=⟨(.type "function"),.none,(.func qf111),(List.toArray [])⟩
noncomputable abbrev ob178 (P : Params) : Obj:=⟨(.type "tuple"),.none,(.seq (List.toArray [(.str qn92 418),(.str qn95 419),(.str qn91 420)]) 0),(List.toArray [])⟩
noncomputable abbrev ob179 (P : Params) : Obj:=⟨(.type "dict"),.none,(.dict (List.toArray [⟨(PySem.PyData.keyHash P qn107),(.str qn107 396),(.str qn207 387)⟩,⟨(PySem.PyData.keyHash P qn222),(.str qn222 400),(.int 142 399)⟩,⟨(PySem.PyData.keyHash P qn111),(.str qn111 406),(.ref 170)⟩,⟨(PySem.PyData.keyHash P qn187),(.str qn187 417),(.ref 177)⟩,⟨(PySem.PyData.keyHash P qn223),(.str qn223 421),(.ref 178)⟩,⟨(PySem.PyData.keyHash P qn226),(.str qn226 423),(.ref 181)⟩,⟨(PySem.PyData.keyHash P qn227),(.str qn227 425),(.ref 182)⟩,⟨(PySem.PyData.keyHash P qn212),(.str qn212 426),.none⟩]) 4),(List.toArray [])⟩
noncomputable abbrev ob180 (P : Params) : Obj:=⟨(.type "type"),.none,(.cls ⟨qn184,[(.type "object")],[(.ref 180),(.type "object")],179,qn184,true,[],[],false,.none,false⟩),(List.toArray [.none,.none,(.some (.str qn184 389)),(.some (.str qn184 397)),(.some (.builtin "object.__new__")),(.some (.bool true))])⟩
noncomputable abbrev ob181 (P : Params) : Obj:=⟨(.type "getset_descriptor"),.none,(.fields (List.toArray [(.str qn226 422),(.ref 180),(.builtin "function.__dict__"),(.builtin "function.__dict__#set")])),(List.toArray [])⟩
noncomputable abbrev ob182 (P : Params) : Obj:=⟨(.type "getset_descriptor"),.none,(.fields (List.toArray [(.str qn227 424),(.ref 180),(.builtin "ExceptionGroup.__weakref__"),.none])),(List.toArray [])⟩
noncomputable abbrev ob183 (P : Params) : Obj:=⟨(.type "super"),.none,(.fields (List.toArray [(.ref 180),(.ref 180),(.ref 180)])),(List.toArray [])⟩
noncomputable abbrev ob184 (P : Params) : Obj:=⟨(.type "builtin_function_or_method"),.none,(.fields (List.toArray [(.builtin "object.__init_subclass__"),(.ref 180)])),(List.toArray [])⟩
noncomputable abbrev ob185 (P : Params) : Obj:=⟨(.type "tuple"),.none,(.seq (List.toArray []) 0),(List.toArray [])⟩
noncomputable abbrev ob186 (P : Params) : Obj:=⟨.none,.none,(.fields (List.toArray [])),(List.toArray [])⟩
noncomputable abbrev ob187 (P : Params) : Obj:=⟨(.type "tuple"),.none,(.seq (List.toArray [(.str qn28 432),(.str qn102 433),(.str qn98 434),(.str qn103 435)]) 0),(List.toArray [])⟩
noncomputable abbrev ob188 (P : Params) : Obj:=⟨(.type "tuple"),.none,(.seq (List.toArray []) 0),(List.toArray [])⟩
noncomputable abbrev ob189 (P : Params) : Obj:=⟨.none,.none,(.func qf123),(List.toArray [])⟩
noncomputable abbrev ob190 (P : Params) : Obj:=⟨(.type "code"),.none,(.fields (List.toArray [(.str qn188 429),(.str qn188 430),(.str qn219 431),(.int 168 0),(.int 1 0),(.int 0 0),(.int 0 0),(.int 3 0),(.ref 185),(.bool true),(.int 181 0),(.ref 186),.none,(.ref 187),(.ref 188),(.ref 189),(.int 436 0),(.int 168 0),(.str qn219 437)])),(List.toArray [])⟩
noncomputable abbrev ob191 (P : Params) : Obj:=⟨(.type "function"),.none,(.func qf93),(List.toArray [])⟩
noncomputable abbrev ob192 (P : Params) : Obj:=⟨(.type "tuple"),.none,(.seq (List.toArray []) 0),(List.toArray [])⟩
noncomputable abbrev ob193 (P : Params) : Obj:=⟨.none,.none,(.fields (List.toArray [])),(List.toArray [])⟩
noncomputable abbrev ob194 (P : Params) : Obj:=⟨(.type "tuple"),.none,(.seq (List.toArray [(.str qn104 444),(.str qn105 445)]) 0),(List.toArray [])⟩
noncomputable abbrev ob195 (P : Params) : Obj:=⟨(.type "tuple"),.none,(.seq (List.toArray [(.str qn104 446)]) 0),(List.toArray [])⟩
noncomputable abbrev ob196 (P : Params) : Obj:=⟨.none,.none,(.func qf131),(List.toArray [])⟩
noncomputable abbrev ob197 (P : Params) : Obj:=⟨(.type "code"),.none,(.fields (List.toArray [(.str qn195 441),(.str qn195 442),(.str qn219 443),(.int 173 0),(.int 1 0),(.int 0 0),(.int 0 0),(.int 3 0),(.ref 192),(.bool true),(.int 181 0),(.ref 193),.none,(.ref 194),(.ref 195),(.ref 196),(.int 447 0),(.int 173 0),(.str qn219 448)])),(List.toArray [])⟩
noncomputable abbrev ob198 (P : Params) : Obj:=⟨(.type "function"),.none,(.func qf149),(List.toArray [])⟩
noncomputable abbrev ob199 (P : Params) : Obj:=⟨(.type "object"),.none,.plain,(List.toArray [])⟩
noncomputable abbrev ob200 (P : Params) : Obj:=⟨(.type "tuple"),.none,(.seq (List.toArray [(.ref 199)]) 0),(List.toArray [])⟩
noncomputable abbrev ob201 (P : Params) : Obj:=⟨(.type "tuple"),.none,(.seq (List.toArray []) 0),(List.toArray [])⟩
noncomputable abbrev ob202 (P : Params) : Obj:=⟨.none,.none,(.fields (List.toArray [])),(List.toArray [])⟩
noncomputable abbrev ob203 (P : Params) : Obj:=⟨(.type "tuple"),.none,(.seq (List.toArray [(.str qn119 454),(.str qn120 455),(.str qn121 456),(.str qn123 457),(.str qn125 458),(.str qn129 459)]) 0),(List.toArray [])⟩
noncomputable abbrev ob204 (P : Params) : Obj:=⟨(.type "tuple"),.none,(.seq (List.toArray []) 0),(List.toArray [])⟩
noncomputable abbrev ob205 (P : Params) : Obj:=⟨.none,.none,(.func qf119),(List.toArray [])⟩
noncomputable abbrev ob206 (P : Params) : Obj:=⟨(.type "code"),.none,(.fields (List.toArray [(.str qn191 451),(.str qn191 452),(.str qn219 453),(.int 199 0),(.int 3 0),(.int 0 0),(.int 0 0),(.int 3 0),(.ref 201),(.bool true),(.int 181 0),(.ref 202),.none,(.ref 203),(.ref 204),(.ref 205),(.int 460 0),(.int 199 0),(.str qn219 461)])),(List.toArray [])⟩
noncomputable abbrev ob207 (P : Params) : Obj:=⟨(.type "function"),.none,(.func qf95),(List.toArray [])⟩
noncomputable abbrev ob208 (P : Params) : Obj:=⟨(.type "tuple"),.none,(.seq (List.toArray []) 0),(List.toArray [])⟩
noncomputable abbrev ob209 (P : Params) : Obj:=⟨.none,.none,(.fields (List.toArray [])),(List.toArray [])⟩
noncomputable abbrev ob210 (P : Params) : Obj:=⟨(.type "tuple"),.none,(.seq (List.toArray [(.str qn130 468),(.str qn63 469),(.str qn131 470),(.str qn132 471),(.str qn66 472)]) 0),(List.toArray [])⟩
noncomputable abbrev ob211 (P : Params) : Obj:=⟨(.type "tuple"),.none,(.seq (List.toArray []) 0),(List.toArray [])⟩
noncomputable abbrev ob212 (P : Params) : Obj:=⟨.none,.none,(.func qf134),(List.toArray [])⟩
noncomputable abbrev ob213 (P : Params) : Obj:=⟨(.type "code"),.none,(.fields (List.toArray [(.str qn143 465),(.str qn143 466),(.str qn219 467),(.int 212 0),(.int 1 0),(.int 0 0),(.int 0 0),(.int 7 0),(.ref 208),(.bool true),(.int 181 0),(.ref 209),.none,(.ref 210),(.ref 211),(.ref 212),(.int 473 0),(.int 212 0),(.str qn219 474)])),(List.toArray [])⟩
noncomputable abbrev ob214 (P : Params) : Obj:=⟨(.type "function"),.none,(.func qf151),(List.toArray [])⟩
noncomputable abbrev ob215 (P : Params) : Obj:=⟨(.type "tuple"),.none,(.seq (List.toArray []) 0),(List.toArray [])⟩
noncomputable abbrev ob216 (P : Params) : Obj:=⟨.none,.none,(.fields (List.toArray [])),(List.toArray [])⟩
noncomputable abbrev ob217 (P : Params) : Obj:=⟨(.type "tuple"),.none,(.seq (List.toArray [(.str qn28 481)]) 0),(List.toArray [])⟩
noncomputable abbrev ob218 (P : Params) : Obj:=⟨(.type "tuple"),.none,(.seq (List.toArray []) 0),(List.toArray [])⟩
noncomputable abbrev ob219 (P : Params) : Obj:=⟨.none,.none,(.func qf107),(List.toArray [])⟩
noncomputable abbrev ob220 (P : Params) : Obj:=⟨(.type "code"),.none,(.fields (List.toArray [(.str qn138 478),(.str qn138 479),(.str qn219 480),(.int 224 0),(.int 1 0),(.int 0 0),(.int 0 0),(.int 3 0),(.ref 215),(.bool true),(.int 181 0),(.ref 216),.none,(.ref 217),(.ref 218),(.ref 219),(.int 482 0),(.int 224 0),(.str qn219 483)])),(List.toArray [])⟩
noncomputable abbrev ob221 (P : Params) : Obj:=⟨(.type "function"),.none,(.func qf122),(List.toArray [])⟩
noncomputable abbrev ob222 (P : Params) : Obj:=⟨(.type "tuple"),.none,(.seq (List.toArray []) 0),(List.toArray [])⟩
noncomputable abbrev ob223 (P : Params) : Obj:=⟨.none,.none,(.fields (List.toArray [])),(List.toArray [])⟩
noncomputable abbrev ob224 (P : Params) : Obj:=⟨(.type "tuple"),.none,(.seq (List.toArray [(.str qn136 488),(.str qn50 489),(.str qn53 490),(.str qn28 491),(.str qn139 492)]) 0),(List.toArray [])⟩
noncomputable abbrev ob225 (P : Params) : Obj:=⟨(.type "tuple"),.none,(.seq (List.toArray []) 0),(List.toArray [])⟩
noncomputable abbrev ob226 (P : Params) : Obj:=⟨.none,.none,(.func qf140),(List.toArray [])⟩
noncomputable abbrev ob227 (P : Params) : Obj:=⟨(.type "code"),.none,(.fields (List.toArray [(.str qn83 485),(.str qn83 486),(.str qn219 487),(.int 229 0),(.int 1 0),(.int 0 0),(.int 0 0),(.int 7 0),(.ref 222),(.bool true),(.int 181 0),(.ref 223),.none,(.ref 224),(.ref 225),(.ref 226),(.int 493 0),(.int 229 0),(.str qn219 494)])),(List.toArray [])⟩
noncomputable abbrev ob228 (P : Params) : Obj:=⟨(.type "function"),.none,(.func qf132),(List.toArray [])⟩
noncomputable abbrev ob229 (P : Params) : Obj:=⟨(.type "tuple"),.none,(.seq (List.toArray []) 0),(List.toArray [])⟩
noncomputable abbrev ob230 (P : Params) : Obj:=⟨.none,.none,(.fields (List.toArray [])),(List.toArray [])⟩
noncomputable abbrev ob231 (P : Params) : Obj:=⟨(.type "tuple"),.none,(.seq (List.toArray [(.str qn50 499),(.str qn53 500),(.str qn70 501),(.str qn144 502)]) 0),(List.toArray [])⟩
noncomputable abbrev ob232 (P : Params) : Obj:=⟨(.type "tuple"),.none,(.seq (List.toArray []) 0),(List.toArray [])⟩
noncomputable abbrev ob233 (P : Params) : Obj:=⟨.none,.none,(.func qf113),(List.toArray [])⟩
noncomputable abbrev ob234 (P : Params) : Obj:=⟨(.type "code"),.none,(.fields (List.toArray [(.str qn152 496),(.str qn152 497),(.str qn219 498),(.int 246 0),(.int 1 0),(.int 0 0),(.int 0 0),(.int 3 0),(.ref 229),(.bool true),(.int 181 0),(.ref 230),.none,(.ref 231),(.ref 232),(.ref 233),(.int 503 0),(.int 246 0),(.str qn219 504)])),(List.toArray [])⟩
noncomputable abbrev ob235 (P : Params) : Obj:=⟨(.type "function"),.none,(.func qf104),(List.toArray [])⟩
noncomputable abbrev ob236 (P : Params) : Obj:=⟨(.type "tuple"),.none,(.seq (List.toArray []) 0),(List.toArray [])⟩
noncomputable abbrev ob237 (P : Params) : Obj:=⟨.none,.none,(.fields (List.toArray [])),(List.toArray [])⟩
noncomputable abbrev ob238 (P : Params) : Obj:=⟨(.type "tuple"),.none,(.seq (List.toArray [(.str qn146 511),(.str qn113 512)]) 0),(List.toArray [])⟩
noncomputable abbrev ob239 (P : Params) : Obj:=⟨(.type "tuple"),.none,(.seq (List.toArray []) 0),(List.toArray [])⟩
noncomputable abbrev ob240 (P : Params) : Obj:=⟨.none,.none,(.func qf124),(List.toArray [])⟩
noncomputable abbrev ob241 (P : Params) : Obj:=⟨(.type "code"),.none,(.fields (List.toArray [(.str qn196 508),(.str qn196 509),(.str qn219 510),(.int 255 0),(.int 2 0),(.int 0 0),(.int 0 0),(.int 3 0),(.ref 236),(.bool true),(.int 181 0),(.ref 237),.none,(.ref 238),(.ref 239),(.ref 240),(.int 513 0),(.int 255 0),(.str qn219 514)])),(List.toArray [])⟩
noncomputable abbrev ob242 (P : Params) : Obj:=⟨(.type "function"),.none,(.func qf141),(List.toArray [])⟩
noncomputable abbrev ob243 (P : Params) : Obj:=⟨(.type "tuple"),.none,(.seq (List.toArray []) 0),(List.toArray [])⟩
noncomputable abbrev ob244 (P : Params) : Obj:=⟨.none,.none,(.fields (List.toArray [])),(List.toArray [])⟩
noncomputable abbrev ob245 (P : Params) : Obj:=⟨.none,.none,(.func qf117),(List.toArray [])⟩
noncomputable abbrev ob246 (P : Params) : Obj:=⟨(.type "code"),.none,(.fields (List.toArray [(.str qn192 516),(.str qn192 517),(.str qn219 518),(.int 257 0),(.int 2 0),(.int 0 0),(.int 0 0),(.int 3 0),(.ref 243),(.bool true),(.int 181 0),(.ref 244),.none,.none,.none,(.ref 245),(.int 519 0),(.int 257 0),(.str qn219 520)])),(List.toArray [])⟩
noncomputable abbrev ob247 (P : Params) : Obj:=⟨(.type "function"),.none,(.func qf98),(List.toArray [])⟩
noncomputable abbrev ob248 (P : Params) : Obj:=⟨(.type "tuple"),.none,(.seq (List.toArray []) 0),(List.toArray [])⟩
noncomputable abbrev ob249 (P : Params) : Obj:=⟨.none,.none,(.fields (List.toArray [])),(List.toArray [])⟩
noncomputable abbrev ob250 (P : Params) : Obj:=⟨(.type "tuple"),.none,(.seq (List.toArray [(.str qn158 525),(.str qn151 526),(.str qn159 527)]) 0),(List.toArray [])⟩
noncomputable abbrev ob251 (P : Params) : Obj:=⟨(.type "tuple"),.none,(.seq (List.toArray []) 0),(List.toArray [])⟩
noncomputable abbrev ob252 (P : Params) : Obj:=⟨.none,.none,(.func qf138),(List.toArray [])⟩
noncomputable abbrev ob253 (P : Params) : Obj:=⟨(.type "code"),.none,(.fields (List.toArray [(.str qn199 522),(.str qn199 523),(.str qn219 524),(.int 263 0),(.int 2 0),(.int 0 0),(.int 0 0),(.int 3 0),(.ref 248),(.bool true),(.int 181 0),(.ref 249),.none,(.ref 250),(.ref 251),(.ref 252),(.int 528 0),(.int 263 0),(.str qn219 529)])),(List.toArray [])⟩
noncomputable abbrev ob254 (P : Params) : Obj:=⟨(.type "function"),.none,(.func qf153),(List.toArray [])⟩
noncomputable abbrev ob255 (P : Params) : Obj:=⟨(.type "tuple"),.none,(.seq (List.toArray []) 0),(List.toArray [])⟩
noncomputable abbrev ob256 (P : Params) : Obj:=⟨.none,.none,(.fields (List.toArray [])),(List.toArray [])⟩
noncomputable abbrev ob257 (P : Params) : Obj:=⟨.none,.none,(.func qf109),(List.toArray [])⟩
noncomputable abbrev ob258 (P : Params) : Obj:=⟨(.type "code"),.none,(.fields (List.toArray [(.str qn198 531),(.str qn198 532),(.str qn219 533),(.int 270 0),(.int 2 0),(.int 0 0),(.int 0 0),(.int 3 0),(.ref 255),(.bool true),(.int 181 0),(.ref 256),.none,.none,.none,(.ref 257),(.int 534 0),(.int 270 0),(.str qn219 535)])),(List.toArray [])⟩
noncomputable abbrev ob259 (P : Params) : Obj:=⟨(.type "function"),.none,(.func qf100),(List.toArray [])⟩
noncomputable abbrev ob260 (P : Params) : Obj:=⟨(.type "tuple"),.none,(.seq (List.toArray []) 0),(List.toArray [])⟩
noncomputable abbrev ob261 (P : Params) : Obj:=⟨.none,.none,(.fields (List.toArray [])),(List.toArray [])⟩
noncomputable abbrev ob262 (P : Params) : Obj:=⟨.none,.none,(.func qf148),(List.toArray [])⟩
noncomputable abbrev ob263 (P : Params) : Obj:=⟨(.type "code"),.none,(.fields (List.toArray [(.str qn211 537),(.str qn211 538),(.str qn219 539),(.int 282 0),(.int 1 0),(.int 0 0),(.int 0 0),(.int 3 0),(.ref 260),(.bool true),(.int 181 0),(.ref 261),.none,.none,.none,(.ref 262),(.int 540 0),(.int 282 0),(.str qn219 541)])),(List.toArray [])⟩
noncomputable abbrev ob264 (P : Params) : Obj:=⟨(.type "function"),.none,(.func qf127),(List.toArray [])⟩
noncomputable abbrev os3 (P : Params) : Obj := (PySem.W.boot_o_3 P)
noncomputable abbrev os12 (P : Params) : Obj := ⟨.none, .none, (.fields (List.toArray [])), (List.toArray [])⟩
noncomputable abbrev treeF (P : Params) : BT:=(.node (ob0 P) (.node (ob1 P) (.node (ob3 P) (.node (ob7 P) (.node (ob15 P) (.node (ob31 P) (.node (ob63 P) (.node (ob127 P) (.node (ob255 P) .nil .nil) .nil) (.node (ob191 P) .nil .nil)) (.node (ob95 P) (.node (ob159 P) .nil .nil) (.node (ob223 P) .nil .nil))) (.node (ob47 P) (.node (ob79 P) (.node (ob143 P) .nil .nil) (.node (ob207 P) .nil .nil)) (.node (ob111 P) (.node (ob175 P) .nil .nil) (.node (ob239 P) .nil .nil)))) (.node (ob23 P) (.node (ob39 P) (.node (ob71 P) (.node (ob135 P) (.node (ob263 P) .nil .nil) .nil) (.node (ob199 P) .nil .nil)) (.node (ob103 P) (.node (ob167 P) .nil .nil) (.node (ob231 P) .nil .nil))) (.node (ob55 P) (.node (ob87 P) (.node (ob151 P) .nil .nil) (.node (ob215 P) .nil .nil)) (.node (ob119 P) (.node (ob183 P) .nil .nil) (.node (ob247 P) .nil .nil))))) (.node (ob11 P) (.node (ob19 P) (.node (ob35 P) (.node (ob67 P) (.node (ob131 P) (.node (ob259 P) .nil .nil) .nil) (.node (ob195 P) .nil .nil)) (.node (ob99 P) (.node (ob163 P) .nil .nil) (.node (ob227 P) .nil .nil))) (.node (ob51 P) (.node (ob83 P) (.node (ob147 P) .nil .nil) (.node (ob211 P) .nil .nil)) (.node (ob115 P) (.node (ob179 P) .nil .nil) (.node (ob243 P) .nil .nil)))) (.node (ob27 P) (.node (ob43 P) (.node (ob75 P) (.node (ob139 P) .nil .nil) (.node (ob203 P) .nil .nil)) (.node (ob107 P) (.node (ob171 P) .nil .nil) (.node (ob235 P) .nil .nil))) (.node (ob59 P) (.node (ob91 P) (.node (ob155 P) .nil .nil) (.node (ob219 P) .nil .nil)) (.node (ob123 P) (.node (ob187 P) .nil .nil) (.node (ob251 P) .nil .nil)))))) (.node (ob5 P) (.node (ob9 P) (.node (ob17 P) (.node (ob33 P) (.node (ob65 P) (.node (ob129 P) (.node (ob257 P) .nil .nil) .nil) (.node (ob193 P) .nil .nil)) (.node (ob97 P) (.node (ob161 P) .nil .nil) (.node (ob225 P) .nil .nil))) (.node (ob49 P) (.node (ob81 P) (.node (ob145 P) .nil .nil) (.node (ob209 P) .nil .nil)) (.node (ob113 P) (.node (ob177 P) .nil .nil) (.node (ob241 P) .nil .nil)))) (.node (ob25 P) (.node (ob41 P) (.node (ob73 P) (.node (ob137 P) .nil .nil) (.node (ob201 P) .nil .nil)) (.node (ob105 P) (.node (ob169 P) .nil .nil) (.node (ob233 P) .nil .nil))) (.node (ob57 P) (.node (ob89 P) (.node (ob153 P) .nil .nil) (.node (ob217 P) .nil .nil)) (.node (ob121 P) (.node (ob185 P) .nil .nil) (.node (ob249 P) .nil .nil))))) (.node (ob13 P) (.node (ob21 P) (.node (ob37 P) (.node (ob69 P) (.node (ob133 P) (.node (ob261 P) .nil .nil) .nil) (.node (ob197 P) .nil .nil)) (.node (ob101 P) (.node (ob165 P) .nil .nil) (.node (ob229 P) .nil .nil))) (.node (ob53 P) (.node (ob85 P) (.node (ob149 P) .nil .nil) (.node (ob213 P) .nil .nil)) (.node (ob117 P) (.node (ob181 P) .nil .nil) (.node (ob245 P) .nil .nil)))) (.node (ob29 P) (.node (ob45 P) (.node (ob77 P) (.node (ob141 P) .nil .nil) (.node (ob205 P) .nil .nil)) (.node (ob109 P) (.node (ob173 P) .nil .nil) (.node (ob237 P) .nil .nil))) (.node (ob61 P) (.node (ob93 P) (.node (ob157 P) .nil .nil) (.node (ob221 P) .nil .nil)) (.node (ob125 P) (.node (ob189 P) .nil .nil) (.node (ob253 P) .nil .nil))))))) (.node (ob2 P) (.node (ob4 P) (.node (ob8 P) (.node (ob16 P) (.node (ob32 P) (.node (ob64 P) (.node (ob128 P) (.node (ob256 P) .nil .nil) .nil) (.node (ob192 P) .nil .nil)) (.node (ob96 P) (.node (ob160 P) .nil .nil) (.node (ob224 P) .nil .nil))) (.node (ob48 P) (.node (ob80 P) (.node (ob144 P) .nil .nil) (.node (ob208 P) .nil .nil)) (.node (ob112 P) (.node (ob176 P) .nil .nil) (.node (ob240 P) .nil .nil)))) (.node (ob24 P) (.node (ob40 P) (.node (ob72 P) (.node (ob136 P) (.node (ob264 P) .nil .nil) .nil) (.node (ob200 P) .nil .nil)) (.node (ob104 P) (.node (ob168 P) .nil .nil) (.node (ob232 P) .nil .nil))) (.node (ob56 P) (.node (ob88 P) (.node (ob152 P) .nil .nil) (.node (ob216 P) .nil .nil)) (.node (ob120 P) (.node (ob184 P) .nil .nil) (.node (ob248 P) .nil .nil))))) (.node (ob12 P) (.node (ob20 P) (.node (ob36 P) (.node (ob68 P) (.node (ob132 P) (.node (ob260 P) .nil .nil) .nil) (.node (ob196 P) .nil .nil)) (.node (ob100 P) (.node (ob164 P) .nil .nil) (.node (ob228 P) .nil .nil))) (.node (ob52 P) (.node (ob84 P) (.node (ob148 P) .nil .nil) (.node (ob212 P) .nil .nil)) (.node (ob116 P) (.node (ob180 P) .nil .nil) (.node (ob244 P) .nil .nil)))) (.node (ob28 P) (.node (ob44 P) (.node (ob76 P) (.node (ob140 P) .nil .nil) (.node (ob204 P) .nil .nil)) (.node (ob108 P) (.node (ob172 P) .nil .nil) (.node (ob236 P) .nil .nil))) (.node (ob60 P) (.node (ob92 P) (.node (ob156 P) .nil .nil) (.node (ob220 P) .nil .nil)) (.node (ob124 P) (.node (ob188 P) .nil .nil) (.node (ob252 P) .nil .nil)))))) (.node (ob6 P) (.node (ob10 P) (.node (ob18 P) (.node (ob34 P) (.node (ob66 P) (.node (ob130 P) (.node (ob258 P) .nil .nil) .nil) (.node (ob194 P) .nil .nil)) (.node (ob98 P) (.node (ob162 P) .nil .nil) (.node (ob226 P) .nil .nil))) (.node (ob50 P) (.node (ob82 P) (.node (ob146 P) .nil .nil) (.node (ob210 P) .nil .nil)) (.node (ob114 P) (.node (ob178 P) .nil .nil) (.node (ob242 P) .nil .nil)))) (.node (ob26 P) (.node (ob42 P) (.node (ob74 P) (.node (ob138 P) .nil .nil) (.node (ob202 P) .nil .nil)) (.node (ob106 P) (.node (ob170 P) .nil .nil) (.node (ob234 P) .nil .nil))) (.node (ob58 P) (.node (ob90 P) (.node (ob154 P) .nil .nil) (.node (ob218 P) .nil .nil)) (.node (ob122 P) (.node (ob186 P) .nil .nil) (.node (ob250 P) .nil .nil))))) (.node (ob14 P) (.node (ob22 P) (.node (ob38 P) (.node (ob70 P) (.node (ob134 P) (.node (ob262 P) .nil .nil) .nil) (.node (ob198 P) .nil .nil)) (.node (ob102 P) (.node (ob166 P) .nil .nil) (.node (ob230 P) .nil .nil))) (.node (ob54 P) (.node (ob86 P) (.node (ob150 P) .nil .nil) (.node (ob214 P) .nil .nil)) (.node (ob118 P) (.node (ob182 P) .nil .nil) (.node (ob246 P) .nil .nil)))) (.node (ob30 P) (.node (ob46 P) (.node (ob78 P) (.node (ob142 P) .nil .nil) (.node (ob206 P) .nil .nil)) (.node (ob110 P) (.node (ob174 P) .nil .nil) (.node (ob238 P) .nil .nil))) (.node (ob62 P) (.node (ob94 P) (.node (ob158 P) .nil .nil) (.node (ob222 P) .nil .nil)) (.node (ob126 P) (.node (ob190 P) .nil .nil) (.node (ob254 P) .nil .nil))))))))
noncomputable abbrev treeS (P : Params) : BT:=(.node (ob0 P) (.node (ob1 P) (.node (os3 P) (.node (ob7 P) .nil .nil) (.node (ob11 P) .nil .nil)) (.node (ob5 P) (.node (ob9 P) .nil .nil) (.node (ob13 P) .nil .nil))) (.node (ob2 P) (.node (ob4 P) (.node (ob8 P) .nil .nil) (.node (os12 P) .nil .nil)) (.node (ob6 P) (.node (ob10 P) .nil .nil) (.node (ob14 P) .nil .nil))))
noncomputable def K1 (P : Params) : Frag:=(nat_lit 0,ob0 P)::(nat_lit 1,ob1 P)::(nat_lit 2,ob2 P)::(nat_lit 3,ob3 P)::(nat_lit 4,ob4 P)::(nat_lit 5,ob5 P)::(nat_lit 6,ob6 P)::(nat_lit 7,ob7 P)::(nat_lit 8,ob8 P)::(nat_lit 9,ob9 P)::(nat_lit 10,ob10 P)::(nat_lit 11,ob11 P)::(nat_lit 12,ob12 P)::(nat_lit 13,ob13 P)::(nat_lit 14,ob14 P)::(nat_lit 15,ob15 P)::(nat_lit 16,ob16 P)::(nat_lit 17,ob17 P)::(nat_lit 18,ob18 P)::(nat_lit 19,ob19 P)::(nat_lit 20,ob20 P)::(nat_lit 21,ob21 P)::(nat_lit 22,ob22 P)::(nat_lit 23,ob23 P)::(nat_lit 24,ob24 P)::(nat_lit 25,ob25 P)::(nat_lit 26,ob26 P)::(nat_lit 27,ob27 P)::(nat_lit 28,ob28 P)::(nat_lit 29,ob29 P)::(nat_lit 36,ob36 P)::(nat_lit 37,ob37 P)::(nat_lit 38,ob38 P)::(nat_lit 39,ob39 P)::(nat_lit 40,ob40 P)::(nat_lit 41,ob41 P)::(nat_lit 42,ob42 P)::(nat_lit 43,ob43 P)::(nat_lit 44,ob44 P)::(nat_lit 45,ob45 P)::(nat_lit 48,ob48 P)::(nat_lit 55,ob55 P)::(nat_lit 56,ob56 P)::(nat_lit 57,ob57 P)::(nat_lit 58,ob58 P)::(nat_lit 59,ob59 P)::(nat_lit 60,ob60 P)::(nat_lit 61,ob61 P)::(nat_lit 62,ob62 P)::(nat_lit 63,ob63 P)::(nat_lit 64,ob64 P)::(nat_lit 65,ob65 P)::(nat_lit 66,ob66 P)::(nat_lit 67,ob67 P)::(nat_lit 68,ob68 P)::(nat_lit 69,ob69 P)::(nat_lit 70,ob70 P)::(nat_lit 71,ob71 P)::(nat_lit 72,ob72 P)::(nat_lit 73,ob73 P)::(nat_lit 74,ob74 P)::(nat_lit 75,ob75 P)::(nat_lit 76,ob76 P)::(nat_lit 77,ob77 P)::(nat_lit 78,ob78 P)::(nat_lit 81,ob81 P)::(nat_lit 82,ob82 P)::(nat_lit 83,ob83 P)::(nat_lit 84,ob84 P)::(nat_lit 85,ob85 P)::(nat_lit 86,ob86 P)::(nat_lit 87,ob87 P)::(nat_lit 88,ob88 P)::(nat_lit 89,ob89 P)::(nat_lit 90,ob90 P)::(nat_lit 91,ob91 P)::(nat_lit 92,ob92 P)::(nat_lit 93,ob93 P)::(nat_lit 94,ob94 P)::(nat_lit 95,ob95 P)::(nat_lit 96,ob96 P)::(nat_lit 97,ob97 P)::(nat_lit 98,ob98 P)::(nat_lit 99,ob99 P)::(nat_lit 100,ob100 P)::(nat_lit 101,ob101 P)::(nat_lit 102,ob102 P)::(nat_lit 103,ob103 P)::(nat_lit 104,ob104 P)::(nat_lit 105,ob105 P)::(nat_lit 106,ob106 P)::(nat_lit 107,ob107 P)::(nat_lit 108,ob108 P)::(nat_lit 109,ob109 P)::(nat_lit 110,ob110 P)::(nat_lit 111,ob111 P)::(nat_lit 112,ob112 P)::(nat_lit 113,ob113 P)::(nat_lit 114,ob114 P)::(nat_lit 115,ob115 P)::(nat_lit 116,ob116 P)::(nat_lit 117,ob117 P)::(nat_lit 118,ob118 P)::(nat_lit 119,ob119 P)::(nat_lit 120,ob120 P)::(nat_lit 121,ob121 P)::(nat_lit 122,ob122 P)::(nat_lit 123,ob123 P)::(nat_lit 124,ob124 P)::(nat_lit 125,ob125 P)::(nat_lit 126,ob126 P)::(nat_lit 127,ob127 P)::(nat_lit 128,ob128 P)::(nat_lit 129,ob129 P)::(nat_lit 130,ob130 P)::(nat_lit 131,ob131 P)::(nat_lit 132,ob132 P)::(nat_lit 133,ob133 P)::(nat_lit 134,ob134 P)::(nat_lit 135,ob135 P)::(nat_lit 136,ob136 P)::(nat_lit 137,ob137 P)::(nat_lit 138,ob138 P)::(nat_lit 139,ob139 P)::(nat_lit 140,ob140 P)::(nat_lit 141,ob141 P)::(nat_lit 142,ob142 P)::(nat_lit 143,ob143 P)::(nat_lit 144,ob144 P)::(nat_lit 145,ob145 P)::(nat_lit 146,ob146 P)::(nat_lit 147,ob147 P)::(nat_lit 148,ob148 P)::(nat_lit 149,ob149 P)::(nat_lit 150,ob150 P)::(nat_lit 151,ob151 P)::(nat_lit 152,ob152 P)::(nat_lit 153,ob153 P)::(nat_lit 154,ob154 P)::(nat_lit 155,ob155 P)::(nat_lit 156,ob156 P)::(nat_lit 157,ob157 P)::(nat_lit 165,ob165 P)::(nat_lit 166,ob166 P)::(nat_lit 167,ob167 P)::(nat_lit 168,ob168 P)::(nat_lit 169,ob169 P)::(nat_lit 170,ob170 P)::(nat_lit 171,ob171 P)::(nat_lit 172,ob172 P)::(nat_lit 173,ob173 P)::(nat_lit 174,ob174 P)::(nat_lit 175,ob175 P)::(nat_lit 176,ob176 P)::(nat_lit 177,ob177 P)::(nat_lit 178,ob178 P)::(nat_lit 179,ob179 P)::(nat_lit 180,ob180 P)::(nat_lit 181,ob181 P)::(nat_lit 182,ob182 P)::(nat_lit 185,ob185 P)::(nat_lit 186,ob186 P)::(nat_lit 187,ob187 P)::(nat_lit 188,ob188 P)::(nat_lit 189,ob189 P)::(nat_lit 190,ob190 P)::(nat_lit 191,ob191 P)::(nat_lit 192,ob192 P)::(nat_lit 193,ob193 P)::(nat_lit 194,ob194 P)::(nat_lit 195,ob195 P)::(nat_lit 196,ob196 P)::(nat_lit 197,ob197 P)::(nat_lit 198,ob198 P)::(nat_lit 199,ob199 P)::(nat_lit 200,ob200 P)::(nat_lit 201,ob201 P)::(nat_lit 202,ob202 P)::(nat_lit 203,ob203 P)::(nat_lit 204,ob204 P)::(nat_lit 205,ob205 P)::(nat_lit 206,ob206 P)::(nat_lit 207,ob207 P)::(nat_lit 208,ob208 P)::(nat_lit 209,ob209 P)::(nat_lit 210,ob210 P)::(nat_lit 211,ob211 P)::(nat_lit 212,ob212 P)::(nat_lit 213,ob213 P)::(nat_lit 214,ob214 P)::(nat_lit 215,ob215 P)::(nat_lit 216,ob216 P)::(nat_lit 217,ob217 P)::(nat_lit 218,ob218 P)::(nat_lit 219,ob219 P)::(nat_lit 220,ob220 P)::(nat_lit 221,ob221 P)::(nat_lit 222,ob222 P)::(nat_lit 223,ob223 P)::(nat_lit 224,ob224 P)::(nat_lit 225,ob225 P)::(nat_lit 226,ob226 P)::(nat_lit 227,ob227 P)::(nat_lit 228,ob228 P)::(nat_lit 229,ob229 P)::(nat_lit 230,ob230 P)::(nat_lit 231,ob231 P)::(nat_lit 232,ob232 P)::(nat_lit 233,ob233 P)::(nat_lit 234,ob234 P)::(nat_lit 235,ob235 P)::(nat_lit 236,ob236 P)::(nat_lit 237,ob237 P)::(nat_lit 238,ob238 P)::(nat_lit 239,ob239 P)::(nat_lit 240,ob240 P)::(nat_lit 241,ob241 P)::(nat_lit 242,ob242 P)::(nat_lit 243,ob243 P)::(nat_lit 244,ob244 P)::(nat_lit 245,ob245 P)::(nat_lit 246,ob246 P)::(nat_lit 247,ob247 P)::(nat_lit 248,ob248 P)::(nat_lit 249,ob249 P)::(nat_lit 250,ob250 P)::(nat_lit 251,ob251 P)::(nat_lit 252,ob252 P)::(nat_lit 253,ob253 P)::(nat_lit 254,ob254 P)::(nat_lit 255,ob255 P)::(nat_lit 256,ob256 P)::(nat_lit 257,ob257 P)::(nat_lit 258,ob258 P)::(nat_lit 259,ob259 P)::(nat_lit 260,ob260 P)::(nat_lit 261,ob261 P)::(nat_lit 262,ob262 P)::(nat_lit 263,ob263 P)::(nat_lit 264,ob264 P)::[]
noncomputable abbrev kAs : List Nat:=(nat_lit 0::nat_lit 1::nat_lit 2::nat_lit 3::nat_lit 4::nat_lit 5::nat_lit 6::nat_lit 7::nat_lit 8::nat_lit 9::nat_lit 10::nat_lit 11::nat_lit 12::nat_lit 13::nat_lit 14::nat_lit 15::nat_lit 16::nat_lit 17::nat_lit 18::nat_lit 19::nat_lit 20::nat_lit 21::nat_lit 22::nat_lit 23::nat_lit 24::nat_lit 25::nat_lit 26::nat_lit 27::nat_lit 28::nat_lit 29::nat_lit 36::nat_lit 37::nat_lit 38::nat_lit 39::nat_lit 40::nat_lit 41::nat_lit 42::nat_lit 43::nat_lit 44::nat_lit 45::nat_lit 48::nat_lit 55::nat_lit 56::nat_lit 57::nat_lit 58::nat_lit 59::nat_lit 60::nat_lit 61::nat_lit 62::nat_lit 63::nat_lit 64::nat_lit 65::nat_lit 66::nat_lit 67::nat_lit 68::nat_lit 69::nat_lit 70::nat_lit 71::nat_lit 72::nat_lit 73::nat_lit 74::nat_lit 75::nat_lit 76::nat_lit 77::nat_lit 78::nat_lit 81::nat_lit 82::nat_lit 83::nat_lit 84::nat_lit 85::nat_lit 86::nat_lit 87::nat_lit 88::nat_lit 89::nat_lit 90::nat_lit 91::nat_lit 92::nat_lit 93::nat_lit 94::nat_lit 95::nat_lit 96::nat_lit 97::nat_lit 98::nat_lit 99::nat_lit 100::nat_lit 101::nat_lit 102::nat_lit 103::nat_lit 104::nat_lit 105::nat_lit 106::nat_lit 107::nat_lit 108::nat_lit 109::nat_lit 110::nat_lit 111::nat_lit 112::nat_lit 113::nat_lit 114::nat_lit 115::nat_lit 116::nat_lit 117::nat_lit 118::nat_lit 119::nat_lit 120::nat_lit 121::nat_lit 122::nat_lit 123::nat_lit 124::nat_lit 125::nat_lit 126::nat_lit 127::nat_lit 128::nat_lit 129::nat_lit 130::nat_lit 131::nat_lit 132::nat_lit 133::nat_lit 134::nat_lit 135::nat_lit 136::nat_lit 137::nat_lit 138::nat_lit 139::nat_lit 140::nat_lit 141::nat_lit 142::nat_lit 143::nat_lit 144::nat_lit 145::nat_lit 146::nat_lit 147::nat_lit 148::nat_lit 149::nat_lit 150::nat_lit 151::nat_lit 152::nat_lit 153::nat_lit 154::nat_lit 155::nat_lit 156::nat_lit 157::nat_lit 165::nat_lit 166::nat_lit 167::nat_lit 168::nat_lit 169::nat_lit 170::nat_lit 171::nat_lit 172::nat_lit 173::nat_lit 174::nat_lit 175::nat_lit 176::nat_lit 177::nat_lit 178::nat_lit 179::nat_lit 180::nat_lit 181::nat_lit 182::nat_lit 185::nat_lit 186::nat_lit 187::nat_lit 188::nat_lit 189::nat_lit 190::nat_lit 191::nat_lit 192::nat_lit 193::nat_lit 194::nat_lit 195::nat_lit 196::nat_lit 197::nat_lit 198::nat_lit 199::nat_lit 200::nat_lit 201::nat_lit 202::nat_lit 203::nat_lit 204::nat_lit 205::nat_lit 206::nat_lit 207::nat_lit 208::nat_lit 209::nat_lit 210::nat_lit 211::nat_lit 212::nat_lit 213::nat_lit 214::nat_lit 215::nat_lit 216::nat_lit 217::nat_lit 218::nat_lit 219::nat_lit 220::nat_lit 221::nat_lit 222::nat_lit 223::nat_lit 224::nat_lit 225::nat_lit 226::nat_lit 227::nat_lit 228::nat_lit 229::nat_lit 230::nat_lit 231::nat_lit 232::nat_lit 233::nat_lit 234::nat_lit 235::nat_lit 236::nat_lit 237::nat_lit 238::nat_lit 239::nat_lit 240::nat_lit 241::nat_lit 242::nat_lit 243::nat_lit 244::nat_lit 245::nat_lit 246::nat_lit 247::nat_lit 248::nat_lit 249::nat_lit 250::nat_lit 251::nat_lit 252::nat_lit 253::nat_lit 254::nat_lit 255::nat_lit 256::nat_lit 257::nat_lit 258::nat_lit 259::nat_lit 260::nat_lit 261::nat_lit 262::nat_lit 263::nat_lit 264::[])
noncomputable abbrev viewT : Program := { pT with main := { pT.main with body := [stAt 0, stAt 2, stAt 3, stAt 5, stAt 7, stAt 8, stAt 10, stAt 12, stAt 13, stAt 14, stAt 15, stAt 16, stAt 17, stAt 18, stAt 19, stAt 20, stAt 22, stAt 23, stAt 25, stAt 26, stAt 29, stAt 31, stAt 32, stAt 33, stAt 35, stAt 36, stAt 37, stAt 38, stAt 39] } }
noncomputable abbrev dT : DefRec := ⟨qn211, qa89, qb90, qs91, ⟨282,0,306,97⟩⟩
end Mine
end
section
open PySem PySem.W PySem.W.X PyProof.Rows
namespace Mine
noncomputable abbrev rwT : OpenLaw := PySem.Challenge.rw_kt0042_01
noncomputable abbrev rowT : OpenRow := rwT.row
noncomputable abbrev envT : Env := ⟨pT.main.scope, mainNs, mainNs, [], Str.empty, none, .ref 13, some 14,0⟩
noncomputable abbrev p0 : Pos := ⟨0,0,0,0⟩
noncomputable abbrev p1 : Pos := ⟨282,0,306,97⟩
noncomputable abbrev lifeT : Life := ⟨[], [], [], 0, [], [], false, #[], [], 0, false, false, false, 0, [2000,10,10], false, 0, true, [], [], 0, false⟩
noncomputable abbrev d0 : Drawn := ⟨0,0,0,0⟩
noncomputable abbrev bT : List Stmt := behindTheImports pT
noncomputable abbrev cT : Code := .body bT envT
noncomputable abbrev sS (w : World) (os : OsState) : SharedT := ⟨treeS w.params, 15, lifeT, Array.mk [], d0,187, os⟩
noncomputable abbrev sF (w : World) (os : OsState) : SharedT := ⟨treeF w.params, 265, lifeT, Array.mk [], d0,543, os⟩
theorem h_pre (w : World) : (fun os => topGo treeTable pT w 11 (some (.ref 6)) 12 ⟨boot_heap w.params, Array.mk [], boot_drawn, boot_toks, os⟩ (topStub pT)) = fun os => some ((sS w os).abs, ⟨denote treeTable cT, cT, p0, [topFrame p0]⟩) := by kernel_rfl
theorem h_block (w : World) : (fun os => segRun treeTable pT w 11 (some (.ref 6)) 1 1 (sS w os).abs (blockOf bT envT cT p0 [topFrame p0])) = fun os => some (.next, (sS w os).abs, cT, p0) := by kernel_rfl
theorem h_all (w : World) : (fun os => segRunT treeTable pT w 11 (some (.ref 6)) 1 1680 (sS w os) (piecesOf bT envT cT p0 [topFrame p0])) = fun os => some (.next, sF w os, cT, p1) := by kernel_rfl
theorem h_fin (w : World) : (fun os => topRun treeTable pT w 11 (some (.ref 6)) 2 (sF w os).abs ⟨doneF .next, cT, p1, [topFrame p0]⟩) = fun os => some (sF w os).abs := by kernel_rfl
theorem h_run (w : World) (os : OsState) : topRun treeTable pT w 11 (some (.ref 6)) (12 + (1 + (1680 + 2))) ⟨boot_heap w.params, Array.mk [], boot_drawn, boot_toks, os⟩ (topStub pT) = some (sF w os).abs := by
  have k := piece_app (rest := []) (segRun_of (congrFun (h_all w) os)) (piece_nil (congrFun (h_fin w) os))
  rw [List.append_nil] at k
  exact go_top (congrFun (h_pre w) os) (piece_block (congrFun (h_block w) os) k)
noncomputable abbrev keepT : List Str := [⟨⟨[nat_lit 95, nat_lit 105, nat_lit 110, nat_lit 105, nat_lit 116, nat_lit 105, nat_lit 97, nat_lit 108, nat_lit 95, nat_lit 109, nat_lit 105, nat_lit 115, nat_lit 115, nat_lit 105, nat_lit 110, nat_lit 103]⟩⟩, ⟨⟨[nat_lit 114, nat_lit 101, nat_lit 100, nat_lit 117, nat_lit 99, nat_lit 101]⟩⟩]
noncomputable abbrev xT (s : Shared) : Bool := xlAt viewT [] s && recOk (RowW.records rowT.toRowW) s
theorem h_size (w : World) : ((boot_heap w.params).isNs mainGlobals && (Array.mk [] : Array GenState).size == 0, (boot_heap w.params).objs.size, (boot_heap w.params).nsMap mainGlobals "__annotations__") = (true, 11, some (.ref 6)) := by kernel_rfl
theorem h_looks (w : World) : (fun os => ((staticsOk (importedModules pT.main.body) (boot_heap w.params) (absHeap (treeF w.params) 265 lifeT) && namesBound pT (absHeap (treeF w.params) 265 lifeT) && gensDone (sF w os).abs && laidKept (boot_heap w.params) (absHeap (treeF w.params) 265 lifeT)),
    openSeen viewT keepT (importedModules pT.main.body) xT true (sF w os).abs, obsZ kAs (sF w os).abs)) = fun _ => (true, openGood viewT keepT, valZ K1 265 543 w) := by kernel_rfl
theorem h_left : LeftO pT viewT keepT xT (obsZ kAs) (valZ K1 265 543) 3474 :=
  LeftO.of_pieces (H₁ := fun P => absHeap (treeF P) 265 lifeT) (boot_open (by kernel_rfl) (by decide) (fun s => by kernel_rfl)) h_size h_run (by decide) h_looks
theorem h_def : defOf viewT rowT.name = some (dT, []) := by kernel_rfl
theorem h_the : rowT.prog.theDef rowT.name = some (dT.params, dT.body, dT.scope) := by kernel_rfl
theorem h_kw : kwWritten? dT.params.kwonlyargs dT.params.kw_defaults = some [] := by kernel_rfl
theorem h_said : rwT.wellSaid = true := by kernel_rfl
theorem h_ok : (chainsOk viewT && opensWell rowT.prog && (frees rowT.toRowW && rowT.within.isEmpty)) = true := by kernel_rfl
theorem h_bare : rowT.prog.bare := ⟨rfl, rfl, rfl, rfl, rfl, by kernel_rfl⟩
theorem h_wit : rowT.toRowW.promised := ⟨[.list []], by kernel_rfl, by kernel_rfl⟩
theorem head (walk : WalkX viewT keepT (XL viewT []) (obsZ kAs) (valZ K1 265 543) rowT.toRowW dT [] fun f vs => PySem.call f vs) : PySem.Challenge.rw_kt0042_01.Holds := by
  refine holds_law h_said fun said => ?_
  exact holds_openX h_left (fun s e => xl_of s (Bool.and_eq_true_iff.mp e).1) XL.keeps h_def h_the h_kw (fun s e => recFacts_of (Bool.and_eq_true_iff.mp e).2) rfl said h_ok h_bare h_wit walk
end Mine
end
section
open PySem PySem.W PyProof.Rows
namespace Mine
noncomputable abbrev o94 (_ : Params) : Obj:=⟨(.type "function"),.none,(.func ⟨"fspath","fspath",⟨[],[⟨"path",.none,⟨36,11,36,15⟩⟩],.none,[],[],.none,[]⟩,(.stmts [(.Assign [(.Name "kind" ⟨37,4,37,8⟩)] (.Call (.Name "type" ⟨37,11,37,15⟩) [(.Name "path" ⟨37,16,37,20⟩)] [] ⟨37,11,37,21⟩) ⟨37,4,37,21⟩),(.If (.Call (.Name "issubclass" ⟨38,7,38,17⟩) [(.Name "kind" ⟨38,18,38,22⟩),(.Tuple [(.Name "str" ⟨38,25,38,28⟩),(.Name "bytes" ⟨38,30,38,35⟩)] 0 ⟨38,24,38,36⟩)] [] ⟨38,7,38,37⟩) [(.Return (.some (.Name "path" ⟨39,15,39,19⟩)) ⟨39,8,39,19⟩)] [] ⟨38,4,39,19⟩),(.Expr (.Call (.Name "_abc_plain_meta" ⟨40,4,40,19⟩) [(.Name "kind" ⟨40,20,40,24⟩)] [] ⟨40,4,40,25⟩) ⟨40,4,40,25⟩),(.Assign [(.Name "hook" ⟨41,4,41,8⟩)] (.Call (.Name "getattr" ⟨41,11,41,18⟩) [(.Name "kind" ⟨41,19,41,23⟩),(.Constant (.str "__fspath__") 0 ⟨41,25,41,37⟩),(.Constant .none 0 ⟨41,39,41,43⟩)] [] ⟨41,11,41,44⟩) ⟨41,4,41,44⟩),(.If (.Compare (.Name "hook" ⟨42,7,42,11⟩) [.Is] [(.Constant .none 0 ⟨42,15,42,19⟩)] ⟨42,7,42,19⟩) [(.Raise (.some (.Call (.Name "TypeError" ⟨43,14,43,23⟩) [(.BinOp (.Constant (.str "expected str, bytes or os.PathLike object, not ") 0 ⟨43,24,43,73⟩) .Add (.Call (.Name "_plain_name" ⟨43,76,43,87⟩) [(.Name "path" ⟨43,88,43,92⟩),(.Constant (.str "the words of fspath, of an object that is no everyday kind") 0 ⟨43,94,43,154⟩)] [] ⟨43,76,43,155⟩) ⟨43,24,43,155⟩)] [] ⟨43,14,43,156⟩)) .none ⟨43,8,43,156⟩)] [] ⟨42,4,43,156⟩),(.If (.Compare (.Call (.Name "type" ⟨44,7,44,11⟩) [(.Name "hook" ⟨44,12,44,16⟩)] [] ⟨44,7,44,17⟩) [.IsNot] [(.Call (.Name "type" ⟨44,25,44,29⟩) [(.Name "_plain_name" ⟨44,30,44,41⟩)] [] ⟨44,25,44,42⟩)] ⟨44,7,44,42⟩) [(.Expr (.Call (.Name "_wall" ⟨45,8,45,13⟩) [(.Constant (.int 5) 0 ⟨45,14,45,15⟩)] [] ⟨45,8,45,16⟩) ⟨45,8,45,16⟩)] [] ⟨44,4,45,16⟩),(.Assign [(.Name "given" ⟨46,4,46,9⟩)] (.Call (.Name "hook" ⟨46,12,46,16⟩) [(.Name "path" ⟨46,17,46,21⟩)] [] ⟨46,12,46,22⟩) ⟨46,4,46,22⟩),(.If (.Call (.Name "issubclass" ⟨47,7,47,17⟩) [(.Call (.Name "type" ⟨47,18,47,22⟩) [(.Name "given" ⟨47,23,47,28⟩)] [] ⟨47,18,47,29⟩),(.Tuple [(.Name "str" ⟨47,32,47,35⟩),(.Name "bytes" ⟨47,37,47,42⟩)] 0 ⟨47,31,47,43⟩)] [] ⟨47,7,47,44⟩) [(.Return (.some (.Name "given" ⟨48,15,48,20⟩)) ⟨48,8,48,20⟩)] [] ⟨47,4,48,20⟩),(.If (.Compare (.Call (.Name "len" ⟨49,7,49,10⟩) [(.Call (.Attribute (.Attribute (.Name "kind" ⟨49,11,49,15⟩) "__name__" ⟨49,11,49,24⟩) "encode" ⟨49,11,49,31⟩) [(.Constant (.str "utf-8") 0 ⟨49,32,49,39⟩)] [] ⟨49,11,49,40⟩)] [] ⟨49,7,49,41⟩) [.Gt] [(.Constant (.int 200) 0 ⟨49,44,49,47⟩)] ⟨49,7,49,47⟩) [(.Expr (.Call (.Name "_wall" ⟨50,8,50,13⟩) [(.Constant (.int 6) 0 ⟨50,14,50,15⟩)] [] ⟨50,8,50,16⟩) ⟨50,8,50,16⟩)] [] ⟨49,4,50,16⟩),(.Raise (.some (.Call (.Name "TypeError" ⟨51,10,51,19⟩) [(.Call (.Attribute (.Constant (.str "expected {}.{}() to return str or bytes, not {}") 0 ⟨51,20,51,69⟩) "format" ⟨51,20,51,76⟩) [(.Attribute (.Name "kind" ⟨51,77,51,81⟩) "__name__" ⟨51,77,51,90⟩),(.Constant (.str "__fspath__") 0 ⟨51,92,51,104⟩),(.Call (.Name "_plain_name" ⟨51,106,51,117⟩) [(.Name "given" ⟨51,118,51,123⟩),(.Constant (.str "the words of fspath, of what an __fspath__ gave") 0 ⟨51,125,51,174⟩)] [] ⟨51,106,51,175⟩)] [] ⟨51,20,51,176⟩)] [] ⟨51,10,51,177⟩)) .none ⟨51,4,51,177⟩)]),⟨.function,(("path",.local)::("kind",.local)::("hook",.local)::("given",.local)::("type",.globalImplicit)::("issubclass",.globalImplicit)::("str",.globalImplicit)::("bytes",.globalImplicit)::("_abc_plain_meta",.globalImplicit)::("getattr",.globalImplicit)::("TypeError",.globalImplicit)::("_plain_name",.globalImplicit)::("_wall",.globalImplicit)::("len",.globalImplicit)::[]),false,false,[]⟩,3,[],.none,.none,.none,(.str "os" 283),.none,(.ref 93),.none,0⟩),(#[])⟩
noncomputable abbrev o101 (_ : Params) : Obj:=⟨(.type "function"),.none,(.func ⟨"_kind","_kind",⟨[],[⟨"name",.none,⟨53,10,53,14⟩⟩,⟨"x",.none,⟨53,16,53,17⟩⟩],.none,[],[],.none,[]⟩,(.stmts [(.Assign [(.Name "t" ⟨54,4,54,5⟩)] (.Call (.Name "type" ⟨54,8,54,12⟩) [(.Name "x" ⟨54,13,54,14⟩)] [] ⟨54,8,54,15⟩) ⟨54,4,54,15⟩),(.If (.Compare (.Name "t" ⟨55,7,55,8⟩) [.Is] [(.Name "str" ⟨55,12,55,15⟩)] ⟨55,7,55,15⟩) [(.Return (.some (.Constant (.str "") 0 ⟨56,15,56,17⟩)) ⟨56,8,56,17⟩)] [] ⟨55,4,56,17⟩),(.If (.Compare (.Name "x" ⟨57,7,57,8⟩) [.Is] [(.Constant .none 0 ⟨57,12,57,16⟩)] ⟨57,7,57,16⟩) [(.Return (.some (.Constant (.str "NoneType") 0 ⟨58,15,58,25⟩)) ⟨58,8,58,25⟩)] [] ⟨57,4,58,25⟩),(.If (.Compare (.Name "t" ⟨59,7,59,8⟩) [.Is] [(.Name "bool" ⟨59,12,59,16⟩)] ⟨59,7,59,16⟩) [(.Return (.some (.Constant (.str "bool") 0 ⟨60,15,60,21⟩)) ⟨60,8,60,21⟩)] [] ⟨59,4,60,21⟩),(.If (.Compare (.Name "t" ⟨61,7,61,8⟩) [.Is] [(.Name "int" ⟨61,12,61,15⟩)] ⟨61,7,61,15⟩) [(.Return (.some (.Constant (.str "int") 0 ⟨62,15,62,20⟩)) ⟨62,8,62,20⟩)] [] ⟨61,4,62,20⟩),(.If (.Compare (.Name "t" ⟨63,7,63,8⟩) [.Is] [(.Name "float" ⟨63,12,63,17⟩)] ⟨63,7,63,17⟩) [(.Return (.some (.Constant (.str "float") 0 ⟨64,15,64,22⟩)) ⟨64,8,64,22⟩)] [] ⟨63,4,64,22⟩),(.If (.Compare (.Name "t" ⟨65,7,65,8⟩) [.Is] [(.Name "list" ⟨65,12,65,16⟩)] ⟨65,7,65,16⟩) [(.Return (.some (.Constant (.str "list") 0 ⟨66,15,66,21⟩)) ⟨66,8,66,21⟩)] [] ⟨65,4,66,21⟩),(.If (.Compare (.Name "t" ⟨67,7,67,8⟩) [.Is] [(.Name "tuple" ⟨67,12,67,17⟩)] ⟨67,7,67,17⟩) [(.Return (.some (.Constant (.str "tuple") 0 ⟨68,15,68,22⟩)) ⟨68,8,68,22⟩)] [] ⟨67,4,68,22⟩),(.If (.Compare (.Name "t" ⟨69,7,69,8⟩) [.Is] [(.Name "dict" ⟨69,12,69,16⟩)] ⟨69,7,69,16⟩) [(.Return (.some (.Constant (.str "dict") 0 ⟨70,15,70,21⟩)) ⟨70,8,70,21⟩)] [] ⟨69,4,70,21⟩),(.If (.Compare (.Name "t" ⟨71,7,71,8⟩) [.Is] [(.Name "set" ⟨71,12,71,15⟩)] ⟨71,7,71,15⟩) [(.Return (.some (.Constant (.str "set") 0 ⟨72,15,72,20⟩)) ⟨72,8,72,20⟩)] [] ⟨71,4,72,20⟩),(.Expr (.Call (.Name "_wall" ⟨73,4,73,9⟩) [(.Constant (.int 7) 0 ⟨73,10,73,11⟩)] [] ⟨73,4,73,12⟩) ⟨73,4,73,12⟩)]),⟨.function,(("name",.local)::("x",.local)::("t",.local)::("type",.globalImplicit)::("str",.globalImplicit)::("bool",.globalImplicit)::("int",.globalImplicit)::("float",.globalImplicit)::("list",.globalImplicit)::("tuple",.globalImplicit)::("dict",.globalImplicit)::("set",.globalImplicit)::("_wall",.globalImplicit)::[]),false,false,[]⟩,3,[],.none,.none,.none,(.str "os.path" 295),.none,(.ref 100),.none,0⟩),(#[])⟩
noncomputable abbrev o108 (_ : Params) : Obj:=⟨(.type "function"),.none,(.func ⟨"_fspath","_fspath",⟨[],[⟨"name",.none,⟨74,12,74,16⟩⟩,⟨"x",.none,⟨74,18,74,19⟩⟩],.none,[],[],.none,[]⟩,(.stmts [(.Assign [(.Name "k" ⟨75,4,75,5⟩)] (.Call (.Name "_kind" ⟨75,8,75,13⟩) [(.Name "name" ⟨75,14,75,18⟩),(.Name "x" ⟨75,20,75,21⟩)] [] ⟨75,8,75,22⟩) ⟨75,4,75,22⟩),(.If (.Name "k" ⟨76,7,76,8⟩) [(.Raise (.some (.Call (.Name "TypeError" ⟨77,14,77,23⟩) [(.BinOp (.Constant (.str "expected str, bytes or os.PathLike object, not ") 0 ⟨77,24,77,73⟩) .Add (.Name "k" ⟨77,76,77,77⟩) ⟨77,24,77,77⟩)] [] ⟨77,14,77,78⟩)) .none ⟨77,8,77,78⟩)] [] ⟨76,4,77,78⟩),(.Return (.some (.Name "x" ⟨78,11,78,12⟩)) ⟨78,4,78,12⟩)]),⟨.function,(("name",.local)::("x",.local)::("k",.local)::("_kind",.globalImplicit)::("TypeError",.globalImplicit)::[]),false,false,[]⟩,3,[],.none,.none,.none,(.str "os.path" 295),.none,(.ref 107),.none,0⟩),(#[])⟩
noncomputable abbrev o115 (_ : Params) : Obj:=⟨(.type "function"),.none,(.func ⟨"splitext","splitext",⟨[],[⟨"p",.none,⟨79,13,79,14⟩⟩],.none,[],[],.none,[]⟩,(.stmts [(.Assign [(.Name "p" ⟨80,4,80,5⟩)] (.Call (.Name "_fspath" ⟨80,8,80,15⟩) [(.Constant (.str "splitext") 0 ⟨80,16,80,26⟩),(.Name "p" ⟨80,28,80,29⟩)] [] ⟨80,8,80,30⟩) ⟨80,4,80,30⟩),(.Assign [(.Name "sep" ⟨81,4,81,7⟩)] (.Constant (.str "/") 0 ⟨81,10,81,13⟩) ⟨81,4,81,13⟩),(.Assign [(.Name "extsep" ⟨82,4,82,10⟩)] (.Constant (.str ".") 0 ⟨82,13,82,16⟩) ⟨82,4,82,16⟩),(.Assign [(.Name "sepIndex" ⟨83,4,83,12⟩)] (.Call (.Attribute (.Name "p" ⟨83,15,83,16⟩) "rfind" ⟨83,15,83,22⟩) [(.Name "sep" ⟨83,23,83,26⟩)] [] ⟨83,15,83,27⟩) ⟨83,4,83,27⟩),(.Assign [(.Name "dotIndex" ⟨84,4,84,12⟩)] (.Call (.Attribute (.Name "p" ⟨84,15,84,16⟩) "rfind" ⟨84,15,84,22⟩) [(.Name "extsep" ⟨84,23,84,29⟩)] [] ⟨84,15,84,30⟩) ⟨84,4,84,30⟩),(.If (.Compare (.Name "dotIndex" ⟨85,7,85,15⟩) [.Gt] [(.Name "sepIndex" ⟨85,18,85,26⟩)] ⟨85,7,85,26⟩) [(.Assign [(.Name "filenameIndex" ⟨86,8,86,21⟩)] (.BinOp (.Name "sepIndex" ⟨86,24,86,32⟩) .Add (.Constant (.int 1) 0 ⟨86,35,86,36⟩) ⟨86,24,86,36⟩) ⟨86,8,86,36⟩),(.While (.Compare (.Name "filenameIndex" ⟨87,14,87,27⟩) [.Lt] [(.Name "dotIndex" ⟨87,30,87,38⟩)] ⟨87,14,87,38⟩) [(.If (.Compare (.Subscript (.Name "p" ⟨88,15,88,16⟩) (.Slice (.some (.Name "filenameIndex" ⟨88,17,88,30⟩)) (.some (.BinOp (.Name "filenameIndex" ⟨88,31,88,44⟩) .Add (.Constant (.int 1) 0 ⟨88,47,88,48⟩) ⟨88,31,88,48⟩)) .none ⟨88,17,88,48⟩) ⟨88,15,88,49⟩) [.NotEq] [(.Name "extsep" ⟨88,53,88,59⟩)] ⟨88,15,88,59⟩) [(.Return (.some (.Tuple [(.Subscript (.Name "p" ⟨89,24,89,25⟩) (.Slice .none (.some (.Name "dotIndex" ⟨89,27,89,35⟩)) .none ⟨89,26,89,35⟩) ⟨89,24,89,36⟩),(.Subscript (.Name "p" ⟨89,38,89,39⟩) (.Slice (.some (.Name "dotIndex" ⟨89,40,89,48⟩)) .none .none ⟨89,40,89,49⟩) ⟨89,38,89,50⟩)] 0 ⟨89,23,89,51⟩)) ⟨89,16,89,51⟩)] [] ⟨88,12,89,51⟩),(.AugAssign (.Name "filenameIndex" ⟨90,12,90,25⟩) .Add (.Constant (.int 1) 0 ⟨90,29,90,30⟩) ⟨90,12,90,30⟩)] [] ⟨87,8,90,30⟩)] [] ⟨85,4,90,30⟩),(.Return (.some (.Tuple [(.Name "p" ⟨91,12,91,13⟩),(.Subscript (.Name "p" ⟨91,15,91,16⟩) (.Slice .none (.some (.Constant (.int 0) 0 ⟨91,18,91,19⟩)) .none ⟨91,17,91,19⟩) ⟨91,15,91,20⟩)] 0 ⟨91,11,91,21⟩)) ⟨91,4,91,21⟩)]),⟨.function,(("p",.local)::("sep",.local)::("extsep",.local)::("sepIndex",.local)::("dotIndex",.local)::("filenameIndex",.local)::("_fspath",.globalImplicit)::[]),false,false,[]⟩,3,[],.none,.none,.none,(.str "os.path" 295),.none,(.ref 114),.none,0⟩),(#[])⟩
noncomputable abbrev o122 (_ : Params) : Obj:=⟨(.type "function"),.none,(.func ⟨"_c_path","_c_path",⟨[],[⟨"name",.none,⟨92,12,92,16⟩⟩,⟨"cname",.none,⟨92,18,92,23⟩⟩,⟨"argname",.none,⟨92,25,92,32⟩⟩,⟨"args",.none,⟨92,34,92,38⟩⟩,⟨"kwargs",.none,⟨92,40,92,46⟩⟩],.none,[],[],.none,[]⟩,(.stmts [(.If (.BoolOp .And [(.Compare (.Call (.Name "len" ⟨93,7,93,10⟩) [(.Name "args" ⟨93,11,93,15⟩)] [] ⟨93,7,93,16⟩) [.Eq] [(.Constant (.int 1) 0 ⟨93,20,93,21⟩)] ⟨93,7,93,21⟩),(.UnaryOp .Not (.Name "kwargs" ⟨93,31,93,37⟩) ⟨93,27,93,37⟩)] ⟨93,7,93,38⟩) [(.Assign [(.Name "x" ⟨94,8,94,9⟩)] (.Subscript (.Name "args" ⟨94,12,94,16⟩) (.Constant (.int 0) 0 ⟨94,17,94,18⟩) ⟨94,12,94,19⟩) ⟨94,8,94,19⟩)] [(.If (.BoolOp .And [(.UnaryOp .Not (.Name "args" ⟨95,13,95,17⟩) ⟨95,9,95,17⟩),(.Compare (.Call (.Name "len" ⟨95,22,95,25⟩) [(.Name "kwargs" ⟨95,26,95,32⟩)] [] ⟨95,22,95,33⟩) [.Eq] [(.Constant (.int 1) 0 ⟨95,37,95,38⟩)] ⟨95,22,95,38⟩),(.Compare (.Name "argname" ⟨95,44,95,51⟩) [.In] [(.Name "kwargs" ⟨95,55,95,61⟩)] ⟨95,44,95,61⟩)] ⟨95,9,95,62⟩) [(.Assign [(.Name "x" ⟨96,8,96,9⟩)] (.Subscript (.Name "kwargs" ⟨96,12,96,18⟩) (.Name "argname" ⟨96,19,96,26⟩) ⟨96,12,96,27⟩) ⟨96,8,96,27⟩)] [(.Expr (.Call (.Name "_wall" ⟨98,8,98,13⟩) [(.Constant (.int 8) 0 ⟨98,14,98,15⟩)] [] ⟨98,8,98,16⟩) ⟨98,8,98,16⟩)] ⟨95,4,98,16⟩)] ⟨93,4,98,16⟩),(.Assign [(.Name "k" ⟨99,4,99,5⟩)] (.Call (.Name "_kind" ⟨99,8,99,13⟩) [(.Name "name" ⟨99,14,99,18⟩),(.Name "x" ⟨99,20,99,21⟩)] [] ⟨99,8,99,22⟩) ⟨99,4,99,22⟩),(.If (.Name "k" ⟨100,7,100,8⟩) [(.Raise (.some (.Call (.Name "TypeError" ⟨101,14,101,23⟩) [(.BinOp (.BinOp (.Name "cname" ⟨101,24,101,29⟩) .Add (.Constant (.str ": path should be string, bytes or os.PathLike, not ") 0 ⟨101,32,101,85⟩) ⟨101,24,101,85⟩) .Add (.Name "k" ⟨101,88,101,89⟩) ⟨101,24,101,89⟩)] [] ⟨101,14,101,90⟩)) .none ⟨101,8,101,90⟩)] [] ⟨100,4,101,90⟩),(.Return (.some (.Name "x" ⟨102,11,102,12⟩)) ⟨102,4,102,12⟩)]),⟨.function,(("name",.local)::("cname",.local)::("argname",.local)::("args",.local)::("kwargs",.local)::("x",.local)::("k",.local)::("len",.globalImplicit)::("_wall",.globalImplicit)::("_kind",.globalImplicit)::("TypeError",.globalImplicit)::[]),false,false,[]⟩,3,[],.none,.none,.none,(.str "os.path" 295),.none,(.ref 121),.none,0⟩),(#[])⟩
noncomputable abbrev o129 (_ : Params) : Obj:=⟨(.type "function"),.none,(.func ⟨"_shelf_fresh","_shelf_fresh",⟨[],[⟨"s",.none,⟨103,17,103,18⟩⟩],.none,[],[],.none,[]⟩,(.stmts [(.Return (.some (.Subscript (.BinOp (.Name "s" ⟨104,12,104,13⟩) .Add (.Constant (.str "/") 0 ⟨104,16,104,19⟩) ⟨104,12,104,19⟩) (.Slice .none (.some (.UnaryOp .USub (.Constant (.int 1) 0 ⟨104,23,104,24⟩) ⟨104,22,104,24⟩)) .none ⟨104,21,104,24⟩) ⟨104,11,104,25⟩)) ⟨104,4,104,25⟩)]),⟨.function,(("s",.local)::[]),false,false,[]⟩,3,[],.none,.none,.none,(.str "os.path" 295),.none,(.ref 128),.none,0⟩),(#[])⟩
noncomputable abbrev o136 (_ : Params) : Obj:=⟨(.type "function"),.none,(.func ⟨"_splitroot","_splitroot",⟨[],[⟨"p",.none,⟨105,15,105,16⟩⟩],.none,[],[],.none,[]⟩,(.stmts [(.Assign [(.Name "sep" ⟨106,4,106,7⟩)] (.Constant (.str "/") 0 ⟨106,10,106,13⟩) ⟨106,4,106,13⟩),(.Assign [(.Name "empty" ⟨107,4,107,9⟩)] (.Constant (.str "") 0 ⟨107,12,107,14⟩) ⟨107,4,107,14⟩),(.If (.Compare (.Subscript (.Name "p" ⟨108,7,108,8⟩) (.Slice .none (.some (.Constant (.int 1) 0 ⟨108,10,108,11⟩)) .none ⟨108,9,108,11⟩) ⟨108,7,108,12⟩) [.NotEq] [(.Name "sep" ⟨108,16,108,19⟩)] ⟨108,7,108,19⟩) [(.Return (.some (.Tuple [(.Name "empty" ⟨109,16,109,21⟩),(.Name "empty" ⟨109,23,109,28⟩),(.Call (.Name "_shelf_fresh" ⟨109,30,109,42⟩) [(.Name "p" ⟨109,43,109,44⟩)] [] ⟨109,30,109,45⟩)] 0 ⟨109,15,109,46⟩)) ⟨109,8,109,46⟩)] [(.If (.BoolOp .Or [(.Compare (.Subscript (.Name "p" ⟨110,9,110,10⟩) (.Slice (.some (.Constant (.int 1) 0 ⟨110,11,110,12⟩)) (.some (.Constant (.int 2) 0 ⟨110,13,110,14⟩)) .none ⟨110,11,110,14⟩) ⟨110,9,110,15⟩) [.NotEq] [(.Name "sep" ⟨110,19,110,22⟩)] ⟨110,9,110,22⟩),(.Compare (.Subscript (.Name "p" ⟨110,26,110,27⟩) (.Slice (.some (.Constant (.int 2) 0 ⟨110,28,110,29⟩)) (.some (.Constant (.int 3) 0 ⟨110,30,110,31⟩)) .none ⟨110,28,110,31⟩) ⟨110,26,110,32⟩) [.Eq] [(.Name "sep" ⟨110,36,110,39⟩)] ⟨110,26,110,39⟩)] ⟨110,9,110,39⟩) [(.Return (.some (.Tuple [(.Name "empty" ⟨111,16,111,21⟩),(.Name "sep" ⟨111,23,111,26⟩),(.Subscript (.Name "p" ⟨111,28,111,29⟩) (.Slice (.some (.Constant (.int 1) 0 ⟨111,30,111,31⟩)) .none .none ⟨111,30,111,32⟩) ⟨111,28,111,33⟩)] 0 ⟨111,15,111,34⟩)) ⟨111,8,111,34⟩)] [(.Return (.some (.Tuple [(.Name "empty" ⟨113,16,113,21⟩),(.Call (.Name "_shelf_fresh" ⟨113,23,113,35⟩) [(.Subscript (.Name "p" ⟨113,36,113,37⟩) (.Slice .none (.some (.Constant (.int 2) 0 ⟨113,39,113,40⟩)) .none ⟨113,38,113,40⟩) ⟨113,36,113,41⟩)] [] ⟨113,23,113,42⟩),(.Subscript (.Name "p" ⟨113,44,113,45⟩) (.Slice (.some (.Constant (.int 2) 0 ⟨113,46,113,47⟩)) .none .none ⟨113,46,113,48⟩) ⟨113,44,113,49⟩)] 0 ⟨113,15,113,50⟩)) ⟨113,8,113,50⟩)] ⟨110,4,113,50⟩)] ⟨108,4,113,50⟩)]),⟨.function,(("p",.local)::("sep",.local)::("empty",.local)::("_shelf_fresh",.globalImplicit)::[]),false,false,[]⟩,3,[],.none,.none,.none,(.str "os.path" 295),.none,(.ref 135),.none,0⟩),(#[])⟩
noncomputable abbrev o143 (_ : Params) : Obj:=⟨(.type "function"),.none,(.func ⟨"basename","basename",⟨[],[⟨"p",.none,⟨114,13,114,14⟩⟩],.none,[],[],.none,[]⟩,(.stmts [(.Assign [(.Name "p" ⟨115,4,115,5⟩)] (.Call (.Name "_fspath" ⟨115,8,115,15⟩) [(.Constant (.str "basename") 0 ⟨115,16,115,26⟩),(.Name "p" ⟨115,28,115,29⟩)] [] ⟨115,8,115,30⟩) ⟨115,4,115,30⟩),(.Assign [(.Name "i" ⟨116,4,116,5⟩)] (.BinOp (.Call (.Attribute (.Name "p" ⟨116,8,116,9⟩) "rfind" ⟨116,8,116,15⟩) [(.Constant (.str "/") 0 ⟨116,16,116,19⟩)] [] ⟨116,8,116,20⟩) .Add (.Constant (.int 1) 0 ⟨116,23,116,24⟩) ⟨116,8,116,24⟩) ⟨116,4,116,24⟩),(.Return (.some (.Subscript (.Name "p" ⟨117,11,117,12⟩) (.Slice (.some (.Name "i" ⟨117,13,117,14⟩)) .none .none ⟨117,13,117,15⟩) ⟨117,11,117,16⟩)) ⟨117,4,117,16⟩)]),⟨.function,(("p",.local)::("i",.local)::("_fspath",.globalImplicit)::[]),false,false,[]⟩,3,[],.none,.none,.none,(.str "os.path" 295),.none,(.ref 142),.none,0⟩),(#[])⟩
noncomputable abbrev o150 (_ : Params) : Obj:=⟨(.type "function"),.none,(.func ⟨"_normpath","_normpath",⟨[],[⟨"path",.none,⟨118,14,118,18⟩⟩],.none,[],[],.none,[]⟩,(.stmts [(.Assign [(.Name "sep" ⟨119,4,119,7⟩)] (.Constant (.str "/") 0 ⟨119,10,119,13⟩) ⟨119,4,119,13⟩),(.Assign [(.Name "dot" ⟨120,4,120,7⟩)] (.Constant (.str ".") 0 ⟨120,10,120,13⟩) ⟨120,4,120,13⟩),(.Assign [(.Name "dotdot" ⟨121,4,121,10⟩)] (.Constant (.str "..") 0 ⟨121,13,121,17⟩) ⟨121,4,121,17⟩),(.If (.UnaryOp .Not (.Name "path" ⟨122,11,122,15⟩) ⟨122,7,122,15⟩) [(.Return (.some (.Name "dot" ⟨123,15,123,18⟩)) ⟨123,8,123,18⟩)] [] ⟨122,4,123,18⟩),(.Assign [(.Tuple [(.Name "_" ⟨124,4,124,5⟩),(.Name "initial_slashes" ⟨124,7,124,22⟩),(.Name "path" ⟨124,24,124,28⟩)] 0 ⟨124,4,124,28⟩)] (.Call (.Name "_splitroot" ⟨124,31,124,41⟩) [(.Name "path" ⟨124,42,124,46⟩)] [] ⟨124,31,124,47⟩) ⟨124,4,124,47⟩),(.Assign [(.Name "comps" ⟨125,4,125,9⟩)] (.Call (.Attribute (.Name "path" ⟨125,12,125,16⟩) "split" ⟨125,12,125,22⟩) [(.Name "sep" ⟨125,23,125,26⟩)] [] ⟨125,12,125,27⟩) ⟨125,4,125,27⟩),(.Assign [(.Name "new_comps" ⟨126,4,126,13⟩)] (.List [] ⟨126,16,126,18⟩) ⟨126,4,126,18⟩),(.For (.Name "comp" ⟨127,8,127,12⟩) (.Name "comps" ⟨127,16,127,21⟩) [(.If (.BoolOp .Or [(.UnaryOp .Not (.Name "comp" ⟨128,15,128,19⟩) ⟨128,11,128,19⟩),(.Compare (.Name "comp" ⟨128,23,128,27⟩) [.Eq] [(.Name "dot" ⟨128,31,128,34⟩)] ⟨128,23,128,34⟩)] ⟨128,11,128,34⟩) [(.Continue ⟨129,12,129,20⟩)] [] ⟨128,8,129,20⟩),(.If (.BoolOp .Or [(.Compare (.Name "comp" ⟨130,11,130,15⟩) [.NotEq] [(.Name "dotdot" ⟨130,19,130,25⟩)] ⟨130,11,130,25⟩),(.BoolOp .And [(.UnaryOp .Not (.Name "initial_slashes" ⟨130,34,130,49⟩) ⟨130,30,130,49⟩),(.UnaryOp .Not (.Name "new_comps" ⟨130,59,130,68⟩) ⟨130,55,130,68⟩)] ⟨130,30,130,69⟩),(.BoolOp .And [(.Name "new_comps" ⟨130,75,130,84⟩),(.Compare (.Subscript (.Name "new_comps" ⟨130,89,130,98⟩) (.UnaryOp .USub (.Constant (.int 1) 0 ⟨130,100,130,101⟩) ⟨130,99,130,101⟩) ⟨130,89,130,102⟩) [.Eq] [(.Name "dotdot" ⟨130,106,130,112⟩)] ⟨130,89,130,112⟩)] ⟨130,75,130,112⟩)] ⟨130,11,130,113⟩) [(.Expr (.Call (.Attribute (.Name "new_comps" ⟨131,12,131,21⟩) "append" ⟨131,12,131,28⟩) [(.Name "comp" ⟨131,29,131,33⟩)] [] ⟨131,12,131,34⟩) ⟨131,12,131,34⟩)] [(.If (.Name "new_comps" ⟨132,13,132,22⟩) [(.Expr (.Call (.Attribute (.Name "new_comps" ⟨133,12,133,21⟩) "pop" ⟨133,12,133,25⟩) [] [] ⟨133,12,133,27⟩) ⟨133,12,133,27⟩)] [] ⟨132,8,133,27⟩)] ⟨130,8,133,27⟩)] [] ⟨127,4,133,27⟩),(.Assign [(.Name "comps" ⟨134,4,134,9⟩)] (.Name "new_comps" ⟨134,12,134,21⟩) ⟨134,4,134,21⟩),(.Assign [(.Name "path" ⟨135,4,135,8⟩)] (.BinOp (.Name "initial_slashes" ⟨135,11,135,26⟩) .Add (.Call (.Attribute (.Name "sep" ⟨135,29,135,32⟩) "join" ⟨135,29,135,37⟩) [(.Name "comps" ⟨135,38,135,43⟩)] [] ⟨135,29,135,44⟩) ⟨135,11,135,44⟩) ⟨135,4,135,44⟩),(.If (.UnaryOp .Not (.Name "path" ⟨136,11,136,15⟩) ⟨136,7,136,15⟩) [(.Return (.some (.Name "dot" ⟨137,15,137,18⟩)) ⟨137,8,137,18⟩)] [] ⟨136,4,137,18⟩),(.Return (.some (.Call (.Name "_shelf_fresh" ⟨138,11,138,23⟩) [(.Name "path" ⟨138,24,138,28⟩)] [] ⟨138,11,138,29⟩)) ⟨138,4,138,29⟩)]),⟨.function,(("path",.local)::("sep",.local)::("dot",.local)::("dotdot",.local)::("_",.local)::("initial_slashes",.local)::("comps",.local)::("new_comps",.local)::("comp",.local)::("_splitroot",.globalImplicit)::("_shelf_fresh",.globalImplicit)::[]),false,false,[]⟩,3,[],.none,.none,.none,(.str "os.path" 295),.none,(.ref 149),.none,0⟩),(#[])⟩
noncomputable abbrev o157 (_ : Params) : Obj:=⟨(.type "function"),.none,(.func ⟨"normpath","normpath",⟨[],[],(.some ⟨"args",.none,⟨139,14,139,18⟩⟩),[],[],(.some ⟨"kwargs",.none,⟨139,22,139,28⟩⟩),[]⟩,(.stmts [(.Return (.some (.Call (.Name "_normpath" ⟨140,11,140,20⟩) [(.Call (.Name "_c_path" ⟨140,21,140,28⟩) [(.Constant (.str "normpath") 0 ⟨140,29,140,39⟩),(.Constant (.str "_path_normpath") 0 ⟨140,41,140,57⟩),(.Constant (.str "path") 0 ⟨140,59,140,65⟩),(.Name "args" ⟨140,67,140,71⟩),(.Name "kwargs" ⟨140,73,140,79⟩)] [] ⟨140,21,140,80⟩)] [] ⟨140,11,140,81⟩)) ⟨140,4,140,81⟩)]),⟨.function,(("args",.local)::("kwargs",.local)::("_normpath",.globalImplicit)::("_c_path",.globalImplicit)::[]),false,false,[]⟩,3,[],.none,.none,.none,(.str "os.path" 295),.none,(.ref 156),.none,0⟩),(#[])⟩
noncomputable abbrev o170 (_ : Params) : Obj:=⟨(.type "function"),.none,(.func ⟨"__init__","_Ignore.__init__",⟨[],[⟨"self",.none,⟨144,17,144,21⟩⟩,⟨"modules",.none,⟨144,23,144,30⟩⟩,⟨"dirs",.none,⟨144,37,144,41⟩⟩],.none,[],[],.none,[(.Constant .none 0 ⟨144,31,144,35⟩),(.Constant .none 0 ⟨144,42,144,46⟩)]⟩,(.stmts [(.Assign [(.Attribute (.Name "self" ⟨145,8,145,12⟩) "_mods" ⟨145,8,145,18⟩)] (.IfExp (.UnaryOp .Not (.Name "modules" ⟨145,34,145,41⟩) ⟨145,30,145,41⟩) (.Call (.Name "set" ⟨145,21,145,24⟩) [] [] ⟨145,21,145,26⟩) (.Call (.Name "set" ⟨145,47,145,50⟩) [(.Name "modules" ⟨145,51,145,58⟩)] [] ⟨145,47,145,59⟩) ⟨145,21,145,59⟩) ⟨145,8,145,59⟩),(.Assign [(.Attribute (.Name "self" ⟨146,8,146,12⟩) "_dirs" ⟨146,8,146,18⟩)] (.IfExp (.UnaryOp .Not (.Name "dirs" ⟨146,31,146,35⟩) ⟨146,27,146,35⟩) (.List [] ⟨146,21,146,23⟩) (.ListComp (.Call (.Name "normpath" ⟨146,42,146,50⟩) [(.Name "d" ⟨146,51,146,52⟩)] [] ⟨146,42,146,53⟩) [⟨(.Name "d" ⟨146,58,146,59⟩),(.Name "dirs" ⟨146,63,146,67⟩),[],0⟩] ⟨.function,((".0",.local)::("d",.local)::("normpath",.globalImplicit)::[]),false,false,[]⟩ ⟨146,41,146,68⟩) ⟨146,21,146,68⟩) ⟨146,8,146,68⟩),(.Assign [(.Attribute (.Name "self" ⟨147,8,147,12⟩) "_ignore" ⟨147,8,147,20⟩)] (.Dict [(.some (.Constant (.str "<string>") 0 ⟨147,24,147,34⟩))] [(.Constant (.int 1) 0 ⟨147,36,147,37⟩)] ⟨147,23,147,38⟩) ⟨147,8,147,38⟩)]),⟨.function,(("self",.local)::("modules",.local)::("dirs",.local)::("set",.globalImplicit)::[]),false,false,[⟨"fast",(.str "self")⟩,⟨"fast",(.str "modules")⟩,⟨"fast",(.str "dirs")⟩,⟨"fast",(.str "d")⟩]⟩,3,[],(.ref 165),.none,.none,(.str "cpy313.trace" 387),.none,(.ref 169),.none,0⟩),(#[])⟩
noncomputable abbrev o177 (_ : Params) : Obj:=⟨(.type "function"),.none,(.func ⟨"names","_Ignore.names",⟨[],[⟨"self",.none,⟨149,14,149,18⟩⟩,⟨"filename",.none,⟨149,20,149,28⟩⟩,⟨"modulename",.none,⟨149,30,149,40⟩⟩],.none,[],[],.none,[]⟩,(.stmts [(.If (.Compare (.Name "modulename" ⟨150,11,150,21⟩) [.In] [(.Attribute (.Name "self" ⟨150,25,150,29⟩) "_ignore" ⟨150,25,150,37⟩)] ⟨150,11,150,37⟩) [(.Return (.some (.Subscript (.Attribute (.Name "self" ⟨151,19,151,23⟩) "_ignore" ⟨151,19,151,31⟩) (.Name "modulename" ⟨151,32,151,42⟩) ⟨151,19,151,43⟩)) ⟨151,12,151,43⟩)] [] ⟨150,8,151,43⟩),(.If (.Compare (.Name "modulename" ⟨152,11,152,21⟩) [.In] [(.Attribute (.Name "self" ⟨152,25,152,29⟩) "_mods" ⟨152,25,152,35⟩)] ⟨152,11,152,35⟩) [(.Assign [(.Subscript (.Attribute (.Name "self" ⟨153,12,153,16⟩) "_ignore" ⟨153,12,153,24⟩) (.Name "modulename" ⟨153,25,153,35⟩) ⟨153,12,153,36⟩)] (.Constant (.int 1) 0 ⟨153,39,153,40⟩) ⟨153,12,153,40⟩),(.Return (.some (.Constant (.int 1) 0 ⟨154,19,154,20⟩)) ⟨154,12,154,20⟩)] [] ⟨152,8,154,20⟩),(.For (.Name "mod" ⟨155,12,155,15⟩) (.Attribute (.Name "self" ⟨155,19,155,23⟩) "_mods" ⟨155,19,155,29⟩) [(.If (.Call (.Attribute (.Name "modulename" ⟨156,15,156,25⟩) "startswith" ⟨156,15,156,36⟩) [(.BinOp (.Name "mod" ⟨156,37,156,40⟩) .Add (.Constant (.str ".") 0 ⟨156,43,156,46⟩) ⟨156,37,156,46⟩)] [] ⟨156,15,156,47⟩) [(.Assign [(.Subscript (.Attribute (.Name "self" ⟨157,16,157,20⟩) "_ignore" ⟨157,16,157,28⟩) (.Name "modulename" ⟨157,29,157,39⟩) ⟨157,16,157,40⟩)] (.Constant (.int 1) 0 ⟨157,43,157,44⟩) ⟨157,16,157,44⟩),(.Return (.some (.Constant (.int 1) 0 ⟨158,23,158,24⟩)) ⟨158,16,158,24⟩)] [] ⟨156,12,158,24⟩)] [] ⟨155,8,158,24⟩),(.If (.Compare (.Name "filename" ⟨159,11,159,19⟩) [.Is] [(.Constant .none 0 ⟨159,23,159,27⟩)] ⟨159,11,159,27⟩) [(.Assign [(.Subscript (.Attribute (.Name "self" ⟨160,12,160,16⟩) "_ignore" ⟨160,12,160,24⟩) (.Name "modulename" ⟨160,25,160,35⟩) ⟨160,12,160,36⟩)] (.Constant (.int 1) 0 ⟨160,39,160,40⟩) ⟨160,12,160,40⟩),(.Return (.some (.Constant (.int 1) 0 ⟨161,19,161,20⟩)) ⟨161,12,161,20⟩)] [] ⟨159,8,161,20⟩),(.For (.Name "d" ⟨162,12,162,13⟩) (.Attribute (.Name "self" ⟨162,17,162,21⟩) "_dirs" ⟨162,17,162,27⟩) [(.If (.Call (.Attribute (.Name "filename" ⟨163,15,163,23⟩) "startswith" ⟨163,15,163,34⟩) [(.BinOp (.Name "d" ⟨163,35,163,36⟩) .Add (.Name "sep" ⟨163,39,163,42⟩) ⟨163,35,163,42⟩)] [] ⟨163,15,163,43⟩) [(.Assign [(.Subscript (.Attribute (.Name "self" ⟨164,16,164,20⟩) "_ignore" ⟨164,16,164,28⟩) (.Name "modulename" ⟨164,29,164,39⟩) ⟨164,16,164,40⟩)] (.Constant (.int 1) 0 ⟨164,43,164,44⟩) ⟨164,16,164,44⟩),(.Return (.some (.Constant (.int 1) 0 ⟨165,23,165,24⟩)) ⟨165,16,165,24⟩)] [] ⟨163,12,165,24⟩)] [] ⟨162,8,165,24⟩),(.Assign [(.Subscript (.Attribute (.Name "self" ⟨166,8,166,12⟩) "_ignore" ⟨166,8,166,20⟩) (.Name "modulename" ⟨166,21,166,31⟩) ⟨166,8,166,32⟩)] (.Constant (.int 0) 0 ⟨166,35,166,36⟩) ⟨166,8,166,36⟩),(.Return (.some (.Constant (.int 0) 0 ⟨167,15,167,16⟩)) ⟨167,8,167,16⟩)]),⟨.function,(("self",.local)::("filename",.local)::("modulename",.local)::("mod",.local)::("d",.local)::("sep",.globalImplicit)::[]),false,false,[]⟩,3,[],.none,.none,.none,(.str "cpy313.trace" 387),.none,(.ref 176),.none,0⟩),(#[])⟩
noncomputable abbrev o191 (_ : Params) : Obj:=⟨(.type "function"),.none,(.func ⟨"_modname","_modname",⟨[],[⟨"path",.none,⟨168,13,168,17⟩⟩],.none,[],[],.none,[]⟩,(.stmts [(.Assign [(.Name "base" ⟨169,4,169,8⟩)] (.Call (.Name "basename" ⟨169,11,169,19⟩) [(.Name "path" ⟨169,20,169,24⟩)] [] ⟨169,11,169,25⟩) ⟨169,4,169,25⟩),(.Assign [(.Tuple [(.Name "filename" ⟨170,4,170,12⟩),(.Name "ext" ⟨170,14,170,17⟩)] 0 ⟨170,4,170,17⟩)] (.Call (.Name "splitext" ⟨170,20,170,28⟩) [(.Name "base" ⟨170,29,170,33⟩)] [] ⟨170,20,170,34⟩) ⟨170,4,170,34⟩),(.Return (.some (.Name "filename" ⟨171,11,171,19⟩)) ⟨171,4,171,19⟩)]),⟨.function,(("path",.local)::("base",.local)::("filename",.local)::("ext",.local)::("basename",.globalImplicit)::("splitext",.globalImplicit)::[]),false,false,[]⟩,3,[],.none,.none,.none,(.str "cpy313.trace" 387),.none,(.ref 190),.none,0⟩),(#[])⟩
noncomputable abbrev o198 (_ : Params) : Obj:=⟨(.type "function"),.none,(.func ⟨"cmp_to_key","cmp_to_key",⟨[],[⟨"mycmp",.none,⟨173,15,173,20⟩⟩],.none,[],[],.none,[]⟩,(.stmts [(.ClassDef "K" [(.Name "object" ⟨175,12,175,18⟩)] [] [(.Assign [(.Name "__module__" ⟨176,8,176,18⟩)] (.Constant (.str "cpy313.functools") 0 ⟨176,21,176,39⟩) ⟨176,8,176,39⟩),(.Assign [(.Name "__slots__" ⟨177,8,177,17⟩)] (.List [(.Constant (.str "obj") 0 ⟨177,21,177,26⟩)] ⟨177,20,177,27⟩) ⟨177,8,177,27⟩),(.FunctionDef "__init__" ⟨[],[⟨"self",.none,⟨179,21,179,25⟩⟩,⟨"obj",.none,⟨179,27,179,30⟩⟩],.none,[],[],.none,[]⟩ [(.Assign [(.Attribute (.Name "self" ⟨180,12,180,16⟩) "obj" ⟨180,12,180,20⟩)] (.Name "obj" ⟨180,23,180,26⟩) ⟨180,12,180,26⟩)] [] .none [] ⟨.function,(("self",.local)::("obj",.local)::[]),false,false,[]⟩ .none "__init__" ⟨179,8,180,26⟩),(.FunctionDef "__lt__" ⟨[],[⟨"self",.none,⟨182,19,182,23⟩⟩,⟨"other",.none,⟨182,25,182,30⟩⟩],.none,[],[],.none,[]⟩ [(.Return (.some (.Compare (.Call (.Name "mycmp" ⟨183,19,183,24⟩) [(.Attribute (.Name "self" ⟨183,25,183,29⟩) "obj" ⟨183,25,183,33⟩),(.Attribute (.Name "other" ⟨183,35,183,40⟩) "obj" ⟨183,35,183,44⟩)] [] ⟨183,19,183,45⟩) [.Lt] [(.Constant (.int 0) 0 ⟨183,48,183,49⟩)] ⟨183,19,183,49⟩)) ⟨183,12,183,49⟩)] [] .none [] ⟨.function,(("self",.local)::("other",.local)::("mycmp",.free)::[]),false,false,[]⟩ .none "__lt__" ⟨182,8,183,49⟩),(.FunctionDef "__gt__" ⟨[],[⟨"self",.none,⟨185,19,185,23⟩⟩,⟨"other",.none,⟨185,25,185,30⟩⟩],.none,[],[],.none,[]⟩ [(.Return (.some (.Compare (.Call (.Name "mycmp" ⟨186,19,186,24⟩) [(.Attribute (.Name "self" ⟨186,25,186,29⟩) "obj" ⟨186,25,186,33⟩),(.Attribute (.Name "other" ⟨186,35,186,40⟩) "obj" ⟨186,35,186,44⟩)] [] ⟨186,19,186,45⟩) [.Gt] [(.Constant (.int 0) 0 ⟨186,48,186,49⟩)] ⟨186,19,186,49⟩)) ⟨186,12,186,49⟩)] [] .none [] ⟨.function,(("self",.local)::("other",.local)::("mycmp",.free)::[]),false,false,[]⟩ .none "__gt__" ⟨185,8,186,49⟩),(.FunctionDef "__eq__" ⟨[],[⟨"self",.none,⟨188,19,188,23⟩⟩,⟨"other",.none,⟨188,25,188,30⟩⟩],.none,[],[],.none,[]⟩ [(.Return (.some (.Compare (.Call (.Name "mycmp" ⟨189,19,189,24⟩) [(.Attribute (.Name "self" ⟨189,25,189,29⟩) "obj" ⟨189,25,189,33⟩),(.Attribute (.Name "other" ⟨189,35,189,40⟩) "obj" ⟨189,35,189,44⟩)] [] ⟨189,19,189,45⟩) [.Eq] [(.Constant (.int 0) 0 ⟨189,49,189,50⟩)] ⟨189,19,189,50⟩)) ⟨189,12,189,50⟩)] [] .none [] ⟨.function,(("self",.local)::("other",.local)::("mycmp",.free)::[]),false,false,[]⟩ .none "__eq__" ⟨188,8,189,50⟩),(.FunctionDef "__le__" ⟨[],[⟨"self",.none,⟨191,19,191,23⟩⟩,⟨"other",.none,⟨191,25,191,30⟩⟩],.none,[],[],.none,[]⟩ [(.Return (.some (.Compare (.Call (.Name "mycmp" ⟨192,19,192,24⟩) [(.Attribute (.Name "self" ⟨192,25,192,29⟩) "obj" ⟨192,25,192,33⟩),(.Attribute (.Name "other" ⟨192,35,192,40⟩) "obj" ⟨192,35,192,44⟩)] [] ⟨192,19,192,45⟩) [.LtE] [(.Constant (.int 0) 0 ⟨192,49,192,50⟩)] ⟨192,19,192,50⟩)) ⟨192,12,192,50⟩)] [] .none [] ⟨.function,(("self",.local)::("other",.local)::("mycmp",.free)::[]),false,false,[]⟩ .none "__le__" ⟨191,8,192,50⟩),(.FunctionDef "__ge__" ⟨[],[⟨"self",.none,⟨194,19,194,23⟩⟩,⟨"other",.none,⟨194,25,194,30⟩⟩],.none,[],[],.none,[]⟩ [(.Return (.some (.Compare (.Call (.Name "mycmp" ⟨195,19,195,24⟩) [(.Attribute (.Name "self" ⟨195,25,195,29⟩) "obj" ⟨195,25,195,33⟩),(.Attribute (.Name "other" ⟨195,35,195,40⟩) "obj" ⟨195,35,195,44⟩)] [] ⟨195,19,195,45⟩) [.GtE] [(.Constant (.int 0) 0 ⟨195,49,195,50⟩)] ⟨195,19,195,50⟩)) ⟨195,12,195,50⟩)] [] .none [] ⟨.function,(("self",.local)::("other",.local)::("mycmp",.free)::[]),false,false,[]⟩ .none "__ge__" ⟨194,8,195,50⟩),(.Assign [(.Name "__hash__" ⟨196,8,196,16⟩)] (.Constant .none 0 ⟨196,19,196,23⟩) ⟨196,8,196,23⟩)] [] [] ⟨.class,(("__module__",.local)::("__slots__",.local)::("__init__",.local)::("__lt__",.local)::("__gt__",.local)::("__eq__",.local)::("__le__",.local)::("__ge__",.local)::("__hash__",.local)::("mycmp",.free)::[]),false,false,[]⟩ .none "K" ["obj"] ⟨175,4,196,23⟩),(.Return (.some (.Name "K" ⟨197,11,197,12⟩)) ⟨197,4,197,12⟩)]),⟨.function,(("mycmp",.cell)::("K",.local)::("object",.globalImplicit)::[]),false,false,[]⟩,3,[],.none,.none,.none,(.str "cpy313.functools" 439),.none,(.ref 197),.none,0⟩),(#[])⟩
noncomputable abbrev o207 (_ : Params) : Obj:=⟨(.type "function"),.none,(.func ⟨"reduce","reduce",⟨[],[⟨"function",.none,⟨199,11,199,19⟩⟩,⟨"sequence",.none,⟨199,21,199,29⟩⟩,⟨"initial",.none,⟨199,31,199,38⟩⟩],.none,[],[],.none,[(.Name "_initial_missing" ⟨199,39,199,55⟩)]⟩,(.stmts [(.Assign [(.Name "it" ⟨200,4,200,6⟩)] (.Call (.Name "iter" ⟨200,9,200,13⟩) [(.Name "sequence" ⟨200,14,200,22⟩)] [] ⟨200,9,200,23⟩) ⟨200,4,200,23⟩),(.If (.Compare (.Name "initial" ⟨201,7,201,14⟩) [.Is] [(.Name "_initial_missing" ⟨201,18,201,34⟩)] ⟨201,7,201,34⟩) [(.Try [(.Assign [(.Name "value" ⟨203,12,203,17⟩)] (.Call (.Name "next" ⟨203,20,203,24⟩) [(.Name "it" ⟨203,25,203,27⟩)] [] ⟨203,20,203,28⟩) ⟨203,12,203,28⟩)] [(.ExceptHandler (.some (.Name "StopIteration" ⟨204,15,204,28⟩)) .none [(.Raise (.some (.Call (.Name "TypeError" ⟨205,18,205,27⟩) [(.Constant (.str "reduce() of empty iterable with no initial value") 0 ⟨205,28,205,78⟩)] [] ⟨205,18,205,79⟩)) (.some (.Constant .none 0 ⟨205,85,205,89⟩)) ⟨205,12,205,89⟩)] ⟨204,8,205,89⟩)] [] [] ⟨202,8,205,89⟩)] [(.Assign [(.Name "value" ⟨207,8,207,13⟩)] (.Name "initial" ⟨207,16,207,23⟩) ⟨207,8,207,23⟩)] ⟨201,4,207,23⟩),(.For (.Name "element" ⟨208,8,208,15⟩) (.Name "it" ⟨208,19,208,21⟩) [(.Assign [(.Name "value" ⟨209,8,209,13⟩)] (.Call (.Name "function" ⟨209,16,209,24⟩) [(.Name "value" ⟨209,25,209,30⟩),(.Name "element" ⟨209,32,209,39⟩)] [] ⟨209,16,209,40⟩) ⟨209,8,209,40⟩)] [] ⟨208,4,209,40⟩),(.Return (.some (.Name "value" ⟨210,11,210,16⟩)) ⟨210,4,210,16⟩)]),⟨.function,(("function",.local)::("sequence",.local)::("initial",.local)::("it",.local)::("value",.local)::("element",.local)::("iter",.globalImplicit)::("_initial_missing",.globalImplicit)::("next",.globalImplicit)::("StopIteration",.globalImplicit)::("TypeError",.globalImplicit)::[]),false,false,[]⟩,3,[],(.ref 200),.none,.none,(.str "cpy313.functools" 439),.none,(.ref 206),.none,0⟩),(#[])⟩
noncomputable abbrev o221 (_ : Params) : Obj:=⟨(.type "function"),.none,(.func ⟨"_get_sep","_get_sep",⟨[],[⟨"path",.none,⟨224,13,224,17⟩⟩],.none,[],[],.none,[]⟩,(.stmts [(.If (.Call (.Name "isinstance" ⟨225,7,225,17⟩) [(.Name "path" ⟨225,18,225,22⟩),(.Name "bytes" ⟨225,24,225,29⟩)] [] ⟨225,7,225,30⟩) [(.Return (.some (.Constant (.bytes [47]) 0 ⟨226,15,226,19⟩)) ⟨226,8,226,19⟩)] [(.Return (.some (.Constant (.str "/") 0 ⟨228,15,228,18⟩)) ⟨228,8,228,18⟩)] ⟨225,4,228,18⟩)]),⟨.function,(("path",.local)::("isinstance",.globalImplicit)::("bytes",.globalImplicit)::[]),false,false,[]⟩,3,[],.none,.none,.none,(.str "cpy313.posixpath" 476),.none,(.ref 220),.none,0⟩),(#[])⟩
noncomputable abbrev o228 (_ : Params) : Obj:=⟨(.type "function"),.none,(.func ⟨"join","join",⟨[],[⟨"a",.none,⟨229,9,229,10⟩⟩],(.some ⟨"p",.none,⟨229,13,229,14⟩⟩),[],[],.none,[]⟩,(.stmts [(.Assign [(.Name "a" ⟨230,4,230,5⟩)] (.Call (.Name "fspath" ⟨230,8,230,14⟩) [(.Name "a" ⟨230,15,230,16⟩)] [] ⟨230,8,230,17⟩) ⟨230,4,230,17⟩),(.Assign [(.Name "sep" ⟨231,4,231,7⟩)] (.Call (.Name "_get_sep" ⟨231,10,231,18⟩) [(.Name "a" ⟨231,19,231,20⟩)] [] ⟨231,10,231,21⟩) ⟨231,4,231,21⟩),(.Assign [(.Name "path" ⟨232,4,232,8⟩)] (.Name "a" ⟨232,11,232,12⟩) ⟨232,4,232,12⟩),(.Try [(.For (.Name "b" ⟨234,12,234,13⟩) (.Name "p" ⟨234,17,234,18⟩) [(.Assign [(.Name "b" ⟨235,12,235,13⟩)] (.Call (.Name "fspath" ⟨235,16,235,22⟩) [(.Name "b" ⟨235,23,235,24⟩)] [] ⟨235,16,235,25⟩) ⟨235,12,235,25⟩),(.If (.BoolOp .Or [(.Call (.Attribute (.Name "b" ⟨236,15,236,16⟩) "startswith" ⟨236,15,236,27⟩) [(.Name "sep" ⟨236,28,236,31⟩)] [] ⟨236,15,236,32⟩),(.UnaryOp .Not (.Name "path" ⟨236,40,236,44⟩) ⟨236,36,236,44⟩)] ⟨236,15,236,44⟩) [(.Assign [(.Name "path" ⟨237,16,237,20⟩)] (.Name "b" ⟨237,23,237,24⟩) ⟨237,16,237,24⟩)] [(.If (.Call (.Attribute (.Name "path" ⟨238,17,238,21⟩) "endswith" ⟨238,17,238,30⟩) [(.Name "sep" ⟨238,31,238,34⟩)] [] ⟨238,17,238,35⟩) [(.AugAssign (.Name "path" ⟨239,16,239,20⟩) .Add (.Name "b" ⟨239,24,239,25⟩) ⟨239,16,239,25⟩)] [(.AugAssign (.Name "path" ⟨241,16,241,20⟩) .Add (.BinOp (.Name "sep" ⟨241,24,241,27⟩) .Add (.Name "b" ⟨241,30,241,31⟩) ⟨241,24,241,31⟩) ⟨241,16,241,31⟩)] ⟨238,12,241,31⟩)] ⟨236,12,241,31⟩)] [] ⟨234,8,241,31⟩)] [(.ExceptHandler (.some (.Tuple [(.Name "TypeError" ⟨242,12,242,21⟩),(.Name "AttributeError" ⟨242,23,242,37⟩),(.Name "BytesWarning" ⟨242,39,242,51⟩)] 0 ⟨242,11,242,52⟩)) .none [(.Expr (.Call (.Name "_check_arg_types" ⟨243,8,243,24⟩) [(.Constant (.str "join") 0 ⟨243,25,243,31⟩),(.Name "a" ⟨243,33,243,34⟩),(.Starred (.Name "p" ⟨243,37,243,38⟩) ⟨243,36,243,38⟩)] [] ⟨243,8,243,39⟩) ⟨243,8,243,39⟩),(.Raise .none .none ⟨244,8,244,13⟩)] ⟨242,4,244,13⟩)] [] [] ⟨233,4,244,13⟩),(.Return (.some (.Name "path" ⟨245,11,245,15⟩)) ⟨245,4,245,15⟩)]),⟨.function,(("a",.local)::("p",.local)::("sep",.local)::("path",.local)::("b",.local)::("fspath",.globalImplicit)::("_get_sep",.globalImplicit)::("TypeError",.globalImplicit)::("AttributeError",.globalImplicit)::("BytesWarning",.globalImplicit)::("_check_arg_types",.globalImplicit)::[]),false,false,[]⟩,3,[],.none,.none,.none,(.str "cpy313.posixpath" 476),.none,(.ref 227),.none,0⟩),(#[])⟩
noncomputable abbrev o235 (_ : Params) : Obj:=⟨(.type "function"),.none,(.func ⟨"dirname","dirname",⟨[],[⟨"p",.none,⟨246,12,246,13⟩⟩],.none,[],[],.none,[]⟩,(.stmts [(.Assign [(.Name "p" ⟨247,4,247,5⟩)] (.Call (.Name "fspath" ⟨247,8,247,14⟩) [(.Name "p" ⟨247,15,247,16⟩)] [] ⟨247,8,247,17⟩) ⟨247,4,247,17⟩),(.Assign [(.Name "sep" ⟨248,4,248,7⟩)] (.Call (.Name "_get_sep" ⟨248,10,248,18⟩) [(.Name "p" ⟨248,19,248,20⟩)] [] ⟨248,10,248,21⟩) ⟨248,4,248,21⟩),(.Assign [(.Name "i" ⟨249,4,249,5⟩)] (.BinOp (.Call (.Attribute (.Name "p" ⟨249,8,249,9⟩) "rfind" ⟨249,8,249,15⟩) [(.Name "sep" ⟨249,16,249,19⟩)] [] ⟨249,8,249,20⟩) .Add (.Constant (.int 1) 0 ⟨249,23,249,24⟩) ⟨249,8,249,24⟩) ⟨249,4,249,24⟩),(.Assign [(.Name "head" ⟨250,4,250,8⟩)] (.Subscript (.Name "p" ⟨250,11,250,12⟩) (.Slice .none (.some (.Name "i" ⟨250,14,250,15⟩)) .none ⟨250,13,250,15⟩) ⟨250,11,250,16⟩) ⟨250,4,250,16⟩),(.If (.BoolOp .And [(.Name "head" ⟨251,7,251,11⟩),(.Compare (.Name "head" ⟨251,16,251,20⟩) [.NotEq] [(.BinOp (.Name "sep" ⟨251,24,251,27⟩) .Mult (.Call (.Name "len" ⟨251,30,251,33⟩) [(.Name "head" ⟨251,34,251,38⟩)] [] ⟨251,30,251,39⟩) ⟨251,24,251,39⟩)] ⟨251,16,251,39⟩)] ⟨251,7,251,39⟩) [(.Assign [(.Name "head" ⟨252,8,252,12⟩)] (.Call (.Attribute (.Name "head" ⟨252,15,252,19⟩) "rstrip" ⟨252,15,252,26⟩) [(.Name "sep" ⟨252,27,252,30⟩)] [] ⟨252,15,252,31⟩) ⟨252,8,252,31⟩)] [] ⟨251,4,252,31⟩),(.Return (.some (.Name "head" ⟨253,11,253,15⟩)) ⟨253,4,253,15⟩)]),⟨.function,(("p",.local)::("sep",.local)::("i",.local)::("head",.local)::("fspath",.globalImplicit)::("_get_sep",.globalImplicit)::("len",.globalImplicit)::[]),false,false,[]⟩,3,[],.none,.none,.none,(.str "cpy313.posixpath" 476),.none,(.ref 234),.none,0⟩),(#[])⟩
noncomputable abbrev o242 (_ : Params) : Obj:=⟨(.type "function"),.none,(.func ⟨"_law_deeper","_law_deeper",⟨[],[⟨"one",.none,⟨255,16,255,19⟩⟩,⟨"other",.none,⟨255,21,255,26⟩⟩],.none,[],[],.none,[]⟩,(.stmts [(.Return (.some (.BinOp (.Call (.Attribute (.Name "other" ⟨256,11,256,16⟩) "count" ⟨256,11,256,22⟩) [(.Constant (.str "/") 0 ⟨256,23,256,26⟩)] [] ⟨256,11,256,27⟩) .Sub (.Call (.Attribute (.Name "one" ⟨256,30,256,33⟩) "count" ⟨256,30,256,39⟩) [(.Constant (.str "/") 0 ⟨256,40,256,43⟩)] [] ⟨256,30,256,44⟩) ⟨256,11,256,44⟩)) ⟨256,4,256,44⟩)]),⟨.function,(("one",.local)::("other",.local)::[]),false,false,[]⟩,3,[],.none,.none,.none,(.str "law_kt0042_01" 506),.none,(.ref 241),.none,0⟩),(#[])⟩
noncomputable abbrev o247 (_ : Params) : Obj:=⟨(.type "function"),.none,(.func ⟨"_law_gather","_law_gather",⟨[],[⟨"rows",.none,⟨257,16,257,20⟩⟩,⟨"folder",.none,⟨257,22,257,28⟩⟩],.none,[],[],.none,[]⟩,(.stmts [(.Assign [(.Name "inside" ⟨258,4,258,10⟩)] (.ListComp (.Name "row" ⟨258,14,258,17⟩) [⟨(.Name "row" ⟨258,22,258,25⟩),(.Name "rows" ⟨258,29,258,33⟩),[(.Compare (.Call (.Name "dirname" ⟨258,37,258,44⟩) [(.Subscript (.Name "row" ⟨258,45,258,48⟩) (.Constant (.int 0) 0 ⟨258,49,258,50⟩) ⟨258,45,258,51⟩)] [] ⟨258,37,258,52⟩) [.Eq] [(.Name "folder" ⟨258,56,258,62⟩)] ⟨258,37,258,62⟩)],0⟩] ⟨.function,((".0",.local)::("row",.local)::("dirname",.globalImplicit)::("folder",.free)::[]),false,false,[]⟩ ⟨258,13,258,63⟩) ⟨258,4,258,63⟩),(.Assign [(.Name "votes" ⟨259,4,259,9⟩)] (.ListComp (.Call (.Name "len" ⟨259,13,259,16⟩) [(.ListComp (.Name "row" ⟨259,18,259,21⟩) [⟨(.Name "row" ⟨259,26,259,29⟩),(.Name "inside" ⟨259,33,259,39⟩),[(.Compare (.Name "x" ⟨259,43,259,44⟩) [.In] [(.Subscript (.Name "row" ⟨259,48,259,51⟩) (.Constant (.int 2) 0 ⟨259,52,259,53⟩) ⟨259,48,259,54⟩)] ⟨259,43,259,54⟩)],0⟩] ⟨.function,((".0",.local)::("row",.local)::("x",.free)::[]),false,false,[]⟩ ⟨259,17,259,55⟩)] [] ⟨259,13,259,56⟩) [⟨(.Name "x" ⟨259,61,259,62⟩),(.Tuple [(.Constant (.int 0) 0 ⟨259,67,259,68⟩),(.Constant (.int 1) 0 ⟨259,70,259,71⟩),(.Constant (.int 2) 0 ⟨259,73,259,74⟩)] 0 ⟨259,66,259,75⟩),[],0⟩] ⟨.function,((".0",.local)::("x",.cell)::("len",.globalImplicit)::("inside",.free)::[]),false,false,[]⟩ ⟨259,12,259,76⟩) ⟨259,4,259,76⟩),(.Assign [(.Name "most" ⟨260,4,260,8⟩)] (.Call (.Name "max" ⟨260,11,260,14⟩) [(.Name "votes" ⟨260,15,260,20⟩)] [] ⟨260,11,260,21⟩) ⟨260,4,260,21⟩),(.Assign [(.Name "changes" ⟨261,4,261,11⟩)] (.BinOp (.BinOp (.Call (.Name "sum" ⟨261,14,261,17⟩) [(.ListComp (.Subscript (.Name "row" ⟨261,19,261,22⟩) (.Constant (.int 1) 0 ⟨261,23,261,24⟩) ⟨261,19,261,25⟩) [⟨(.Name "row" ⟨261,30,261,33⟩),(.Name "inside" ⟨261,37,261,43⟩),[],0⟩] ⟨.function,((".0",.local)::("row",.local)::[]),false,false,[]⟩ ⟨261,18,261,44⟩)] [] ⟨261,14,261,45⟩) .Add (.Call (.Name "len" ⟨261,48,261,51⟩) [(.Name "inside" ⟨261,52,261,58⟩)] [] ⟨261,48,261,59⟩) ⟨261,14,261,59⟩) .Sub (.Name "most" ⟨261,62,261,66⟩) ⟨261,14,261,66⟩) ⟨261,4,261,66⟩),(.Return (.some (.BinOp (.Name "rows" ⟨262,11,262,15⟩) .Add (.List [(.Tuple [(.Name "folder" ⟨262,20,262,26⟩),(.Name "changes" ⟨262,28,262,35⟩),(.ListComp (.Name "x" ⟨262,38,262,39⟩) [⟨(.Name "x" ⟨262,44,262,45⟩),(.Tuple [(.Constant (.int 0) 0 ⟨262,50,262,51⟩),(.Constant (.int 1) 0 ⟨262,53,262,54⟩),(.Constant (.int 2) 0 ⟨262,56,262,57⟩)] 0 ⟨262,49,262,58⟩),[(.Compare (.Subscript (.Name "votes" ⟨262,62,262,67⟩) (.Name "x" ⟨262,68,262,69⟩) ⟨262,62,262,70⟩) [.Eq] [(.Name "most" ⟨262,74,262,78⟩)] ⟨262,62,262,78⟩)],0⟩] ⟨.function,((".0",.local)::("x",.local)::("most",.free)::("votes",.free)::[]),false,false,[]⟩ ⟨262,37,262,79⟩)] 0 ⟨262,19,262,80⟩)] ⟨262,18,262,81⟩) ⟨262,11,262,81⟩)) ⟨262,4,262,81⟩)]),⟨.function,(("rows",.local)::("folder",.cell)::("inside",.cell)::("votes",.cell)::("most",.cell)::("changes",.local)::("max",.globalImplicit)::("sum",.globalImplicit)::("len",.globalImplicit)::[]),false,false,[⟨"fast",(.str "rows")⟩,⟨"fast",(.str "folder")⟩,⟨"fast",(.str "row")⟩,⟨"fast",(.str "inside")⟩,⟨"fast",(.str "x")⟩,⟨"fast",(.str "votes")⟩,⟨"fast",(.str "most")⟩,⟨"fast",(.str "changes")⟩]⟩,3,[],.none,.none,.none,(.str "law_kt0042_01" 506),.none,(.ref 246),.none,0⟩),(#[])⟩
noncomputable abbrev o254 (_ : Params) : Obj:=⟨(.type "function"),.none,(.func ⟨"_law_down","_law_down",⟨[],[⟨"chosen",.none,⟨263,14,263,20⟩⟩,⟨"row",.none,⟨263,22,263,25⟩⟩],.none,[],[],.none,[]⟩,(.stmts [(.Assign [(.Name "above" ⟨264,4,264,9⟩)] (.Call (.Name "dirname" ⟨264,12,264,19⟩) [(.Subscript (.Name "row" ⟨264,20,264,23⟩) (.Constant (.int 0) 0 ⟨264,24,264,25⟩) ⟨264,20,264,26⟩)] [] ⟨264,12,264,27⟩) ⟨264,4,264,27⟩),(.If (.BoolOp .And [(.Compare (.Name "above" ⟨265,7,265,12⟩) [.In] [(.Name "chosen" ⟨265,16,265,22⟩)] ⟨265,7,265,22⟩),(.Compare (.Subscript (.Name "chosen" ⟨265,27,265,33⟩) (.Name "above" ⟨265,34,265,39⟩) ⟨265,27,265,40⟩) [.In] [(.Subscript (.Name "row" ⟨265,44,265,47⟩) (.Constant (.int 2) 0 ⟨265,48,265,49⟩) ⟨265,44,265,50⟩)] ⟨265,27,265,50⟩)] ⟨265,7,265,50⟩) [(.Assign [(.Subscript (.Name "chosen" ⟨266,8,266,14⟩) (.Subscript (.Name "row" ⟨266,15,266,18⟩) (.Constant (.int 0) 0 ⟨266,19,266,20⟩) ⟨266,15,266,21⟩) ⟨266,8,266,22⟩)] (.Subscript (.Name "chosen" ⟨266,25,266,31⟩) (.Name "above" ⟨266,32,266,37⟩) ⟨266,25,266,38⟩) ⟨266,8,266,38⟩)] [(.Assign [(.Subscript (.Name "chosen" ⟨268,8,268,14⟩) (.Subscript (.Name "row" ⟨268,15,268,18⟩) (.Constant (.int 0) 0 ⟨268,19,268,20⟩) ⟨268,15,268,21⟩) ⟨268,8,268,22⟩)] (.Subscript (.Subscript (.Name "row" ⟨268,25,268,28⟩) (.Constant (.int 2) 0 ⟨268,29,268,30⟩) ⟨268,25,268,31⟩) (.Constant (.int 0) 0 ⟨268,32,268,33⟩) ⟨268,25,268,34⟩) ⟨268,8,268,34⟩)] ⟨265,4,268,34⟩),(.Return (.some (.Name "chosen" ⟨269,11,269,17⟩)) ⟨269,4,269,17⟩)]),⟨.function,(("chosen",.local)::("row",.local)::("above",.local)::("dirname",.globalImplicit)::[]),false,false,[]⟩,3,[],.none,.none,.none,(.str "law_kt0042_01" 506),.none,(.ref 253),.none,0⟩),(#[])⟩
noncomputable abbrev o259 (_ : Params) : Obj:=⟨(.type "function"),.none,(.func ⟨"_law_fewest","_law_fewest",⟨[],[⟨"ups",.none,⟨270,16,270,19⟩⟩,⟨"things",.none,⟨270,21,270,27⟩⟩],.none,[],[],.none,[]⟩,(.stmts [(.Assign [(.Name "misses" ⟨271,4,271,10⟩)] (.ListComp (.ListComp (.Call (.Name "len" ⟨271,15,271,18⟩) [(.ListComp (.Name "m" ⟨271,20,271,21⟩) [⟨(.Tuple [(.Name "f" ⟨271,26,271,27⟩),(.Name "m" ⟨271,29,271,30⟩)] 0 ⟨271,26,271,30⟩),(.Name "things" ⟨271,34,271,40⟩),[(.BoolOp .And [(.Compare (.Name "f" ⟨271,44,271,45⟩) [.Eq] [(.Name "k" ⟨271,49,271,50⟩)] ⟨271,44,271,50⟩),(.Compare (.Name "m" ⟨271,55,271,56⟩) [.NotEq] [(.Name "x" ⟨271,60,271,61⟩)] ⟨271,55,271,61⟩)] ⟨271,44,271,61⟩)],0⟩] ⟨.function,((".0",.local)::("f",.local)::("m",.local)::("k",.free)::("x",.free)::[]),false,false,[]⟩ ⟨271,19,271,62⟩)] [] ⟨271,15,271,63⟩) [⟨(.Name "x" ⟨271,68,271,69⟩),(.Tuple [(.Constant (.int 0) 0 ⟨271,74,271,75⟩),(.Constant (.int 1) 0 ⟨271,77,271,78⟩),(.Constant (.int 2) 0 ⟨271,80,271,81⟩)] 0 ⟨271,73,271,82⟩),[],0⟩] ⟨.function,((".0",.local)::("x",.cell)::("len",.globalImplicit)::("k",.free)::("things",.free)::[]),false,false,[]⟩ ⟨271,14,271,83⟩) [⟨(.Name "k" ⟨271,88,271,89⟩),(.Call (.Name "range" ⟨271,93,271,98⟩) [(.Constant (.int 4) 0 ⟨271,99,271,100⟩)] [] ⟨271,93,271,101⟩),[],0⟩] ⟨.function,((".0",.local)::("k",.cell)::("things",.free)::[]),false,false,[]⟩ ⟨271,13,271,102⟩) ⟨271,4,271,102⟩),(.Assign [(.Name "ways" ⟨272,4,272,8⟩)] (.List [] ⟨272,11,272,13⟩) ⟨272,4,272,13⟩),(.For (.Name "code" ⟨273,8,273,12⟩) (.Call (.Name "range" ⟨273,16,273,21⟩) [(.Constant (.int 81) 0 ⟨273,22,273,24⟩)] [] ⟨273,16,273,25⟩) [(.Assign [(.Name "way" ⟨274,8,274,11⟩)] (.List [(.BinOp (.Name "code" ⟨274,15,274,19⟩) .FloorDiv (.Constant (.int 27) 0 ⟨274,23,274,25⟩) ⟨274,15,274,25⟩),(.BinOp (.BinOp (.Name "code" ⟨274,27,274,31⟩) .FloorDiv (.Constant (.int 9) 0 ⟨274,35,274,36⟩) ⟨274,27,274,36⟩) .Mod (.Constant (.int 3) 0 ⟨274,39,274,40⟩) ⟨274,27,274,40⟩),(.BinOp (.BinOp (.Name "code" ⟨274,42,274,46⟩) .FloorDiv (.Constant (.int 3) 0 ⟨274,50,274,51⟩) ⟨274,42,274,51⟩) .Mod (.Constant (.int 3) 0 ⟨274,54,274,55⟩) ⟨274,42,274,55⟩),(.BinOp (.Name "code" ⟨274,57,274,61⟩) .Mod (.Constant (.int 3) 0 ⟨274,64,274,65⟩) ⟨274,57,274,65⟩)] ⟨274,14,274,66⟩) ⟨274,8,274,66⟩),(.Assign [(.Name "changes" ⟨275,8,275,15⟩)] (.Call (.Name "sum" ⟨275,18,275,21⟩) [(.ListComp (.Subscript (.Subscript (.Name "misses" ⟨275,23,275,29⟩) (.Name "k" ⟨275,30,275,31⟩) ⟨275,23,275,32⟩) (.Subscript (.Name "way" ⟨275,33,275,36⟩) (.Name "k" ⟨275,37,275,38⟩) ⟨275,33,275,39⟩) ⟨275,23,275,40⟩) [⟨(.Name "k" ⟨275,45,275,46⟩),(.Call (.Name "range" ⟨275,50,275,55⟩) [(.Constant (.int 4) 0 ⟨275,56,275,57⟩)] [] ⟨275,50,275,58⟩),[],0⟩] ⟨.function,((".0",.local)::("k",.local)::("misses",.free)::("way",.free)::[]),false,false,[]⟩ ⟨275,22,275,59⟩)] [] ⟨275,18,275,60⟩) ⟨275,8,275,60⟩),(.For (.Name "k" ⟨276,12,276,13⟩) (.Tuple [(.Constant (.int 1) 0 ⟨276,18,276,19⟩),(.Constant (.int 2) 0 ⟨276,21,276,22⟩),(.Constant (.int 3) 0 ⟨276,24,276,25⟩)] 0 ⟨276,17,276,26⟩) [(.If (.Compare (.Subscript (.Name "way" ⟨277,15,277,18⟩) (.Name "k" ⟨277,19,277,20⟩) ⟨277,15,277,21⟩) [.NotEq] [(.Subscript (.Name "way" ⟨277,25,277,28⟩) (.Subscript (.Name "ups" ⟨277,29,277,32⟩) (.Name "k" ⟨277,33,277,34⟩) ⟨277,29,277,35⟩) ⟨277,25,277,36⟩)] ⟨277,15,277,36⟩) [(.Assign [(.Name "changes" ⟨278,16,278,23⟩)] (.BinOp (.Name "changes" ⟨278,26,278,33⟩) .Add (.Constant (.int 1) 0 ⟨278,36,278,37⟩) ⟨278,26,278,37⟩) ⟨278,16,278,37⟩)] [] ⟨277,12,278,37⟩)] [] ⟨276,8,278,37⟩),(.Expr (.Call (.Attribute (.Name "ways" ⟨279,8,279,12⟩) "append" ⟨279,8,279,19⟩) [(.Tuple [(.Name "changes" ⟨279,21,279,28⟩),(.Subscript (.Name "way" ⟨279,30,279,33⟩) (.Constant (.int 0) 0 ⟨279,34,279,35⟩) ⟨279,30,279,36⟩)] 0 ⟨279,20,279,37⟩)] [] ⟨279,8,279,38⟩) ⟨279,8,279,38⟩)] [] ⟨273,4,279,38⟩),(.Assign [(.Name "fewest" ⟨280,4,280,10⟩)] (.Subscript (.Call (.Name "min" ⟨280,13,280,16⟩) [(.Name "ways" ⟨280,17,280,21⟩)] [] ⟨280,13,280,22⟩) (.Constant (.int 0) 0 ⟨280,23,280,24⟩) ⟨280,13,280,25⟩) ⟨280,4,280,25⟩),(.Return (.some (.Tuple [(.Name "fewest" ⟨281,12,281,18⟩),(.ListComp (.Name "x" ⟨281,21,281,22⟩) [⟨(.Name "x" ⟨281,27,281,28⟩),(.Tuple [(.Constant (.int 0) 0 ⟨281,33,281,34⟩),(.Constant (.int 1) 0 ⟨281,36,281,37⟩),(.Constant (.int 2) 0 ⟨281,39,281,40⟩)] 0 ⟨281,32,281,41⟩),[(.Compare (.Tuple [(.Name "fewest" ⟨281,46,281,52⟩),(.Name "x" ⟨281,54,281,55⟩)] 0 ⟨281,45,281,56⟩) [.In] [(.Name "ways" ⟨281,60,281,64⟩)] ⟨281,45,281,64⟩)],0⟩] ⟨.function,((".0",.local)::("x",.local)::("fewest",.free)::("ways",.free)::[]),false,false,[]⟩ ⟨281,20,281,65⟩)] 0 ⟨281,11,281,66⟩)) ⟨281,4,281,66⟩)]),⟨.function,(("ups",.local)::("things",.cell)::("k",.local)::("misses",.cell)::("ways",.cell)::("code",.local)::("way",.cell)::("changes",.local)::("fewest",.cell)::("range",.globalImplicit)::("sum",.globalImplicit)::("min",.globalImplicit)::[]),false,false,[⟨"fast",(.str "ups")⟩,⟨"fast",(.str "things")⟩,⟨"fast",(.str "k")⟩,⟨"fast",(.str "x")⟩,⟨"fast",(.str "f")⟩,⟨"fast",(.str "m")⟩,⟨"fast",(.str "misses")⟩,⟨"fast",(.str "ways")⟩,⟨"fast",(.str "code")⟩,⟨"fast",(.str "way")⟩,⟨"fast",(.str "changes")⟩,⟨"fast",(.str "fewest")⟩]⟩,3,[],.none,.none,.none,(.str "law_kt0042_01" 506),.none,(.ref 258),.none,0⟩),(#[])⟩
noncomputable abbrev o264 (_ : Params) : Obj:=⟨(.type "function"),.none,(.func ⟨"law","law",⟨[],[⟨"script",.none,⟨282,8,282,14⟩⟩],.none,[],[],.none,[]⟩,(.stmts [(.Assign [(.Name "total" ⟨283,4,283,9⟩)] (.Call (.Name "sum" ⟨283,12,283,15⟩) [(.Name "script" ⟨283,16,283,22⟩)] [] ⟨283,12,283,23⟩) ⟨283,4,283,23⟩),(.Assign [(.Name "ups" ⟨284,4,284,7⟩)] (.List [(.Constant (.int 0) 0 ⟨284,11,284,12⟩),(.Constant (.int 0) 0 ⟨284,14,284,15⟩),(.BinOp (.Name "total" ⟨284,17,284,22⟩) .Mod (.Constant (.int 2) 0 ⟨284,25,284,26⟩) ⟨284,17,284,26⟩),(.BinOp (.BinOp (.Name "total" ⟨284,28,284,33⟩) .FloorDiv (.Constant (.int 2) 0 ⟨284,37,284,38⟩) ⟨284,28,284,38⟩) .Mod (.Constant (.int 3) 0 ⟨284,41,284,42⟩) ⟨284,28,284,42⟩)] ⟨284,10,284,43⟩) ⟨284,4,284,43⟩),(.Assign [(.Name "shut" ⟨285,4,285,8⟩)] (.List [(.BinOp (.Constant (.int 1) 0 ⟨285,12,285,13⟩) .Add (.BinOp (.BinOp (.Name "total" ⟨285,16,285,21⟩) .FloorDiv (.Constant (.int 6) 0 ⟨285,25,285,26⟩) ⟨285,16,285,26⟩) .Mod (.Constant (.int 3) 0 ⟨285,29,285,30⟩) ⟨285,16,285,30⟩) ⟨285,12,285,30⟩),(.BinOp (.Constant (.int 1) 0 ⟨285,32,285,33⟩) .Add (.BinOp (.BinOp (.Name "total" ⟨285,36,285,41⟩) .FloorDiv (.Constant (.int 18) 0 ⟨285,45,285,47⟩) ⟨285,36,285,47⟩) .Mod (.Constant (.int 3) 0 ⟨285,50,285,51⟩) ⟨285,36,285,51⟩) ⟨285,32,285,51⟩)] ⟨285,11,285,52⟩) ⟨285,4,285,52⟩),(.Assign [(.Name "bits" ⟨286,4,286,8⟩)] (.BinOp (.BinOp (.BinOp (.Name "total" ⟨286,12,286,17⟩) .FloorDiv (.Constant (.int 54) 0 ⟨286,21,286,23⟩) ⟨286,12,286,23⟩) .Add (.Constant (.int 5) 0 ⟨286,26,286,27⟩) ⟨286,12,286,27⟩) .Mod (.Constant (.int 8) 0 ⟨286,31,286,32⟩) ⟨286,11,286,32⟩) ⟨286,4,286,32⟩),(.Assign [(.Name "drawn" ⟨287,4,287,9⟩)] (.ListComp (.Tuple [(.BinOp (.Name "x" ⟨287,14,287,15⟩) .Mod (.Constant (.int 4) 0 ⟨287,18,287,19⟩) ⟨287,14,287,19⟩),(.BinOp (.BinOp (.Name "x" ⟨287,21,287,22⟩) .FloorDiv (.Constant (.int 4) 0 ⟨287,26,287,27⟩) ⟨287,21,287,27⟩) .Mod (.Constant (.int 4) 0 ⟨287,30,287,31⟩) ⟨287,21,287,31⟩)] 0 ⟨287,13,287,32⟩) [⟨(.Name "x" ⟨287,37,287,38⟩),(.BinOp (.List [(.Constant (.int 9) 0 ⟨287,43,287,44⟩),(.Constant (.int 2) 0 ⟨287,46,287,47⟩),(.Constant (.int 11) 0 ⟨287,49,287,51⟩),(.Constant (.int 12) 0 ⟨287,53,287,55⟩),(.Constant (.int 1) 0 ⟨287,57,287,58⟩)] ⟨287,42,287,59⟩) .Add (.Subscript (.Name "script" ⟨287,62,287,68⟩) (.Slice .none (.some (.Constant (.int 7) 0 ⟨287,70,287,71⟩)) .none ⟨287,69,287,71⟩) ⟨287,62,287,72⟩) ⟨287,42,287,72⟩),[],0⟩] ⟨.function,((".0",.local)::("x",.local)::[]),false,false,[]⟩ ⟨287,12,287,73⟩) ⟨287,4,287,73⟩),(.Assign [(.Name "folders" ⟨288,4,288,11⟩)] (.List [(.Constant (.str "/t") 0 ⟨288,15,288,19⟩)] ⟨288,14,288,20⟩) ⟨288,4,288,20⟩),(.For (.Name "k" ⟨289,8,289,9⟩) (.Tuple [(.Constant (.int 1) 0 ⟨289,14,289,15⟩),(.Constant (.int 2) 0 ⟨289,17,289,18⟩),(.Constant (.int 3) 0 ⟨289,20,289,21⟩)] 0 ⟨289,13,289,22⟩) [(.Expr (.Call (.Attribute (.Name "folders" ⟨290,8,290,15⟩) "append" ⟨290,8,290,22⟩) [(.Call (.Name "join" ⟨290,23,290,27⟩) [(.Subscript (.Name "folders" ⟨290,28,290,35⟩) (.Subscript (.Name "ups" ⟨290,36,290,39⟩) (.Name "k" ⟨290,40,290,41⟩) ⟨290,36,290,42⟩) ⟨290,28,290,43⟩),(.Subscript (.List [(.Constant (.str "t") 0 ⟨290,46,290,49⟩),(.Constant (.str "a") 0 ⟨290,51,290,54⟩),(.Constant (.str "ab") 0 ⟨290,56,290,60⟩),(.Constant (.str "b") 0 ⟨290,62,290,65⟩)] ⟨290,45,290,66⟩) (.Name "k" ⟨290,67,290,68⟩) ⟨290,45,290,69⟩)] [] ⟨290,23,290,70⟩)] [] ⟨290,8,290,71⟩) ⟨290,8,290,71⟩)] [] ⟨289,4,290,71⟩),(.Assign [(.Name "files" ⟨291,4,291,9⟩)] (.ListComp (.Call (.Name "join" ⟨291,13,291,17⟩) [(.Subscript (.Name "folders" ⟨291,18,291,25⟩) (.Name "f" ⟨291,26,291,27⟩) ⟨291,18,291,28⟩),(.BinOp (.Subscript (.List [(.Constant (.str "a") 0 ⟨291,31,291,34⟩),(.Constant (.str "a.b") 0 ⟨291,36,291,41⟩),(.Constant (.str "ab") 0 ⟨291,43,291,47⟩),(.Constant (.str "b.a") 0 ⟨291,49,291,54⟩)] ⟨291,30,291,55⟩) (.Name "s" ⟨291,56,291,57⟩) ⟨291,30,291,58⟩) .Add (.Constant (.str ".py") 0 ⟨291,61,291,66⟩) ⟨291,30,291,66⟩)] [] ⟨291,13,291,67⟩) [⟨(.Tuple [(.Name "f" ⟨291,72,291,73⟩),(.Name "s" ⟨291,75,291,76⟩)] 0 ⟨291,72,291,76⟩),(.Name "drawn" ⟨291,80,291,85⟩),[],0⟩] ⟨.function,((".0",.local)::("f",.local)::("s",.local)::("join",.globalImplicit)::("folders",.free)::[]),false,false,[]⟩ ⟨291,12,291,86⟩) ⟨291,4,291,86⟩),(.Assign [(.Name "first" ⟨292,4,292,9⟩)] (.Call (.Name "_Ignore" ⟨292,12,292,19⟩) [(.Constant .none 0 ⟨292,20,292,24⟩),(.ListComp (.Call (.Name "join" ⟨292,27,292,31⟩) [(.Subscript (.Name "folders" ⟨292,32,292,39⟩) (.Name "k" ⟨292,40,292,41⟩) ⟨292,32,292,42⟩),(.Constant (.str "x") 0 ⟨292,44,292,47⟩),(.Constant (.str "..") 0 ⟨292,49,292,53⟩),(.Constant (.str "") 0 ⟨292,55,292,57⟩)] [] ⟨292,27,292,58⟩) [⟨(.Name "k" ⟨292,63,292,64⟩),(.Name "shut" ⟨292,68,292,72⟩),[],0⟩] ⟨.function,((".0",.local)::("k",.local)::("join",.globalImplicit)::("folders",.free)::[]),false,false,[]⟩ ⟨292,26,292,73⟩)] [] ⟨292,12,292,74⟩) ⟨292,4,292,74⟩),(.Assign [(.Name "second" ⟨293,4,293,10⟩)] (.Call (.Name "_Ignore" ⟨293,13,293,20⟩) [(.ListComp (.Subscript (.List [(.Constant (.str "a") 0 ⟨293,23,293,26⟩),(.Constant (.str "ab") 0 ⟨293,28,293,32⟩),(.Constant (.str "b.a") 0 ⟨293,34,293,39⟩)] ⟨293,22,293,40⟩) (.Name "k" ⟨293,41,293,42⟩) ⟨293,22,293,43⟩) [⟨(.Name "k" ⟨293,48,293,49⟩),(.Tuple [(.Constant (.int 0) 0 ⟨293,54,293,55⟩),(.Constant (.int 1) 0 ⟨293,57,293,58⟩),(.Constant (.int 2) 0 ⟨293,60,293,61⟩)] 0 ⟨293,53,293,62⟩),[(.Compare (.BinOp (.BinOp (.Name "bits" ⟨293,66,293,70⟩) .RShift (.Name "k" ⟨293,74,293,75⟩) ⟨293,66,293,75⟩) .BitAnd (.Constant (.int 1) 0 ⟨293,78,293,79⟩) ⟨293,66,293,79⟩) [.Eq] [(.Constant (.int 1) 0 ⟨293,83,293,84⟩)] ⟨293,66,293,84⟩)],0⟩] ⟨.function,((".0",.local)::("k",.local)::("bits",.free)::[]),false,false,[]⟩ ⟨293,21,293,85⟩),(.Constant .none 0 ⟨293,87,293,91⟩)] [] ⟨293,13,293,92⟩) ⟨293,4,293,92⟩),(.Assign [(.Name "marks" ⟨294,4,294,9⟩)] (.ListComp (.BinOp (.Call (.Attribute (.Name "first" ⟨294,13,294,18⟩) "names" ⟨294,13,294,24⟩) [(.Name "path" ⟨294,25,294,29⟩),(.Name "path" ⟨294,31,294,35⟩)] [] ⟨294,13,294,36⟩) .Add (.Call (.Attribute (.Name "second" ⟨294,39,294,45⟩) "names" ⟨294,39,294,51⟩) [(.Name "path" ⟨294,52,294,56⟩),(.Call (.Name "_modname" ⟨294,58,294,66⟩) [(.Name "path" ⟨294,67,294,71⟩)] [] ⟨294,58,294,72⟩)] [] ⟨294,39,294,73⟩) ⟨294,13,294,73⟩) [⟨(.Name "path" ⟨294,78,294,82⟩),(.Name "files" ⟨294,86,294,91⟩),[],0⟩] ⟨.function,((".0",.local)::("path",.local)::("_modname",.globalImplicit)::("first",.free)::("second",.free)::[]),false,false,[]⟩ ⟨294,12,294,92⟩) ⟨294,4,294,92⟩),(.Assign [(.Name "due" ⟨295,4,295,7⟩)] (.List [] ⟨295,10,295,12⟩) ⟨295,4,295,12⟩),(.For (.Tuple [(.Name "f" ⟨296,8,296,9⟩),(.Name "s" ⟨296,11,296,12⟩)] 0 ⟨296,8,296,12⟩) (.Name "drawn" ⟨296,16,296,21⟩) [(.Assign [(.Name "lies" ⟨297,8,297,12⟩)] (.IfExp (.Compare (.ListComp (.Name "k" ⟨297,21,297,22⟩) [⟨(.Name "k" ⟨297,27,297,28⟩),(.Tuple [(.Name "f" ⟨297,33,297,34⟩),(.Subscript (.Name "ups" ⟨297,36,297,39⟩) (.Name "f" ⟨297,40,297,41⟩) ⟨297,36,297,42⟩),(.Subscript (.Name "ups" ⟨297,44,297,47⟩) (.Subscript (.Name "ups" ⟨297,48,297,51⟩) (.Name "f" ⟨297,52,297,53⟩) ⟨297,48,297,54⟩) ⟨297,44,297,55⟩)] 0 ⟨297,32,297,56⟩),[(.Compare (.Name "k" ⟨297,60,297,61⟩) [.In] [(.Name "shut" ⟨297,65,297,69⟩)] ⟨297,60,297,69⟩)],0⟩] ⟨.function,((".0",.local)::("k",.local)::("shut",.free)::[]),false,false,[]⟩ ⟨297,20,297,70⟩) [.NotEq] [(.List [] ⟨297,74,297,76⟩)] ⟨297,20,297,76⟩) (.Constant (.int 1) 0 ⟨297,15,297,16⟩) (.Constant (.int 0) 0 ⟨297,82,297,83⟩) ⟨297,15,297,83⟩) ⟨297,8,297,83⟩),(.Expr (.Call (.Attribute (.Name "due" ⟨298,8,298,11⟩) "append" ⟨298,8,298,18⟩) [(.BinOp (.Name "lies" ⟨298,19,298,23⟩) .Add (.BinOp (.BinOp (.Name "bits" ⟨298,27,298,31⟩) .RShift (.Subscript (.Tuple [(.Constant (.int 0) 0 ⟨298,36,298,37⟩),(.Constant (.int 0) 0 ⟨298,39,298,40⟩),(.Constant (.int 1) 0 ⟨298,42,298,43⟩),(.Constant (.int 2) 0 ⟨298,45,298,46⟩)] 0 ⟨298,35,298,47⟩) (.Name "s" ⟨298,48,298,49⟩) ⟨298,35,298,50⟩) ⟨298,27,298,50⟩) .BitAnd (.Constant (.int 1) 0 ⟨298,53,298,54⟩) ⟨298,27,298,54⟩) ⟨298,19,298,55⟩)] [] ⟨298,8,298,56⟩) ⟨298,8,298,56⟩)] [] ⟨296,4,298,56⟩),(.If (.Compare (.Call (.Name "str" ⟨299,7,299,10⟩) [(.Name "marks" ⟨299,11,299,16⟩)] [] ⟨299,7,299,17⟩) [.NotEq] [(.Call (.Name "str" ⟨299,21,299,24⟩) [(.Name "due" ⟨299,25,299,28⟩)] [] ⟨299,21,299,29⟩)] ⟨299,7,299,29⟩) [(.Return (.some (.Constant (.bool false) 0 ⟨300,15,300,20⟩)) ⟨300,8,300,20⟩)] [] ⟨299,4,300,20⟩),(.Assign [(.Name "rows" ⟨301,4,301,8⟩)] (.Call (.Name "reduce" ⟨301,11,301,17⟩) [(.Name "_law_gather" ⟨301,18,301,29⟩),(.Call (.Name "sorted" ⟨301,31,301,37⟩) [(.Name "folders" ⟨301,38,301,45⟩)] [⟨(.some "key"),(.Call (.Name "cmp_to_key" ⟨301,51,301,61⟩) [(.Name "_law_deeper" ⟨301,62,301,73⟩)] [] ⟨301,51,301,74⟩),⟨301,47,301,74⟩⟩] ⟨301,31,301,75⟩),(.ListComp (.Tuple [(.Subscript (.Name "files" ⟨301,79,301,84⟩) (.Name "k" ⟨301,85,301,86⟩) ⟨301,79,301,87⟩),(.Constant (.int 0) 0 ⟨301,89,301,90⟩),(.List [(.Subscript (.Name "marks" ⟨301,93,301,98⟩) (.Name "k" ⟨301,99,301,100⟩) ⟨301,93,301,101⟩)] ⟨301,92,301,102⟩)] 0 ⟨301,78,301,103⟩) [⟨(.Name "k" ⟨301,108,301,109⟩),(.Call (.Name "range" ⟨301,113,301,118⟩) [(.Call (.Name "len" ⟨301,119,301,122⟩) [(.Name "files" ⟨301,123,301,128⟩)] [] ⟨301,119,301,129⟩)] [] ⟨301,113,301,130⟩),[],0⟩] ⟨.function,((".0",.local)::("k",.local)::("files",.free)::("marks",.free)::[]),false,false,[]⟩ ⟨301,77,301,131⟩)] [] ⟨301,11,301,132⟩) ⟨301,4,301,132⟩),(.Assign [(.Tuple [(.Name "fewest" ⟨302,4,302,10⟩),(.Name "tops" ⟨302,12,302,16⟩)] 0 ⟨302,4,302,16⟩)] (.Call (.Name "_law_fewest" ⟨302,19,302,30⟩) [(.Name "ups" ⟨302,31,302,34⟩),(.ListComp (.Tuple [(.Subscript (.Subscript (.Name "drawn" ⟨302,38,302,43⟩) (.Name "k" ⟨302,44,302,45⟩) ⟨302,38,302,46⟩) (.Constant (.int 0) 0 ⟨302,47,302,48⟩) ⟨302,38,302,49⟩),(.Subscript (.Name "due" ⟨302,51,302,54⟩) (.Name "k" ⟨302,55,302,56⟩) ⟨302,51,302,57⟩)] 0 ⟨302,37,302,58⟩) [⟨(.Name "k" ⟨302,63,302,64⟩),(.Call (.Name "range" ⟨302,68,302,73⟩) [(.Call (.Name "len" ⟨302,74,302,77⟩) [(.Name "drawn" ⟨302,78,302,83⟩)] [] ⟨302,74,302,84⟩)] [] ⟨302,68,302,85⟩),[],0⟩] ⟨.function,((".0",.local)::("k",.local)::("drawn",.free)::("due",.free)::[]),false,false,[]⟩ ⟨302,36,302,86⟩)] [] ⟨302,19,302,87⟩) ⟨302,4,302,87⟩),(.If (.Compare (.Subscript (.Name "rows" ⟨303,7,303,11⟩) (.UnaryOp .USub (.Constant (.int 1) 0 ⟨303,13,303,14⟩) ⟨303,12,303,14⟩) ⟨303,7,303,15⟩) [.NotEq] [(.Tuple [(.Constant (.str "/t") 0 ⟨303,20,303,24⟩),(.Name "fewest" ⟨303,26,303,32⟩),(.Name "tops" ⟨303,34,303,38⟩)] 0 ⟨303,19,303,39⟩)] ⟨303,7,303,39⟩) [(.Return (.some (.Constant (.bool false) 0 ⟨304,15,304,20⟩)) ⟨304,8,304,20⟩)] [] ⟨303,4,304,20⟩),(.Assign [(.Name "chosen" ⟨305,4,305,10⟩)] (.Call (.Name "reduce" ⟨305,13,305,19⟩) [(.Name "_law_down" ⟨305,20,305,29⟩),(.Subscript (.Name "rows" ⟨305,31,305,35⟩) (.Slice .none .none (.some (.UnaryOp .USub (.Constant (.int 1) 0 ⟨305,39,305,40⟩) ⟨305,38,305,40⟩)) ⟨305,36,305,40⟩) ⟨305,31,305,41⟩),(.Dict [] [] ⟨305,43,305,45⟩)] [] ⟨305,13,305,46⟩) ⟨305,4,305,46⟩),(.Return (.some (.Compare (.Call (.Name "len" ⟨306,11,306,14⟩) [(.ListComp (.Name "row" ⟨306,16,306,19⟩) [⟨(.Name "row" ⟨306,24,306,27⟩),(.Subscript (.Name "rows" ⟨306,31,306,35⟩) (.Slice .none (.some (.UnaryOp .USub (.Constant (.int 1) 0 ⟨306,38,306,39⟩) ⟨306,37,306,39⟩)) .none ⟨306,36,306,39⟩) ⟨306,31,306,40⟩),[(.Compare (.Subscript (.Name "chosen" ⟨306,44,306,50⟩) (.Subscript (.Name "row" ⟨306,51,306,54⟩) (.Constant (.int 0) 0 ⟨306,55,306,56⟩) ⟨306,51,306,57⟩) ⟨306,44,306,58⟩) [.NotEq] [(.Subscript (.Name "chosen" ⟨306,62,306,68⟩) (.Call (.Name "dirname" ⟨306,69,306,76⟩) [(.Subscript (.Name "row" ⟨306,77,306,80⟩) (.Constant (.int 0) 0 ⟨306,81,306,82⟩) ⟨306,77,306,83⟩)] [] ⟨306,69,306,84⟩) ⟨306,62,306,85⟩)] ⟨306,44,306,85⟩)],0⟩] ⟨.function,((".0",.local)::("row",.local)::("dirname",.globalImplicit)::("chosen",.free)::[]),false,false,[]⟩ ⟨306,15,306,86⟩)] [] ⟨306,11,306,87⟩) [.Eq] [(.Name "fewest" ⟨306,91,306,97⟩)] ⟨306,11,306,97⟩)) ⟨306,4,306,97⟩)]),⟨.function,(("script",.local)::("total",.local)::("ups",.local)::("shut",.cell)::("bits",.cell)::("drawn",.cell)::("folders",.cell)::("k",.local)::("f",.local)::("s",.local)::("files",.cell)::("first",.cell)::("second",.cell)::("marks",.cell)::("due",.cell)::("lies",.local)::("rows",.local)::("fewest",.local)::("tops",.local)::("chosen",.cell)::("sum",.globalImplicit)::("join",.globalImplicit)::("_Ignore",.globalImplicit)::("str",.globalImplicit)::("reduce",.globalImplicit)::("_law_gather",.globalImplicit)::("sorted",.globalImplicit)::("cmp_to_key",.globalImplicit)::("_law_deeper",.globalImplicit)::("range",.globalImplicit)::("len",.globalImplicit)::("_law_fewest",.globalImplicit)::("_law_down",.globalImplicit)::[]),false,false,[⟨"fast",(.str "script")⟩,⟨"fast",(.str "total")⟩,⟨"fast",(.str "ups")⟩,⟨"fast",(.str "shut")⟩,⟨"fast",(.str "bits")⟩,⟨"fast",(.str "x")⟩,⟨"fast",(.str "drawn")⟩,⟨"fast",(.str "folders")⟩,⟨"fast",(.str "k")⟩,⟨"fast",(.str "f")⟩,⟨"fast",(.str "s")⟩,⟨"fast",(.str "files")⟩,⟨"fast",(.str "first")⟩,⟨"fast",(.str "second")⟩,⟨"fast",(.str "path")⟩,⟨"fast",(.str "marks")⟩,⟨"fast",(.str "due")⟩,⟨"fast",(.str "lies")⟩,⟨"fast",(.str "rows")⟩,⟨"fast",(.str "fewest")⟩,⟨"fast",(.str "tops")⟩,⟨"fast",(.str "chosen")⟩,⟨"fast",(.str "row")⟩]⟩,3,[],.none,.none,.none,(.str "law_kt0042_01" 506),.none,(.ref 263),.none,0⟩),(#[])⟩
noncomputable def K2 (P : Params) : Frag:=(nat_lit 0,ob0 P)::(nat_lit 1,ob1 P)::(nat_lit 2,ob2 P)::(nat_lit 3,ob3 P)::(nat_lit 4,ob4 P)::(nat_lit 5,ob5 P)::(nat_lit 6,ob6 P)::(nat_lit 7,ob7 P)::(nat_lit 8,ob8 P)::(nat_lit 9,ob9 P)::(nat_lit 10,ob10 P)::(nat_lit 11,ob11 P)::(nat_lit 12,ob12 P)::(nat_lit 13,ob13 P)::(nat_lit 14,ob14 P)::(nat_lit 15,ob15 P)::(nat_lit 16,ob16 P)::(nat_lit 17,ob17 P)::(nat_lit 18,ob18 P)::(nat_lit 19,ob19 P)::(nat_lit 20,ob20 P)::(nat_lit 21,ob21 P)::(nat_lit 22,ob22 P)::(nat_lit 23,ob23 P)::(nat_lit 24,ob24 P)::(nat_lit 25,ob25 P)::(nat_lit 26,ob26 P)::(nat_lit 27,ob27 P)::(nat_lit 28,ob28 P)::(nat_lit 29,ob29 P)::(nat_lit 36,ob36 P)::(nat_lit 37,ob37 P)::(nat_lit 38,ob38 P)::(nat_lit 39,ob39 P)::(nat_lit 40,ob40 P)::(nat_lit 41,ob41 P)::(nat_lit 42,ob42 P)::(nat_lit 43,ob43 P)::(nat_lit 44,ob44 P)::(nat_lit 45,ob45 P)::(nat_lit 48,ob48 P)::(nat_lit 55,ob55 P)::(nat_lit 56,ob56 P)::(nat_lit 57,ob57 P)::(nat_lit 58,ob58 P)::(nat_lit 59,ob59 P)::(nat_lit 60,ob60 P)::(nat_lit 61,ob61 P)::(nat_lit 62,ob62 P)::(nat_lit 63,ob63 P)::(nat_lit 64,ob64 P)::(nat_lit 65,ob65 P)::(nat_lit 66,ob66 P)::(nat_lit 67,ob67 P)::(nat_lit 68,ob68 P)::(nat_lit 69,ob69 P)::(nat_lit 70,ob70 P)::(nat_lit 71,ob71 P)::(nat_lit 72,ob72 P)::(nat_lit 73,ob73 P)::(nat_lit 74,ob74 P)::(nat_lit 75,ob75 P)::(nat_lit 76,ob76 P)::(nat_lit 77,ob77 P)::(nat_lit 78,ob78 P)::(nat_lit 81,ob81 P)::(nat_lit 82,ob82 P)::(nat_lit 83,ob83 P)::(nat_lit 84,ob84 P)::(nat_lit 85,ob85 P)::(nat_lit 86,ob86 P)::(nat_lit 87,ob87 P)::(nat_lit 88,ob88 P)::(nat_lit 89,ob89 P)::(nat_lit 90,ob90 P)::(nat_lit 91,ob91 P)::(nat_lit 92,ob92 P)::(nat_lit 93,ob93 P)::(nat_lit 94,o94 P)::(nat_lit 95,ob95 P)::(nat_lit 96,ob96 P)::(nat_lit 97,ob97 P)::(nat_lit 98,ob98 P)::(nat_lit 99,ob99 P)::(nat_lit 100,ob100 P)::(nat_lit 101,o101 P)::(nat_lit 102,ob102 P)::(nat_lit 103,ob103 P)::(nat_lit 104,ob104 P)::(nat_lit 105,ob105 P)::(nat_lit 106,ob106 P)::(nat_lit 107,ob107 P)::(nat_lit 108,o108 P)::(nat_lit 109,ob109 P)::(nat_lit 110,ob110 P)::(nat_lit 111,ob111 P)::(nat_lit 112,ob112 P)::(nat_lit 113,ob113 P)::(nat_lit 114,ob114 P)::(nat_lit 115,o115 P)::(nat_lit 116,ob116 P)::(nat_lit 117,ob117 P)::(nat_lit 118,ob118 P)::(nat_lit 119,ob119 P)::(nat_lit 120,ob120 P)::(nat_lit 121,ob121 P)::(nat_lit 122,o122 P)::(nat_lit 123,ob123 P)::(nat_lit 124,ob124 P)::(nat_lit 125,ob125 P)::(nat_lit 126,ob126 P)::(nat_lit 127,ob127 P)::(nat_lit 128,ob128 P)::(nat_lit 129,o129 P)::(nat_lit 130,ob130 P)::(nat_lit 131,ob131 P)::(nat_lit 132,ob132 P)::(nat_lit 133,ob133 P)::(nat_lit 134,ob134 P)::(nat_lit 135,ob135 P)::(nat_lit 136,o136 P)::(nat_lit 137,ob137 P)::(nat_lit 138,ob138 P)::(nat_lit 139,ob139 P)::(nat_lit 140,ob140 P)::(nat_lit 141,ob141 P)::(nat_lit 142,ob142 P)::(nat_lit 143,o143 P)::(nat_lit 144,ob144 P)::(nat_lit 145,ob145 P)::(nat_lit 146,ob146 P)::(nat_lit 147,ob147 P)::(nat_lit 148,ob148 P)::(nat_lit 149,ob149 P)::(nat_lit 150,o150 P)::(nat_lit 151,ob151 P)::(nat_lit 152,ob152 P)::(nat_lit 153,ob153 P)::(nat_lit 154,ob154 P)::(nat_lit 155,ob155 P)::(nat_lit 156,ob156 P)::(nat_lit 157,o157 P)::(nat_lit 165,ob165 P)::(nat_lit 166,ob166 P)::(nat_lit 167,ob167 P)::(nat_lit 168,ob168 P)::(nat_lit 169,ob169 P)::(nat_lit 170,o170 P)::(nat_lit 171,ob171 P)::(nat_lit 172,ob172 P)::(nat_lit 173,ob173 P)::(nat_lit 174,ob174 P)::(nat_lit 175,ob175 P)::(nat_lit 176,ob176 P)::(nat_lit 177,o177 P)::(nat_lit 178,ob178 P)::(nat_lit 179,ob179 P)::(nat_lit 180,ob180 P)::(nat_lit 181,ob181 P)::(nat_lit 182,ob182 P)::(nat_lit 185,ob185 P)::(nat_lit 186,ob186 P)::(nat_lit 187,ob187 P)::(nat_lit 188,ob188 P)::(nat_lit 189,ob189 P)::(nat_lit 190,ob190 P)::(nat_lit 191,o191 P)::(nat_lit 192,ob192 P)::(nat_lit 194,ob194 P)::(nat_lit 195,ob195 P)::(nat_lit 196,ob196 P)::(nat_lit 197,ob197 P)::(nat_lit 198,o198 P)::(nat_lit 199,ob199 P)::(nat_lit 200,ob200 P)::(nat_lit 201,ob201 P)::(nat_lit 202,ob202 P)::(nat_lit 203,ob203 P)::(nat_lit 204,ob204 P)::(nat_lit 205,ob205 P)::(nat_lit 206,ob206 P)::(nat_lit 207,o207 P)::(nat_lit 208,ob208 P)::(nat_lit 209,ob209 P)::(nat_lit 210,ob210 P)::(nat_lit 211,ob211 P)::(nat_lit 212,ob212 P)::(nat_lit 213,ob213 P)::(nat_lit 214,ob214 P)::(nat_lit 215,ob215 P)::(nat_lit 216,ob216 P)::(nat_lit 217,ob217 P)::(nat_lit 218,ob218 P)::(nat_lit 219,ob219 P)::(nat_lit 220,ob220 P)::(nat_lit 221,o221 P)::(nat_lit 222,ob222 P)::(nat_lit 223,ob223 P)::(nat_lit 224,ob224 P)::(nat_lit 225,ob225 P)::(nat_lit 226,ob226 P)::(nat_lit 227,ob227 P)::(nat_lit 228,o228 P)::(nat_lit 229,ob229 P)::(nat_lit 230,ob230 P)::(nat_lit 231,ob231 P)::(nat_lit 232,ob232 P)::(nat_lit 233,ob233 P)::(nat_lit 234,ob234 P)::(nat_lit 235,o235 P)::(nat_lit 236,ob236 P)::(nat_lit 237,ob237 P)::(nat_lit 238,ob238 P)::(nat_lit 239,ob239 P)::(nat_lit 240,ob240 P)::(nat_lit 241,ob241 P)::(nat_lit 242,o242 P)::(nat_lit 243,ob243 P)::(nat_lit 244,ob244 P)::(nat_lit 245,ob245 P)::(nat_lit 246,ob246 P)::(nat_lit 247,o247 P)::(nat_lit 248,ob248 P)::(nat_lit 249,ob249 P)::(nat_lit 250,ob250 P)::(nat_lit 251,ob251 P)::(nat_lit 252,ob252 P)::(nat_lit 253,ob253 P)::(nat_lit 254,o254 P)::(nat_lit 255,ob255 P)::(nat_lit 256,ob256 P)::(nat_lit 257,ob257 P)::(nat_lit 258,ob258 P)::(nat_lit 259,o259 P)::(nat_lit 260,ob260 P)::(nat_lit 261,ob261 P)::(nat_lit 262,ob262 P)::(nat_lit 263,ob263 P)::(nat_lit 264,o264 P)::[]
theorem K2_no (P : Params) : (K2 P).lookup 193 = none := by rfl
theorem lookup_skip {α : Type} {a : Nat} {o : α} : ∀ {l m : List (Nat × α)}, (l ++ m).lookup a = none → ∀ {b : Nat} {p : α}, (l ++ m).lookup b = some p → (l ++ (a, o) :: m).lookup b = some p := by
  intro l m hn b p hp
  have hne : b ≠ a := fun e => by subst e; rw [hn] at hp; cases hp
  induction l with
  | nil => rw [List.nil_append, List.lookup_cons, beq_eq_false_iff_ne.mpr hne]; exact hp
  | cons x l ih =>
    rw [List.cons_append, List.lookup_cons] at hn hp ⊢
    cases q : b == x.1 with
    | true => rw [q] at hp; exact hp
    | false =>
      rw [q] at hp
      cases q' : a == x.1 with
      | true => rw [q'] at hn; cases hn
      | false => rw [q'] at hn; exact ih hn hp
theorem K2_split (P : Params) : (K1 P) = (K2 P).take 168 ++ (193, ob193 P) :: (K2 P).drop 168 := by kernel_rfl
theorem K2_heap (P : Params) : ∀ {b : Addr} {o : Obj}, (K2 P).lookup b = some o → (K1 P).lookup b = some o := fun {_ _} h => by
  rw [K2_split P]
  exact lookup_skip (by rw [List.take_append_drop]; exact K2_no P) (by rw [List.take_append_drop]; exact h)
structure Gnd (w : World) (loose : List Str) (mean : ExcName → Option Value) (mg mb : Str → Option Value) (h : Heap) : Prop where
  K : (K2 w.params).In h
  T : Top topProg loose mean mg mb h
theorem Gnd.keeps {w : World} {loose mean mg mb} {h h' : Heap} (G : Gnd w loose mean mg mb h) (hk : ∀ b o, h.get? b = some o → h'.get? b = some o) : Gnd w loose mean mg mb h' :=
  ⟨G.K.keeps hk, G.T.keeps hk⟩
structure Room (A : Around) (k : Nat) : Prop where
  hd : A.handled = none
  dp : A.depth + k < recursionLimit
  un : A.units + 10 * k + 10 < cLine

theorem Room.less {A : Around} {k j : Nat} (R : Room A k) (h : j ≤ k) : Room A j := ⟨R.hd, by have := R.dp; omega, by have := R.un; omega⟩
theorem Room.deeper {A : Around} {k : Nat} (R : Room A (k + 1)) (e : Env) : Room (A.deeper e) k :=
  ⟨R.hd, by have := R.dp; show A.depth + 1 + k < _; omega, by have := R.un; show A.units + 3 + 10 * k + 10 < _; omega⟩
theorem Room.in1 {A : Around} {k : Nat} (R : Room A (k + 1)) : Room A.in1 (k + 1) → Room A.in1 (k + 1) := id

abbrev PureCall (w : World) (k : Nat) (f : Addr) (vs : List Value) (R : Tok → Value) : Prop :=
  ∀ (loose : List Str) (mean : ExcName → Option Value) (mg mb : Str → Option Value) (A : Around) (s : Shared) (Q E : Value → Shared → Prop),
    Gnd w loose mean mg mb s.heap → Room A k →
    (∀ (t : Tok) (h' : Heap) (tk : Nat), (∀ b o, s.heap.get? b = some o → h'.get? b = some o) → Q (R t) { s with heap := h', toks := tk }) →
    wpAny (model PySem.Challenge.rw_kt0042_01.row.prog w) A (call (.ref f) vs) Q E s

abbrev PureTup (w : World) (k : Nat) (f : Addr) (vs : List Value) (R : List Value → Prop) : Prop :=
  ∀ (loose : List Str) (mean : ExcName → Option Value) (mg mb : Str → Option Value) (A : Around) (s : Shared) (Q E : Value → Shared → Prop),
    Gnd w loose mean mg mb s.heap → Room A k →
    (∀ (T : Addr) (l : List Value) (h' : Heap) (tk : Nat), (∀ b o, s.heap.get? b = some o → h'.get? b = some o) → s.heap.get? T = none →
      h'.get? T = some { cls := .type "tuple", data := .seq l.toArray } → R l → Q (.ref T) { s with heap := h', toks := tk }) →
    wpAny (model PySem.Challenge.rw_kt0042_01.row.prog w) A (call (.ref f) vs) Q E s
abbrev LedCall (w : World) (k : Nat) (f : Addr) (vs : List Value) (args : List (Addr × Obj)) (R : Value → Heap → Heap → Prop) : Prop :=
  ∀ (loose : List Str) (mean : ExcName → Option Value) (mg mb : Str → Option Value) (A : Around) (s : Shared) (Q E : Value → Shared → Prop) (g : Heap),
    Gnd w loose mean mg mb g → (∀ b o, g.get? b = some o → s.heap.get? b = some o) → g.objs.size ≤ s.heap.objs.size → (∀ p ∈ args, s.heap.get? p.1 = some p.2 ∧ g.get? p.1 = none) → Room A k →
    (∀ (v : Value) (h' : Heap) (tk : Nat), R v s.heap h' → Q v { s with heap := h', toks := tk }) →
    wpAny (model PySem.Challenge.rw_kt0042_01.row.prog w) A (call (.ref f) vs) Q E s
theorem led_intro {w : World} {k : Nat} {f : Addr} {vs : List Value} {args : List (Addr × Obj)} {R : Value → Heap → Heap → Prop}
    (h : ∀ (loose : List Str) (mean : ExcName → Option Value) (mg mb : Str → Option Value) (A : Around) (s : Shared) (Q E : Value → Shared → Prop) (g : Heap),
      Gnd w loose mean mg mb g → (∀ b o, g.get? b = some o → s.heap.get? b = some o) → g.objs.size ≤ s.heap.objs.size → (∀ p ∈ args, s.heap.get? p.1 = some p.2 ∧ g.get? p.1 = none) →
      (∀ b o, s.heap.get? b = some o → b ∉ args.map (·.1) → g.get? b = some o) → Room A k →
      (∀ (v : Value) (h' : Heap) (tk : Nat), R v s.heap h' → Q v { s with heap := h', toks := tk }) →
      wpAny (model PySem.Challenge.rw_kt0042_01.row.prog w) A (call (.ref f) vs) Q E s) : LedCall w k f vs args R := by
  intro loose mean mg mb A s Q E g G hkg hsz hargs Rm hret
  have sub : ∀ b o, g.get? b = some o → (hideAll s.heap (args.map (·.1))).get? b = some o := fun b o e => hideAll_get _ (hkg b o e) fun hm => by
    obtain ⟨p, hp, rfl⟩ := List.mem_map.mp hm
    rw [(hargs p hp).2] at e; cases e
  exact h loose mean mg mb A s Q E _ (G.keeps sub) (fun b o e => of_hideAll _ e) (Nat.le_of_eq (hideAll_size _ _)) (fun p hp => ⟨(hargs p hp).1, hideAll_none _ (List.mem_map_of_mem hp)⟩) (fun b o e hb => hideAll_get _ e hb) Rm hret
theorem led_keep {h₀ h h' : Heap} {L : Addr} {m : Str → Option Value} {args news : List (Addr × Obj)} (F : Fr h₀ L h' m) (N : News h₀ L h' news) (hargs : ∀ p ∈ args, h.get? p.1 = some p.2 ∧ h₀.get? p.1 = none)
    (hfull : ∀ b o, h.get? b = some o → b ∉ args.map (·.1) → h₀.get? b = some o) (sub : ∀ p ∈ args, p ∈ news) : ∀ b o, h.get? b = some o → h'.get? b = some o := fun b o e => by
  by_cases hb : b ∈ args.map (·.1)
  · obtain ⟨p, hp, rfl⟩ := List.mem_map.mp hb
    rw [(hargs p hp).1] at e
    rw [(N p (sub p hp)).1]; exact e
  · exact F.keep _ _ (hfull _ _ e hb)
theorem led_size {h₀ h : Heap} {L : Addr} {m : Str → Option Value} (F : Fr h₀ L h m) : h₀.objs.size ≤ h.objs.size := Nat.le_trans F.above (Nat.le_of_lt F.ns.lt)
theorem led_args {h₀ h : Heap} {L : Addr} {news args : List (Addr × Obj)} (N : News h₀ L h news) (sub : ∀ p ∈ args, p ∈ news) : ∀ p ∈ args, h.get? p.1 = some p.2 ∧ h₀.get? p.1 = none := fun p hp => ⟨(N p (sub p hp)).1, (N p (sub p hp)).2.2⟩
theorem news_more {h₀ h h' : Heap} {L T : Addr} {m : Str → Option Value} {news : List (Addr × Obj)} {o : Obj} (F : Fr h₀ L h m) (N : News h₀ L h news)
    (k : ∀ b o, h.get? b = some o → h'.get? b = some o) (hT : h.get? T = none) (ho : h'.get? T = some o) : News h₀ L h' ((T, o) :: news) := fun p hp => by
  rcases List.mem_cons.mp hp with rfl | hp
  · refine ⟨ho, fun e => ?_, ?_⟩
    · obtain ⟨oL, _, _, hL, _⟩ := F.ns
      have e' : T = L := e
      rw [e', hL] at hT; cases hT
    · cases q : h₀.get? T with
      | none => rfl
      | some o' => rw [F.keep _ _ q] at hT; cases hT
  · exact ⟨k _ _ (N p hp).1, (N p hp).2⟩

section
variable {w : World} {A : Around} {s : Shared} {loose : List Str} {mean : ExcName → Option Value} {mg mb : Str → Option Value} {Q E : Value → Shared → Prop}
theorem enter {K : Frag} {prog : Program} {name qual : Str} {params : Arguments} {body : List Stmt} {scope : Scope} {dV kV doc pm cdv ct oc : Value} {an od : Option Addr} {osl : Array (Option Value)} {f : Addr} {vs : List Value} {kw : List (Str × Value)} {binds : List (Str × Value)}
    (X : K.In s.heap) (hlim : s.heap.NoLimit) (hroom : A.depth < recursionLimit)
    (ho : K.lookup f = some ⟨oc, od, .func (fnOf name qual params body scope dV kV doc pm an cdv ct), osl⟩) (hcd : codeIn K cdv qual = true)
    (hbind : BindsTo s (fnOf name qual params body scope dV kV doc pm an cdv ct) ⟨vs, kw⟩ binds) (hloc : ∀ y ∈ binds, scope.names.lookup y.1 = some .local)
    (h : ∀ L h₁, L = s.heap.objs.size → Fr s.heap L h₁ (fun y => binds.reverse.lookup y) → News s.heap L h₁ [] → 
      wpAny (model prog w) (A.deeper (envOf qual scope L f cdv)) (execs body (envOf qual scope L f cdv))
        (fun fl s' => Q (match fl with | .ret v => v | _ => .none) s') (fun _ _ => False)
        { s with heap := h₁, toks := s.toks + binds.length })
    (hco : scope.isCoroutine = false := by rfl) (hgen : scope.isGenerator = false := by rfl) (hk : scope.kind = .function := by rfl)
    (hcell : ∀ x ∈ scope.names, x.2 ≠ .cell := by decide) : wpAny (model prog w) A (call (.ref f) vs kw) Q E s := by
  refine wpAny_call ?_
  refine codeAny_call_def (fd := fnOf name qual params body scope dV kV doc pm an cdv ct) (body := body) (binds := binds) hroom (X _ _ ho) rfl hlim (codeRec_of X hcd) rfl hbind hcell hloc (fun h₁ hns hk₁ => ?_) hco hgen hk
  exact wpAny_mono (h s.heap.objs.size h₁ rfl ⟨hns, hk₁, Nat.le_refl _⟩ News.nil) (fun _ _ x => x) (fun _ _ x => x.elim)
theorem enterG {K : Frag} {prog : Program} {name qual : Str} {params : Arguments} {body : List Stmt} {scope : Scope} {dV kV doc pm cdv ct oc : Value} {an od : Option Addr} {osl : Array (Option Value)} {f : Addr} {vs : List Value} {kw : List (Str × Value)} {binds : List (Str × Value)} {g : Heap} {args : List (Addr × Obj)}
    (X : K.In g) (hkg : ∀ b o, g.get? b = some o → s.heap.get? b = some o) (hsz : g.objs.size ≤ s.heap.objs.size) (hargs : ∀ p ∈ args, s.heap.get? p.1 = some p.2 ∧ g.get? p.1 = none) (hlim : g.NoLimit) (hroom : A.depth < recursionLimit)
    (ho : K.lookup f = some ⟨oc, od, .func (fnOf name qual params body scope dV kV doc pm an cdv ct), osl⟩) (hcd : codeIn K cdv qual = true)
    (hbind : BindsTo s (fnOf name qual params body scope dV kV doc pm an cdv ct) ⟨vs, kw⟩ binds) (hloc : ∀ y ∈ binds, scope.names.lookup y.1 = some .local)
    (h : ∀ L h₁, Fr g L h₁ (fun y => binds.reverse.lookup y) → News g L h₁ args →
      wpAny (model prog w) (A.deeper (envOf qual scope L f cdv)) (execs body (envOf qual scope L f cdv))
        (fun fl s' => Q (match fl with | .ret v => v | _ => .none) s') (fun _ _ => False)
        { s with heap := h₁, toks := s.toks + binds.length })
    (hco : scope.isCoroutine = false := by rfl) (hgen : scope.isGenerator = false := by rfl) (hk : scope.kind = .function := by rfl)
    (hcell : ∀ x ∈ scope.names, x.2 ≠ .cell := by decide) : wpAny (model prog w) A (call (.ref f) vs kw) Q E s := by
  refine enter (X.keeps hkg) (hlim.keeps hkg) hroom ho hcd hbind hloc (fun L h₁ hL F _ => h L h₁ ⟨F.ns, fun b o e => F.keep b o (hkg b o e), Nat.le_trans hsz F.above⟩ fun p hp => ⟨F.keep _ _ (hargs p hp).1, ?_, (hargs p hp).2⟩) hco hgen hk hcell
  rw [hL]; exact Nat.ne_of_lt (Heap.lt_size (hargs p hp).1)
theorem enterR {K : Frag} {prog : Program} {name qual : Str} {params : Arguments} {body : List Stmt} {scope : Scope} {dV kV doc pm cdv ct oc : Value} {an od : Option Addr} {osl : Array (Option Value)} {f : Addr} {vs : List Value} {kw : List (Str × Value)} {binds : List (Str × Value)} {hb : Heap}
    (X : K.In s.heap) (hlim : s.heap.NoLimit) (hroom : A.depth < recursionLimit)
    (ho : K.lookup f = some ⟨oc, od, .func (fnOf name qual params body scope dV kV doc pm an cdv ct), osl⟩) (hcd : codeIn K cdv qual = true)
    (hbind : ∀ (M : Model) (A : Around) (E : Value → Shared → Prop) (Q : List (Str × Value) → Shared → Prop), Q binds { s with heap := hb } → wpAny M A (bindArgs (fnOf name qual params body scope dV kV doc pm an cdv ct) ⟨vs, kw⟩) Q E s)
    (hkeep : ∀ b o, s.heap.get? b = some o → hb.get? b = some o) (hsz : s.heap.objs.size ≤ hb.objs.size)
    (hloc : ∀ y ∈ binds, scope.names.lookup y.1 = some .local)
    (h : ∀ L h₁, L = hb.objs.size → Fr s.heap L h₁ (fun y => binds.reverse.lookup y) → (∀ b o, hb.get? b = some o → h₁.get? b = some o) →
      wpAny (model prog w) (A.deeper (envOf qual scope L f cdv)) (execs body (envOf qual scope L f cdv))
        (fun fl s' => Q (match fl with | .ret v => v | _ => .none) s') (fun _ _ => False)
        { s with heap := h₁, toks := s.toks + binds.length })
    (hco : scope.isCoroutine = false := by rfl) (hgen : scope.isGenerator = false := by rfl) (hk : scope.kind = .function := by rfl)
    (hcell : ∀ x ∈ scope.names, x.2 ≠ .cell := by decide) : wpAny (model prog w) A (call (.ref f) vs kw) Q E s := by
  refine wpAny_call ?_
  refine codeAny_call_function (fd := fnOf name qual params body scope dV kV doc pm an cdv ct) (body := body) hroom (X _ _ ho) rfl hco hgen rfl (codeRec_of X hcd) (hbind _ _ _ _ ?_)
  refine wpAny_newFunctionEnv hcell hloc (fun h₀ hns₀ hsb₀ => ⟨(hlim.keeps hkeep).fresh _ hsb₀, codeAny_func ?_⟩) hk
  have hk₁ : ∀ b o, hb.get? b = some o → h₀.get? b = some o := fun b o e => hsb₀.extBut b o (Nat.ne_of_lt (Heap.lt_size e)) (Heap.get?_push_of_some _ e)
  exact wpAny_mono (h hb.objs.size h₀ rfl ⟨hns₀, fun b o e => hk₁ b o (hkeep b o e), hsz⟩ hk₁) (fun _ _ x => x) (fun _ _ x => x.elim)
end
end Mine
end
open PySem PySem.W PyProof.Rows in
local macro_rules | `(tactic| walk_at $s:str) => `(tactic| k_extra $s)
section
open PySem PySem.W PyProof.Rows
namespace Mine
namespace IS
theorem kind : builtinKind "issubclass" = none := by decide +kernel
theorem plain : plainId "issubclass" = true := by decide +kernel
theorem entry : entryFor table "issubclass" = some Builtin.«issubclass» := entryFor_of_tree (by kernel_rfl)
theorem args (a b : Value) : argsOk "issubclass" ⟨[a, b], []⟩ := by unfold argsOk; kernel_rfl
theorem kindN : builtinKind "issubclass.nested" = none := by decide +kernel
theorem plainN : plainId "issubclass.nested" = true := by decide +kernel
theorem entryN : entryFor table "issubclass.nested" = some Builtin.«issubclass.nested» := entryFor_of_tree (by kernel_rfl)
theorem argsN (a b c : Value) : argsOk "issubclass.nested" ⟨[a, b, c], []⟩ := by unfold argsOk; kernel_rfl
theorem ty : typeOf (.type "str") = pure (.type "type") := rfl
theorem sub : isSubtype (.type "str") (.type "str") = pure true := by rw [isSubtype_type]; kernel_rfl
theorem subT : isSubtype (.type "tuple") (.type "tuple") = pure true := by rw [isSubtype_type]; kernel_rfl
end IS
theorem nested_meets (d : Int) (t : Tok) : Meets (Builtin.«issubclass.nested» ⟨[.type "str", .type "str", .int d t], []⟩) (fun _ R s => R (.ok (.ret (.bool true))) s) := by
  intro prog w A R s hR
  have f1 := IS.ty
  have f2 := IS.sub
  obtain ⟨h, g, d, t, os⟩ := s
  wp_walk
  exact hR
theorem codeAny_fn {prog : Program} {w : World} {A : Around} {s : Shared} {id : String} {B : Builtin} {args : List Value} {S : PySem.Spec} {R : Result → Shared → Prop} (kind : builtinKind id = none) (plain : plainId id = true)
    (entry : entryFor table id = some B) (ok : argsOk id ⟨args, []⟩) (g : Meets (B ⟨args, []⟩) S) (h : S A R s) : codeAny (model prog w) A (.call (.builtin id) ⟨args, []⟩) R s := by
  refine codeAny_call_builtin plain entry ?_
  have hfin := g prog w A R s h
  simp only [checkBuiltinCall, kind]
  cases hsig : Manifest.signature? id with
  | none => exact wpAny_pure hfin
  | some sig =>
    simp only [argsOk, hsig] at ok
    have h2 : Bind.checkArgs id sig ⟨args, []⟩ = pure () := ok
    show wpAny _ _ (Bind.checkArgs id sig ⟨args, []⟩) _ _ s
    rw [h2]; exact wpAny_pure hfin
theorem issub_meets (tp : Addr) : Meets (Builtin.«issubclass» ⟨[.type "str", .ref tp], []⟩) (fun _ R s => s.heap.get? tp = some { cls := .type "tuple", data := .seq [.type "str", .type "bytes"].toArray } ∧ R (.ok (.ret (.bool true))) s) := by
  rintro prog w A R s ⟨htp, hR⟩
  have f1 := IS.ty
  have f2 := IS.subT
  obtain ⟨hp, g, d, t, os⟩ := s
  have hT2 : (⟨hp, g, d, t, os⟩ : Shared).TypeIs (.ref tp) "tuple" := ⟨_, htp, rfl⟩
  wp_walk
  refine ⟨Code.quiet_builtin _ (by decide +kernel), codeAny_builtin IS.entryN ?_⟩
  rw [Around.under_plain (show (Code.builtin "issubclass.nested" ⟨[.type "str", .ref tp, rawInt 0], []⟩).weight = 0 from rfl) rfl]
  wp_walk
  refine codeAny_fn IS.kindN IS.plainN IS.entryN (IS.argsN _ _ _) (nested_meets _ _) ?_
  dsimp only
  wp_walk
  exact hR
theorem issub_call {prog : Program} {w : World} {A : Around} {s : Shared} {Q E : Value → Shared → Prop} {tp : Addr} (htp : s.heap.get? tp = some { cls := .type "tuple", data := .seq [.type "str", .type "bytes"].toArray }) (h : Q (.bool true) s) :
    wpAny (model prog w) A (call (.builtin "issubclass") [.type "str", .ref tp]) Q E s :=
  call_function_meets IS.kind IS.plain IS.entry (IS.args _ _) (issub_meets tp) ⟨htp, h⟩
end Mine
end
section
open PySem PySem.W PyProof.Rows
namespace Mine
theorem ret_str {s : Shared} {Q : Value → Shared → Prop} {f X : Str} {t : Tok} {h' : Heap} {tk : Nat}
    (hret : ∀ (t : Tok) (h' : Heap) (tk : Nat), (∀ b o, s.heap.get? b = some o → h'.get? b = some o) → Q (.str f t) { s with heap := h', toks := tk }) (hk : ∀ b o, s.heap.get? b = some o → h'.get? b = some o) (e : X = f) :
    Q (.str X t) { s with heap := h', toks := tk } := by subst e; exact hret t h' tk hk
theorem getsep_p (w : World) (p : Str) (t : Tok) : PureCall w 1 221 [.str p t] (fun t => .str (Str.ofString "/") t) := by
  k_with_none
  k_with "execs cons" => (k_fold; (with_reducible refine PySem.wpAny_execs_cons ?_))
  intro loose mean mg mb A s Q E G R hret
  obtain ⟨hd0, dp0, fr0, gd0, un0⟩ := A
  obtain rfl : hd0 = none := R.hd
  have X := G.K; revert X; k_fill; intro X
  have T := G.T
  refine' enter (binds := [(Str.ofString "path", .str p t)]) ?k1 ?k2 ?k3 ?k4 ?k5 ?k6 ?k7 ?_ ?c1 ?c2 ?c3 ?c4
  (case k1 => assumption)
  (case k2 => exact T.nolimit)
  (case k3 => exact Nat.lt_of_le_of_lt (Nat.le_add_right _ _) R.dp)
  (case k4 => k_is)
  (case k5 => k_is)
  (case k6 => first | exact BindsTo.of_eq rfl | exact binds_K (by assumption) rfl (by k_is) rfl rfl rfl)
  (case k7 => exact locs rfl)
  (case c1 => exact rfl)
  (case c2 => exact rfl)
  (case c3 => exact rfl)
  (case c4 => decide)
  intro L h₁ hL F N
  try dsimp only
  try k_fold
  k_steps
  first
    | exact hret _ _ _ (Fr.keep (by assumption))
    | exact hret 0 _ _ (Fr.keep (by assumption))
    | (dsimp only; exact hret _ _ _ (Fr.keep (by assumption)))
theorem fspath_p (w : World) (p : Str) (t : Tok) : PureCall w 1 94 [.str p t] (fun _ => .str p t) := by
  k_with_none
  k_with "execs cons" => (k_fold; (with_reducible refine PySem.wpAny_execs_cons ?_))
  k_with "call builtin:issubclass" => (with_unfolding_all refine' issub_call ?k1 ?_; (case k1 => exact News.get (by assumption) (by k_mem)))
  intro loose mean mg mb A s Q E G R hret
  obtain ⟨hd0, dp0, fr0, gd0, un0⟩ := A
  obtain rfl : hd0 = none := R.hd
  have X := G.K; revert X; k_fill; intro X
  have T := G.T
  refine' enter (binds := [(Str.ofString "path", .str p t)]) ?k1 ?k2 ?k3 ?k4 ?k5 ?k6 ?k7 ?_ ?c1 ?c2 ?c3 ?c4
  (case k1 => assumption)
  (case k2 => exact T.nolimit)
  (case k3 => exact Nat.lt_of_le_of_lt (Nat.le_add_right _ _) R.dp)
  (case k4 => k_is)
  (case k5 => k_is)
  (case k6 => first | exact BindsTo.of_eq rfl | exact binds_K (by assumption) rfl (by k_is) rfl rfl rfl)
  (case k7 => exact locs rfl)
  (case c1 => exact rfl)
  (case c2 => exact rfl)
  (case c3 => exact rfl)
  (case c4 => decide)
  intro L h₁ hL F N
  try dsimp only
  try k_fold
  k_steps
  first
    | exact hret _ _ _ (Fr.keep (by assumption))
    | exact hret 0 _ _ (Fr.keep (by assumption))
    | (dsimp only; exact hret _ _ _ (Fr.keep (by assumption)))
noncomputable abbrev headF (p : Str) : Str := Txt.slice p none (some (Txt.rfind p (Str.ofString "/") + 1))
noncomputable def dirnameF (p : Str) : Str :=
  if ((headF p).length : Int) ≠ 0 then
    if (headF p != Txt.mul (Str.ofString "/") ((headF p).length : Int)) = true then Txt.rstripChars (headF p) (Str.ofString "/") else headF p
  else headF p
theorem dirnameF_1 {p : Str} (h1 : ((headF p).length : Int) ≠ 0) (h2 : (headF p != Txt.mul (Str.ofString "/") ((headF p).length : Int)) = true) : Txt.rstripChars (headF p) (Str.ofString "/") = dirnameF p := by
  rw [dirnameF, if_pos h1, if_pos h2]
theorem dirnameF_2 {p : Str} (h1 : ((headF p).length : Int) ≠ 0) (h2 : (headF p != Txt.mul (Str.ofString "/") ((headF p).length : Int)) = false) : headF p = dirnameF p := by
  rw [dirnameF, if_pos h1, if_neg (by rw [h2]; exact Bool.false_ne_true)]
theorem dirnameF_3 {p : Str} (h1 : ((headF p).length : Int) = 0) : headF p = dirnameF p := by
  rw [dirnameF, if_neg (fun h => h h1)]
theorem dirname_p (w : World) (p : Str) (t : Tok) (hp : p.length ≤ 4096) : PureCall w 2 235 [.str p t] (fun t => .str (dirnameF p) t) := by
  k_with_none
  k_with "execs cons" => (k_fold; (with_reducible refine PySem.wpAny_execs_cons ?_))
  k_with "call ref" => ((with_reducible show wpAny _ _ (call (Value.ref 221) _) _ _ _); refine' getsep_p _ _ _  _ _ _ _ _ _ _ _ ?kG ?kR ?_; (case kG => exact Gnd.keeps (by assumption) (Fr.keep (by assumption))); (case kR => first | assumption | exact Room.deeper (by assumption) _ | exact Room.less (Room.deeper (by assumption) _) (by decide)); (intro t' h' tk' k'; (rename Fr _ _ _ _ => F0); (rename News _ _ _ _ => N0); have F' := Fr.keeps F0 k'; have N' := News.grown N0 k'; clear F0 N0; (try dsimp only)))
  k_with "call ref" => ((with_reducible show wpAny _ _ (call (Value.ref 94) _) _ _ _); refine' fspath_p _ _ _  _ _ _ _ _ _ _ _ ?kG ?kR ?_; (case kG => exact Gnd.keeps (by assumption) (Fr.keep (by assumption))); (case kR => first | assumption | exact Room.deeper (by assumption) _ | exact Room.less (Room.deeper (by assumption) _) (by decide)); (intro t' h' tk' k'; (rename Fr _ _ _ _ => F0); (rename News _ _ _ _ => N0); have F' := Fr.keeps F0 k'; have N' := News.grown N0 k'; clear F0 N0; (try dsimp only)))
  intro loose mean mg mb A s Q E G R hret
  obtain ⟨hd0, dp0, fr0, gd0, un0⟩ := A
  obtain rfl : hd0 = none := R.hd
  have X := G.K; revert X; k_fill; intro X
  have T := G.T
  refine' enter (binds := [(Str.ofString "p", .str p t)]) ?k1 ?k2 ?k3 ?k4 ?k5 ?k6 ?k7 ?_ ?c1 ?c2 ?c3 ?c4
  (case k1 => assumption)
  (case k2 => exact T.nolimit)
  (case k3 => exact Nat.lt_of_le_of_lt (Nat.le_add_right _ _) R.dp)
  (case k4 => k_is)
  (case k5 => k_is)
  (case k6 => first | exact BindsTo.of_eq rfl | exact binds_K (by assumption) rfl (by k_is) rfl rfl rfl)
  (case k7 => exact locs rfl)
  (case c1 => exact rfl)
  (case c2 => exact rfl)
  (case c3 => exact rfl)
  (case c4 => decide)
  intro L h₁ hL F N
  try dsimp only
  try k_fold
  k_steps
  all_goals ((try dsimp only); first | refine ret_str hret (Fr.keep (by assumption)) ?_ | skip)
  all_goals with_reducible first | exact dirnameF_1 (by assumption) (by assumption) | exact dirnameF_2 (by assumption) (by assumption) | exact dirnameF_3 (by assumption)
theorem kind_p (w : World) (n p : Str) (u t : Tok) : PureCall w 1 101 [.str n u, .str p t] (fun t => .str (Str.ofString "") t) := by
  k_with_none
  k_with "execs cons" => (k_fold; (with_reducible refine PySem.wpAny_execs_cons ?_))
  intro loose mean mg mb A s Q E G R hret
  obtain ⟨hd0, dp0, fr0, gd0, un0⟩ := A
  obtain rfl : hd0 = none := R.hd
  have X := G.K; revert X; k_fill; intro X
  have T := G.T
  refine' enter (binds := [(Str.ofString "name", .str n u), (Str.ofString "x", .str p t)]) ?k1 ?k2 ?k3 ?k4 ?k5 ?k6 ?k7 ?_ ?c1 ?c2 ?c3 ?c4
  (case k1 => assumption)
  (case k2 => exact T.nolimit)
  (case k3 => exact Nat.lt_of_le_of_lt (Nat.le_add_right _ _) R.dp)
  (case k4 => k_is)
  (case k5 => k_is)
  (case k6 => first | exact BindsTo.of_eq rfl | exact binds_K (by assumption) rfl (by k_is) rfl rfl rfl)
  (case k7 => exact locs rfl)
  (case c1 => exact rfl)
  (case c2 => exact rfl)
  (case c3 => exact rfl)
  (case c4 => decide)
  intro L h₁ hL F N
  try dsimp only
  try k_fold
  k_steps
  first
    | exact hret _ _ _ (Fr.keep (by assumption))
    | exact hret 0 _ _ (Fr.keep (by assumption))
    | (dsimp only; exact hret _ _ _ (Fr.keep (by assumption)))
theorem ufspath_p (w : World) (n p : Str) (u t : Tok) : PureCall w 2 108 [.str n u, .str p t] (fun _ => .str p t) := by
  k_with_none
  k_with "execs cons" => (k_fold; (with_reducible refine PySem.wpAny_execs_cons ?_))
  k_with "call ref" => ((with_reducible show wpAny _ _ (call (Value.ref 101) _) _ _ _); refine' kind_p _ _ _ _ _  _ _ _ _ _ _ _ _ ?kG ?kR ?_; (case kG => exact Gnd.keeps (by assumption) (Fr.keep (by assumption))); (case kR => first | assumption | exact Room.deeper (by assumption) _ | exact Room.less (Room.deeper (by assumption) _) (by decide)); (intro t' h' tk' k'; (rename Fr _ _ _ _ => F0); (rename News _ _ _ _ => N0); have F' := Fr.keeps F0 k'; have N' := News.grown N0 k'; clear F0 N0; (try dsimp only)))
  intro loose mean mg mb A s Q E G R hret
  obtain ⟨hd0, dp0, fr0, gd0, un0⟩ := A
  obtain rfl : hd0 = none := R.hd
  have X := G.K; revert X; k_fill; intro X
  have T := G.T
  refine' enter (binds := [(Str.ofString "name", .str n u), (Str.ofString "x", .str p t)]) ?k1 ?k2 ?k3 ?k4 ?k5 ?k6 ?k7 ?_ ?c1 ?c2 ?c3 ?c4
  (case k1 => assumption)
  (case k2 => exact T.nolimit)
  (case k3 => exact Nat.lt_of_le_of_lt (Nat.le_add_right _ _) R.dp)
  (case k4 => k_is)
  (case k5 => k_is)
  (case k6 => first | exact BindsTo.of_eq rfl | exact binds_K (by assumption) rfl (by k_is) rfl rfl rfl)
  (case k7 => exact locs rfl)
  (case c1 => exact rfl)
  (case c2 => exact rfl)
  (case c3 => exact rfl)
  (case c4 => decide)
  intro L h₁ hL F N
  try dsimp only
  try k_fold
  k_steps
  first
    | exact hret _ _ _ (Fr.keep (by assumption))
    | exact hret 0 _ _ (Fr.keep (by assumption))
    | (dsimp only; exact hret _ _ _ (Fr.keep (by assumption)))
theorem basename_p (w : World) (p : Str) (t : Tok) (hp : p.length ≤ 4096) : PureCall w 3 143 [.str p t] (fun t => .str (Txt.slice p (some (Txt.rfind p (Str.ofString "/") + 1)) none) t) := by
  k_with_none
  k_with "execs cons" => (k_fold; (with_reducible refine PySem.wpAny_execs_cons ?_))
  k_with "call ref" => ((with_reducible show wpAny _ _ (call (Value.ref 108) _) _ _ _); refine' ufspath_p _ _ _ _ _  _ _ _ _ _ _ _ _ ?kG ?kR ?_; (case kG => exact Gnd.keeps (by assumption) (Fr.keep (by assumption))); (case kR => first | assumption | exact Room.deeper (by assumption) _ | exact Room.less (Room.deeper (by assumption) _) (by decide)); (intro t' h' tk' k'; (rename Fr _ _ _ _ => F0); (rename News _ _ _ _ => N0); have F' := Fr.keeps F0 k'; have N' := News.grown N0 k'; clear F0 N0; (try dsimp only)))
  intro loose mean mg mb A s Q E G R hret
  obtain ⟨hd0, dp0, fr0, gd0, un0⟩ := A
  obtain rfl : hd0 = none := R.hd
  have X := G.K; revert X; k_fill; intro X
  have T := G.T
  refine' enter (binds := [(Str.ofString "p", .str p t)]) ?k1 ?k2 ?k3 ?k4 ?k5 ?k6 ?k7 ?_ ?c1 ?c2 ?c3 ?c4
  (case k1 => assumption)
  (case k2 => exact T.nolimit)
  (case k3 => exact Nat.lt_of_le_of_lt (Nat.le_add_right _ _) R.dp)
  (case k4 => k_is)
  (case k5 => k_is)
  (case k6 => first | exact BindsTo.of_eq rfl | exact binds_K (by assumption) rfl (by k_is) rfl rfl rfl)
  (case k7 => exact locs rfl)
  (case c1 => exact rfl)
  (case c2 => exact rfl)
  (case c3 => exact rfl)
  (case c4 => decide)
  intro L h₁ hL F N
  try dsimp only
  try k_fold
  k_steps
  first
    | exact hret _ _ _ (Fr.keep (by assumption))
    | exact hret 0 _ _ (Fr.keep (by assumption))
    | (dsimp only; exact hret _ _ _ (Fr.keep (by assumption)))
end Mine
end
section
open PySem PySem.W PyProof.Rows
open PyProof.Rows.LCg (NsObj lst lst_snoc ns_obj)
namespace Mine
section
inductive TurnEnd (h₀ : Heap) (L : Addr) (m : Str → Option Value) (s₁ : Shared) (I : Addr) (oI : Obj) (C D : Addr) (oD : Obj) (CC : List (Addr × Obj) → Prop) (ex : List Addr)
    (rest : Value → List (Addr × Obj) → Prop) (y : Value) : Shared → Prop
  | mk {h' : Heap} {tk : Nat} {dr : Drawn} {oC : Obj} {m₂ : Str → Option Value} {cells news : List (Addr × Obj)} (hoC : NsObj oC m₂) (hc : CC cells) (F : Fr h₀ L h' m)
      (N : News h₀ L h' ((I, oI) :: (C, oC) :: (D, oD) :: (cells ++ news))) (ap : ∀ p ∈ news, p.1 ∉ ex) (r : rest y news) : TurnEnd h₀ L m s₁ I oI C D oD CC ex rest y { s₁ with heap := h', toks := tk, drawn := dr }
inductive Between (h₀ : Heap) (L : Addr) (m : Str → Option Value) (s : Shared) (C D : Addr) (CC : List (Addr × Obj) → Prop) (ex : List Addr) (n : Nat) (St : Nat → Heap → Prop) (J : Nat → List Value → List (Addr × Obj) → Prop) : Nat → Shared → Prop
  | mk {h' : Heap} {tk : Nat} {dr : Drawn} {i : Nat} {ys : List Value} {oC : Obj} {m₂ : Str → Option Value} {cells news : List (Addr × Obj)} (hi : i ≤ n) (hyl : ys.length ≤ i) (st : St i h') (hoC : NsObj oC m₂) (hc : CC cells) (F : Fr h₀ L h' m)
      (N : News h₀ L h' ((C, oC) :: (D, lst ys) :: (cells ++ news))) (ap : ∀ p ∈ news, p.1 ∉ ex) (hJ : J i ys news) : Between h₀ L m s C D CC ex n St J (n + 1 - i) { s with heap := h', toks := tk, drawn := dr }
theorem len_snoc {ys : List Value} {y : Value} {i : Nat} (h : ys.length ≤ i) : (ys ++ [y]).length ≤ i + 1 := by rw [List.length_append]; exact Nat.succ_le_succ h
theorem sub_lt' {i n : Nat} (h : i < n) : n + 1 - (i + 1) < n + 1 - i := by omega
theorem news_tl {h₀ h : Heap} {L : Addr} {p : Addr × Obj} {l : List (Addr × Obj)} (N : News h₀ L h (p :: l)) : News h₀ L h l := fun q hq => N q (List.mem_cons_of_mem _ hq)
theorem news_cons {h₀ h : Heap} {L a : Addr} {o : Obj} {l : List (Addr × Obj)} (e : h.get? a = some o) (hL : a ≠ L) (h0 : h₀.get? a = none) (N : News h₀ L h l) : News h₀ L h ((a, o) :: l) := fun q hq => by
  cases hq with
  | head => exact ⟨e, hL, h0⟩
  | tail _ hq => exact N q hq
theorem news_right {h₀ h : Heap} {L : Addr} {l r : List (Addr × Obj)} (N : News h₀ L h (l ++ r)) : News h₀ L h r := fun q hq => N q (List.mem_append_right _ hq)
theorem news_move {h₀ h h' : Heap} {L I : Addr} {l : List (Addr × Obj)} (N : News h₀ L h l) (hk : ∀ b o, b ≠ I → h.get? b = some o → h'.get? b = some o) (off : ∀ p ∈ l, p.1 ≠ I) : News h₀ L h' l :=
  fun p hp => ⟨hk _ _ (off p hp) (N p hp).1, (N p hp).2⟩
theorem off_app {x : Addr} {l r : List (Addr × Obj)} (a : ∀ p ∈ l, p.1 ≠ x) (b : ∀ p ∈ r, p.1 ≠ x) : ∀ p ∈ l ++ r, p.1 ≠ x := fun p hp => (List.mem_append.mp hp).elim (a p) (b p)
theorem off_cons {x a : Addr} {o : Obj} {l : List (Addr × Obj)} (e : a ≠ x) (b : ∀ p ∈ l, p.1 ≠ x) : ∀ p ∈ (a, o) :: l, p.1 ≠ x := fun p hp => by
  cases hp with
  | head => exact e
  | tail _ hp => exact b p hp
variable {prog : Program} {w : World} {A : Around} {E : Value → Shared → Prop} {s : Shared} {h₀ : Heap} {L : Addr} {m : Str → Option Value} {env : Env}

theorem compLoop_any {elt target iter : Expr} {ifs : List Expr} {scope : Scope} {pos : Pos} {it acc : Value} {env : Env} {R : Result → Shared → Prop} (I : Nat → Shared → Prop)
    (turn : ∀ n s, I n s → wpAny (model prog w) A (pyNext it) (fun r s₁ => match r with
      | none => R (.ok .next) s₁
      | some v => wpAny (model prog w) A (letOwnedTupleGo target it v) (fun _ s₁' => wpAny (model prog w) A (assign target env v) (fun _ s₂ =>
          wpAny (model prog w) A (forIn ifs true fun c r => if r = true then do let ok ← isTrue c env (eval c env); pure (ForInStep.yield ok) else pure (ForInStep.yield r)) (fun ok s₃ =>
            if ok = true then wpAny (model prog w) A (eval elt env) (fun x s₄ =>
              wpAny (model prog w) A (call (.builtin "list.append") [acc, x]) (fun _ s₅ => ∃ m, m < n ∧ I m s₅) (notedBy (model prog w) A env fun e s' => R (.error e) s') s₄) (notedBy (model prog w) A env fun e s' => R (.error e) s') s₃
            else ∃ m, m < n ∧ I m s₃) (notedBy (model prog w) A env fun e s' => R (.error e) s') s₂) (notedBy (model prog w) A env fun e s' => R (.error e) s') s₁')
        (notedBy (model prog w) A env fun e s' => R (.error e) s') s₁) (notedBy (model prog w) A env fun e s' => R (.error e) s') s)
    (n : Nat) (h : I n s) : codeAny (model prog w) A (.compLoop (.ListComp elt [⟨target, iter, ifs, 0⟩] scope pos) 0 it acc env) R s := by
  refine codeAny_loop rfl I (fun n s hI => ?_) n h
  refine wpAny_noted ?_
  rw [compTurn_list]
  refine wpAny_bind (wpAny_standAt (wpAny_bind (wpAny_mono (turn n s hI) (fun r s₁ h₁ => ?_) fun _ _ h' => h')))
  cases r with
  | none => exact wpAny_pure h₁
  | some v =>
    refine wpAny_bind (wpAny_mono h₁ (fun _ s₁' h₁' => ?_) fun _ _ h' => h')
    refine wpAny_bind (wpAny_mono h₁' (fun _ s₂ h₂ => wpAny_bind (wpAny_mono h₂ (fun ok s₃ h₃ => ?_) fun _ _ h' => h')) fun _ _ h' => h')
    cases ok with
    | false => exact wpAny_pure ⟨rfl, h₃⟩
    | true => exact wpAny_bind (wpAny_bind (wpAny_mono h₃ (fun x s₄ h₄ => wpAny_bind (wpAny_mono h₄ (fun _ s₅ h₅ => wpAny_pure (wpAny_pure ⟨rfl, h₅⟩)) fun _ _ h' => h')) fun _ _ h' => h'))

structure SrcOk {α : Type} (prog : Program) (w : World) (A : Around) (h₀ : Heap) (L : Addr) (I : Addr) (target : Expr) (n : Nat) (P : Nat → Value → Prop) (St : Nat → Heap → Prop) (J : Nat → α → List (Addr × Obj) → Prop) : Prop where
  item : ∀ i (s : Shared) (Q : Option Value → Shared → Prop) (E : Value → Shared → Prop), i < n → St i s.heap →
    (∀ v h' tk, P i v → St (i + 1) h' → (∀ b o, b ≠ I → s.heap.get? b = some o → h'.get? b = some o) → Q (some v) { s with heap := h', toks := tk }) → wpAny (model prog w) A (pyNext (.ref I)) Q E s
  done : ∀ (s : Shared) (Q : Option Value → Shared → Prop) (E : Value → Shared → Prop), St n s.heap →
    (∀ h' tk, (∀ b o, b ≠ I → s.heap.get? b = some o → h'.get? b = some o) → Q none { s with heap := h', toks := tk }) → wpAny (model prog w) A (pyNext (.ref I)) Q E s
  go : ∀ i v (s : Shared) (Q : Unit → Shared → Prop) (E : Value → Shared → Prop), St i s.heap → Q () s → wpAny (model prog w) A (letOwnedTupleGo target (.ref I) v) Q E s
  obj : ∀ i h, St i h → ∃ o, h.get? I = some o
  frame : ∀ i j h h' o ys nw, St i h → h.get? I = some o → h'.get? I = some o → (∀ b o, h₀.get? b = some o → h'.get? b = some o) → News h₀ L h' nw → J j ys nw → St i h'

def SelfIt (prog : Program) (w : World) (A : Around) (I : Addr) (St : Nat → Heap → Prop) : Prop :=
  ∀ i (s : Shared) (Q : Value → Shared → Prop) (E : Value → Shared → Prop), St i s.heap → Q (.ref I) s → wpAny (model prog w) A (pyIter (.ref I)) Q E s
theorem fr_but' {h₀ h h' : Heap} {L I : Addr} {m : Str → Option Value} (F : Fr h₀ L h m) (hk : ∀ b o, b ≠ I → h.get? b = some o → h'.get? b = some o) (hL : L ≠ I) (hI : h₀.get? I = none) : Fr h₀ L h' m :=
  ⟨F.ns.at' fun o e => hk L o hL e, fun b o e => hk b o (fun q => by rw [q, hI] at e; cases e) (F.keep b o e), F.above⟩

theorem comp_go {elt target iter : Expr} {ifs : List Expr} {scope : Scope} {pos : Pos} {I C D : Addr} {cs : List Addr} {cenv : Env} {n : Nat} {P : Nat → Value → Prop} {St : Nat → Heap → Prop}
    {CC : List (Addr × Obj) → Prop} {J : Nat → List Value → List (Addr × Obj) → Prop} {R : Result → Shared → Prop} {news cells : List (Addr × Obj)} {oC : Obj} {m₂ : Str → Option Value}
    (S : SrcOk prog w A h₀ L I target n P St J) (hsz : n ≤ sizeLine) (hCC : ∀ l, CC l → l.map (·.1) = cs) (hnd : (I :: C :: D :: cs).Nodup)
    (hI : I ≠ L ∧ h₀.get? I = none) (hst : St 0 s.heap) (F : Fr h₀ L s.heap m) (hoC : NsObj oC m₂) (hcells : CC cells) (N : News h₀ L s.heap ((C, oC) :: (D, lst []) :: (cells ++ news))) (hap : ∀ p ∈ news, p.1 ∉ I :: C :: D :: cs) (hJ : J 0 [] news)
    (step : ∀ i v ys oI oC m₂ cells news h tk dr (E' : Value → Shared → Prop), i < n → P i v → J i ys news → NsObj oC m₂ → CC cells → Fr h₀ L h m → News h₀ L h ((I, oI) :: (C, oC) :: (D, lst ys) :: (cells ++ news)) → (∀ p ∈ news, p.1 ∉ I :: C :: D :: cs) →
      wpAny (model prog w) A (assign target cenv v) (fun _ s₂ => wpAny (model prog w) A (forIn ifs true fun c r => if r = true then do let ok ← isTrue c cenv (eval c cenv); pure (ForInStep.yield ok) else pure (ForInStep.yield r)) (fun ok s₃ =>
        if ok = true then wpAny (model prog w) A (eval elt cenv) (TurnEnd h₀ L m { s with heap := h, toks := tk, drawn := dr } I oI C D (lst ys) CC (I :: C :: D :: cs) (fun y nw => J (i + 1) (ys ++ [y]) nw)) E' s₃
        else TurnEnd h₀ L m { s with heap := h, toks := tk, drawn := dr } I oI C D (lst ys) CC (I :: C :: D :: cs) (fun _ nw => J (i + 1) ys nw) Value.none s₃) E' s₂) E' { s with heap := h, toks := tk, drawn := dr })
    (hR : ∀ h' tk dr ys oC m₂ cells news, NsObj oC m₂ → CC cells → Fr h₀ L h' m → News h₀ L h' ((C, oC) :: (D, lst ys) :: (cells ++ news)) → (∀ p ∈ news, p.1 ∉ I :: C :: D :: cs) → J n ys news → R (.ok .next) { s with heap := h', toks := tk, drawn := dr }) :
    codeAny (model prog w) A (.compLoop (.ListComp elt [⟨target, iter, ifs, 0⟩] scope pos) 0 (.ref I) (.ref D) cenv) R s := by
  obtain ⟨hnI, hnd'⟩ := List.nodup_cons.mp hnd
  obtain ⟨hnC, hnd''⟩ := List.nodup_cons.mp hnd'
  have hnD := (List.nodup_cons.mp hnd'').1
  have hCI : C ≠ I := fun e => hnI (e ▸ .head _)
  have hDI : D ≠ I := fun e => hnI (e ▸ .tail _ (.head _))
  have hDC : D ≠ C := fun e => hnC (e ▸ .head _)
  have cI : ∀ {l}, CC l → ∀ p ∈ l, p.1 ≠ I := fun hl p hp e => hnI (e ▸ .tail _ (.tail _ (hCC _ hl ▸ List.mem_map_of_mem hp)))
  have cD : ∀ {l}, CC l → ∀ p ∈ l, p.1 ≠ D := fun hl p hp e => hnD (e ▸ hCC _ hl ▸ List.mem_map_of_mem hp)
  have nI : ∀ {l : List (Addr × Obj)}, (∀ p ∈ l, p.1 ∉ I :: C :: D :: cs) → ∀ p ∈ l, p.1 ≠ I := fun a p hp e => a p hp (e ▸ .head _)
  have nD : ∀ {l : List (Addr × Obj)}, (∀ p ∈ l, p.1 ∉ I :: C :: D :: cs) → ∀ p ∈ l, p.1 ≠ D := fun a p hp e => a p hp (e ▸ .tail _ (.tail _ (.head _)))
  refine compLoop_any (Between h₀ L m s C D CC (I :: C :: D :: cs) n St J) ?_ (n + 1) (Between.mk (ys := []) (Nat.zero_le n) (Nat.le_refl 0) hst hoC hcells F N hap hJ)
  intro k s' hk
  obtain ⟨hi, hyl, hst', hoC, hcells, F', N', hap', hJ'⟩ := hk
  rename_i h' tk dr i ys oC m₂ cells news
  have offI := off_cons (o := oC) hCI (off_cons (o := lst ys) hDI (off_app (cI hcells) (nI hap')))
  by_cases hlt : i < n
  · refine S.item i _ _ _ hlt hst' fun v h₂ tk₂ hPv hst₂ hk₂ => ?_
    refine S.go (i + 1) v _ _ _ hst₂ ?_
    obtain ⟨oI, heI⟩ := S.obj _ _ hst₂
    refine wpAny_mono (step i v ys oI oC m₂ cells news h₂ tk₂ dr _ hlt hPv hJ' hoC hcells (fr_but' F' hk₂ (Ne.symm hI.1) hI.2) (news_cons heI hI.1 hI.2 (news_move N' hk₂ offI)) hap')
      (fun _ s₂ h₂' => wpAny_mono h₂' (fun ok s₃ h₃ => ?_) fun _ _ e => e) fun _ _ e => e
    cases ok with
    | true =>
      refine wpAny_mono h₃ (fun y s₄ h₄ => ?_) fun _ _ e => e
      obtain ⟨hoC₄, hc₄, F₄, N₄, ap₄, J₄⟩ := h₄
      have zI := (N₄ _ (.head _)).1
      have zD := N₄ _ (.tail _ (.tail _ (.head _)))
      refine append_at (hsz := Nat.le_trans (Nat.le_of_eq List.size_toArray) (Nat.le_trans (Nat.le_trans hyl hi) hsz)) zD.1 fun h₅ hs₅ hD₅ => ?_
      have F₅ := F₄.change hs₅ zD.2.1 zD.2.2
      have N₅ := news_move (news_tl (news_tl (news_tl N₄))) hs₅.extBut (off_app (cD hc₄) (nD ap₄))
      refine ⟨_, sub_lt' hlt, Between.mk hlt (len_snoc hyl) (S.frame _ _ _ _ _ _ _ hst₂ heI (hs₅.extBut _ _ (Ne.symm hDI) zI) F₅.keep (news_right N₅) J₄) hoC₄ hc₄ F₅
        (news_cons (hs₅.extBut _ _ (Ne.symm hDC) (N₄ _ (.tail _ (.head _))).1) (N₄ _ (.tail _ (.head _))).2.1 (N₄ _ (.tail _ (.head _))).2.2 (news_cons (hD₅.trans (congrArg some (lst_snoc ys y))) zD.2.1 zD.2.2 N₅)) ap₄ J₄⟩
    | false =>
      have h₄ : TurnEnd h₀ L m _ I oI C D (lst ys) CC (I :: C :: D :: cs) (fun _ nw => J (i + 1) ys nw) Value.none s₃ := h₃
      obtain ⟨hoC₄, hc₄, F₄, N₄, ap₄, J₄⟩ := h₄
      exact ⟨_, sub_lt' hlt, Between.mk hlt (Nat.le_succ_of_le hyl) (S.frame _ _ _ _ _ _ _ hst₂ heI (N₄ _ (.head _)).1 F₄.keep (news_right (news_tl (news_tl (news_tl N₄)))) J₄) hoC₄ hc₄ F₄ (news_tl N₄) ap₄ J₄⟩
  · obtain rfl : i = n := Nat.le_antisymm hi (Nat.not_lt.mp hlt)
    exact S.done _ _ _ hst' fun h₂ tk₂ hk₂ => hR h₂ tk₂ dr ys oC m₂ cells news hoC hcells (fr_but' F' hk₂ (Ne.symm hI.1) hI.2) (news_move N' hk₂ offI) hap' hJ'

theorem newEnv_comp {M : Model} {scope : Scope} {globals : Addr} {cl : List (Str × Addr)} {qual : Str} {outer : Env} {Q : Env → Shared → Prop}
    (hQ : Q { scope, locals := s.heap.objs.size, globals, cells := cellsFrom (s.heap.objs.size + 1) scope.names cl, qual, func := none, code := outer.code, frame := outer.frame, builtins := outer.builtins }
      { s with heap := pushCells (s.heap.push { cls := .type "dict", data := .dict #[] }) scope.names }) :
    wpAny M A (newFunctionEnv scope globals cl [] qual none .none (some outer)) Q E s := by
  simp only [newFunctionEnv, Option.isSome_some, if_true]
  refine wpAny_bind (wpAny_alloc ?_)
  refine wpAny_bind (wpAny_layCells _ (fun name kind cells => by cases hkc : kind == NameKind.cell <;> simp [hkc]) _ _ _ _ ?_)
  rw [show ({ s with heap := s.heap.push { cls := .type "dict", data := .dict #[] } } : Shared).heap.objs.size = s.heap.objs.size + 1 from Heap.size_push ..]
  exact wpAny_bind (by rw [List.forIn_nil]; exact wpAny_pure (wpAny_pure hQ))

noncomputable def csOf (one : Option Str) (c : Addr) : List Addr := match one with | none => [] | some _ => [c]
def CCof (one : Option Str) (c : Addr) (l : List (Addr × Obj)) : Prop := match one with | none => l = [] | some _ => ∃ o, l = [(c, o)] ∧ ∃ v, o.data = .cell v
noncomputable def clOf (one : Option Str) (c : Addr) (cl : List (Str × Addr)) : List (Str × Addr) := match one with | none => cl | some x => (x, c) :: cl
noncomputable def pushOf (one : Option Str) (h : Heap) : Heap := match one with | none => h | some _ => h.push { cls := .type "cell", data := .cell none }
theorem CCof.cs {one : Option Str} {c : Addr} : ∀ l, CCof one c l → l.map (·.1) = csOf one c := fun l h => by
  cases one with
  | none => subst h; rfl
  | some x => obtain ⟨o, rfl, _⟩ := h; rfl

def StepOk (prog : Program) (w : World) (A : Around) (h₀ : Heap) (L : Addr) (m : Str → Option Value) (env : Env) (target elt : Expr) (ifs : List Expr) (scope : Scope) (cl : List (Str × Addr)) (one : Option Str)
    (n : Nat) (P : Nat → Value → Prop) (J : Nat → List Value → List (Addr × Obj) → Prop) (s : Shared) : Prop :=
  ∀ (I C D c : Addr), I < D → D < C → C < c → ∀ i v ys oI oC m₂ cells news h tk dr (E' : Value → Shared → Prop), i < n → P i v → J i ys news → NsObj oC m₂ → CCof one c cells → Fr h₀ L h m →
    News h₀ L h ((I, oI) :: (C, oC) :: (D, lst ys) :: (cells ++ news)) → (∀ p ∈ news, p.1 ∉ I :: C :: D :: csOf one c) →
      wpAny (model prog w) A (assign target (compEnvC scope (clOf one c cl) C env) v) (fun _ s₂ => wpAny (model prog w) A (forIn ifs true fun c' r => if r = true then do let ok ← isTrue c' (compEnvC scope (clOf one c cl) C env) (eval c' (compEnvC scope (clOf one c cl) C env)); pure (ForInStep.yield ok) else pure (ForInStep.yield r)) (fun ok s₃ =>
        if ok = true then wpAny (model prog w) A (eval elt (compEnvC scope (clOf one c cl) C env)) (TurnEnd h₀ L m { s with heap := h, toks := tk, drawn := dr } I oI C D (lst ys) (CCof one c) (I :: C :: D :: csOf one c) (fun y nw => J (i + 1) (ys ++ [y]) nw)) E' s₃
        else TurnEnd h₀ L m { s with heap := h, toks := tk, drawn := dr } I oI C D (lst ys) (CCof one c) (I :: C :: D :: csOf one c) (fun _ nw => J (i + 1) ys nw) Value.none s₃) E' s₂) E' { s with heap := h, toks := tk, drawn := dr }

def CompGo (prog : Program) (w : World) (A : Around) (h₀ : Heap) (L : Addr) (m : Str → Option Value) (env : Env) (target elt : Expr) (ifs : List Expr) (scope : Scope) (cl : List (Str × Addr)) (one : Option Str)
    (Fin : Shared → (List Value → List (Addr × Obj) → Prop) → Prop) (xv : Value) (s₁ : Shared) : Prop :=
  ∃ (n : Nat) (P : Nat → Value → Prop) (St : Nat → Heap → Prop) (J : Nat → List Value → List (Addr × Obj) → Prop) (news : List (Addr × Obj)) (o : Obj),
    n ≤ sizeLine ∧ Fr h₀ L s₁.heap m ∧ News h₀ L s₁.heap news ∧
    (∀ (Q : Value → Shared → Prop) (E : Value → Shared → Prop), Q (.ref s₁.heap.objs.size) { s₁ with heap := s₁.heap.push o } → wpAny (model prog w) A (pyIter xv) Q E s₁) ∧
    SrcOk prog w A h₀ L s₁.heap.objs.size target n P St J ∧ SelfIt prog w A s₁.heap.objs.size St ∧ St 0 (s₁.heap.push o) ∧ J 0 [] news ∧
    StepOk prog w A h₀ L m env target elt ifs scope cl one n P J s₁ ∧ Fin s₁ (J n)

theorem comp_start {elt target iter : Expr} {ifs : List Expr} {scope : Scope} {cl : List (Str × Addr)} {pos : Pos} {one : Option Str} {n : Nat} {P : Nat → Value → Prop} {St : Nat → Heap → Prop}
    {J : Nat → List Value → List (Addr × Obj) → Prop} {news : List (Addr × Obj)} {o : Obj} {RR : Value → Addr → Result → Shared → Prop} (hone : ∀ n acc, cellsFrom n scope.names acc = clOf one n acc)
    (hpush : ∀ h : Heap, pushCells h scope.names = pushOf one h)
    (hsz : n ≤ sizeLine) (F : Fr h₀ L s.heap m) (N : News h₀ L s.heap news) (S : SrcOk prog w A h₀ L s.heap.objs.size target n P St J) (self : SelfIt prog w A s.heap.objs.size St) (hst : St 0 (s.heap.push o)) (hJ : J 0 [] news)
    (step : StepOk prog w A h₀ L m env target elt ifs scope cl one n P J s)
    (hR : ∀ C D h' tk dr ys oC m₂ news, s.heap.objs.size < D → D < C → NsObj oC m₂ → Fr h₀ L h' m → News h₀ L h' ((C, oC) :: (D, lst ys) :: news) → (∀ p ∈ news, p.1 ≠ D ∧ p.1 ≠ C) → J n ys news → RR (.ref D) C (.ok .next) { s with heap := h', toks := tk, drawn := dr }) :
    wpAny (model prog w) A (newList []) (fun acc s₃ => wpAny (model prog w) A (newFunctionEnv scope env.globals cl [] env.qual none .none (some env)) (fun cenv s₄ =>
      codeAny (model prog w) A (.compStart (.ListComp elt [⟨target, iter, ifs, 0⟩] scope pos) 0 (.ref s.heap.objs.size) acc { cenv with scope := relabel scope env }) (RR acc cenv.locals) s₄) E s₃) E { s with heap := s.heap.push o } := by
  refine wpAny_newObj_type (newEnv_comp ?_)
  dsimp only
  rw [hone, hpush]
  generalize hI : s.heap.objs.size = I at *
  have e1 : (s.heap.push o).objs.size = I + 1 := by rw [Heap.size_push, hI]
  rw [show ((s.heap.push o).push { cls := .type "list", data := .seq ([] : List Value).toArray }).objs.size = I + 2 by rw [Heap.size_push, e1]]
  rw [e1]
  have up1 : ∀ b o', s.heap.get? b = some o' → (s.heap.push o).get? b = some o' := fun b o' e => Heap.get?_push_of_some _ e
  generalize hh1 : s.heap.push o = h1 at *
  obtain ⟨o₁, gI⟩ := S.obj 0 h1 hst
  generalize hh2 : h1.push { cls := .type "list", data := .seq ([] : List Value).toArray } = h2
  have s2 : h2.objs.size = I + 2 := by rw [← hh2, Heap.size_push, e1]
  have up2 : ∀ b o', h1.get? b = some o' → h2.get? b = some o' := fun b o' e => by rw [← hh2]; exact Heap.get?_push_of_some _ e
  have gD : h2.get? (I + 1) = some (lst []) := by rw [← hh2, ← e1]; exact Heap.get?_push_size _ rfl
  generalize hh3 : h2.push { cls := .type "dict", data := .dict #[] } = h3
  have s3 : h3.objs.size = I + 3 := by rw [← hh3, Heap.size_push, s2]
  have up3 : ∀ b o', h2.get? b = some o' → h3.get? b = some o' := fun b o' e => by rw [← hh3]; exact Heap.get?_push_of_some _ e
  have nsC : h3.Ns (I + 2) (fun _ => none) := by rw [← hh3, ← s2]; exact Heap.Ns.new h2 (.type "dict")
  obtain ⟨oC, gC, hoC⟩ := ns_obj nsC
  obtain ⟨h4, cells, hh4, up4, hcc, ncell⟩ : ∃ h4 cells, pushOf one h3 = h4 ∧ (∀ b o', h3.get? b = some o' → h4.get? b = some o') ∧ CCof one (I + 3) cells ∧ ∀ p ∈ cells, h4.get? p.1 = some p.2 := by
    cases one with
    | none => exact ⟨h3, [], rfl, fun _ _ e => e, rfl, fun _ hp => nomatch hp⟩
    | some x => exact ⟨_, [(I + 3, { cls := .type "cell", data := .cell none })], rfl, fun b o' e => Heap.get?_push_of_some _ e, ⟨_, rfl, _, rfl⟩, fun p hp => by
        obtain rfl := List.mem_singleton.mp hp
        show (h3.push _).get? (I + 3) = _
        rw [← s3]; exact Heap.get?_push_size _ rfl⟩
  rw [hh4]
  have up : ∀ b o', s.heap.get? b = some o' → h4.get? b = some o' := fun b o' e => up4 _ _ (up3 _ _ (up2 _ _ (up1 _ _ e)))
  have F4 : Fr h₀ L h4 m := F.keeps up
  have hlt : ∀ b o', s.heap.get? b = some o' → b < I := fun b o' e => hI ▸ Heap.lt_size e
  have hLI : @LT.lt Nat _ L I := by rw [← hI]; exact F.ns.lt
  have lo : ∀ k : Nat, @Ne Nat (I + k) L := fun k => by omega
  have fresh : ∀ a, I ≤ a → h₀.get? a = none := fun a ha => by
    cases q : h₀.get? a with
    | none => rfl
    | some o' => exact absurd (hlt a o' (F.keep a o' q)) (Nat.not_lt.mpr ha)
  have hcl : ∀ p ∈ cells, p.1 = I + 3 := fun p hp => by
    cases one with
    | none => rw [hcc] at hp; cases hp
    | some x => obtain ⟨o', rfl, _⟩ := hcc; rw [List.mem_singleton.mp hp]
  have N4 : News h₀ L h4 ((I + 2, oC) :: (I + 1, lst []) :: (cells ++ news)) := fun p hp => by
    rcases List.mem_cons.mp hp with rfl | hp
    · exact ⟨up4 _ _ gC, lo 2, fresh _ (Nat.le_add_right I 2)⟩
    · rcases List.mem_cons.mp hp with rfl | hp
      · exact ⟨up4 _ _ (up3 _ _ gD), lo 1, fresh _ (Nat.le_add_right I 1)⟩
      · rcases List.mem_append.mp hp with hp | hp
        · have e := hcl p hp
          exact ⟨ncell p hp, by rw [e]; exact lo 3, fresh _ (by rw [e]; exact Nat.le_add_right I 3)⟩
        · exact ⟨up _ _ (N p hp).1, (N p hp).2⟩
  have hmem : ∀ x ∈ csOf one (I + 3), x = I + 3 := fun x hx => by
    cases one with
    | none => cases hx
    | some y => exact List.mem_singleton.mp hx
  have hap : ∀ p ∈ news, p.1 ∉ I :: (I + 2) :: (I + 1) :: csOf one (I + 3) := fun p hp hm => by
    have hl : @LT.lt Nat _ p.1 I := hlt _ _ (N p hp).1
    have no : ∀ k : Nat, @Ne Nat p.1 (I + k) := fun k => by omega
    rcases List.mem_cons.mp hm with e | hm
    · exact no 0 e
    · rcases List.mem_cons.mp hm with e | hm
      · exact no 2 e
      · rcases List.mem_cons.mp hm with e | hm
        · exact no 1 e
        · exact no 3 (hmem _ hm)
  have hnd : (I :: (I + 2) :: (I + 1) :: csOf one (I + 3)).Nodup := by
    cases one with
    | none => simp [csOf]
    | some y => simp [csOf]
  have hst4 : St 0 h4 := S.frame 0 0 _ _ _ [] news hst gI (up4 _ _ (up3 _ _ (up2 _ _ gI))) F4.keep (fun p hp => ⟨up _ _ (N p hp).1, (N p hp).2⟩) hJ
  have loop : codeAny (model prog w) A (.compLoop (.ListComp elt [⟨target, iter, ifs, 0⟩] scope pos) 0 (.ref I) (.ref (I + 1)) (compEnvC scope (clOf one (I + 3) cl) (I + 2) env)) (RR (.ref (I + 1)) (I + 2)) { s with heap := h4 } := by
    refine comp_go (C := I + 2) (D := I + 1) (cs := csOf one (I + 3)) (CC := CCof one (I + 3)) (news := news) (cells := cells) (s := { s with heap := h4 }) S hsz CCof.cs hnd ⟨lo 0, fresh _ (Nat.le_refl _)⟩ hst4 F4 hoC hcc N4 hap hJ ?_ ?_
    · exact step I (I + 2) (I + 1) (I + 3) (Nat.lt_succ_self _) (Nat.lt_succ_self _) (Nat.lt_succ_self _)
    · intro h' tk dr ys oC m₂ cells news hoC hcc F' N' ap hJ'
      refine hR (I + 2) (I + 1) h' tk dr ys oC m₂ news (Nat.lt_succ_self _) (Nat.lt_succ_self _) hoC F' (fun p hp => ?_) (fun p hp => ⟨fun e => ap p hp (by rw [e]; simp), fun e => ap p hp (by rw [e]; simp)⟩) hJ'
      rcases List.mem_cons.mp hp with rfl | hp
      · exact N' _ List.mem_cons_self
      · rcases List.mem_cons.mp hp with rfl | hp
        · exact N' _ (List.mem_cons_of_mem _ List.mem_cons_self)
        · exact N' _ (List.mem_cons_of_mem _ (List.mem_cons_of_mem _ (List.mem_append_right _ hp)))
  exact codeAny_compStart_list loop (self 0 _ _ _ hst4 loop)

def FinEv (h₀ : Heap) (L : Addr) (m : Str → Option Value) (Q : Value → Shared → Prop) (s₁ : Shared) (Jn : List Value → List (Addr × Obj) → Prop) : Prop :=
  ∀ D h' tk dr ys news, s₁.heap.objs.size < D → Fr h₀ L h' m → News h₀ L h' ((D, lst ys) :: news) → (∀ p ∈ news, p.1 ≠ D) → Jn ys news → Q (.ref D) { s₁ with heap := h', toks := tk, drawn := dr }
theorem comp_ev {elt target iter : Expr} {ifs : List Expr} {scope : Scope} {cl : List (Str × Addr)} {pos : Pos} (one : Option Str) {Q : Value → Shared → Prop} (F₀ : Fr h₀ L s.heap m)
    (hclos : closureFor scope env = pure cl) (hkind : scope.kind = .function) (hnames : ∀ y ∈ scope.names, y.2 = .local → scope.names.lookup y.1 = some .local)
    (hone : ∀ n acc, cellsFrom n scope.names acc = clOf one n acc) (hpush : ∀ h : Heap, pushCells h scope.names = pushOf one h)
    (h : wpAny (model prog w) A (eval iter env) (CompGo prog w A h₀ L m env target elt ifs scope cl one (FinEv h₀ L m Q)) E s)
    (hs : ∀ x, foldedSetIterable iter env x = pure x := by intro _; rfl) :
    wpAny (model prog w) A (eval (.ListComp elt [⟨target, iter, ifs, 0⟩] scope pos) env) Q E s := by
  rw [eval_ListComp]
  refine wpAny_comprehension_free (use := none) rfl hs hclos hkind hnames (wpAny_mono h (fun xv s₁ h₁ => ?_) fun _ _ e => e)
  obtain ⟨n, P, St, J, news, o, hsz, F, N, hit, S, self, hst, hJ, step, fin⟩ := h₁
  refine hit _ _ (comp_start hone hpush hsz F N S self hst hJ step ?_)
  intro C D h' tk dr ys oC m₂ news' hsD hDC hoC F' N' ap hJ'
  have zC := N' (C, oC) List.mem_cons_self
  refine ⟨m₂, hoC.ns zC.1, fun h'' hs'' => fin D h'' tk dr ys news' hsD (F'.change hs'' zC.2.1 zC.2.2) (fun p hp => ?_) (fun p hp => (ap p hp).1) hJ'⟩
  have z := N' p (List.mem_cons_of_mem _ hp)
  refine ⟨hs''.extBut _ _ ?_ z.1, z.2⟩
  rcases List.mem_cons.mp hp with rfl | hp
  · exact Nat.ne_of_lt hDC
  · exact (ap p hp).2

end
end Mine
end
section
open PySem PySem.W PyProof.Rows
namespace Mine
section
inductive ForEnd (h₀ : Heap) (L I : Addr) (oI : Obj) (s₁ : Shared) (J : (Str → Option Value) → List (Addr × Obj) → Prop) : Shared → Prop
  | mk {h' : Heap} {tk : Nat} {m : Str → Option Value} {news : List (Addr × Obj)} (F : Fr h₀ L h' m) (N : News h₀ L h' ((I, oI) :: news)) (ap : ∀ p ∈ news, p.1 ≠ I) (hJ : J m news) : ForEnd h₀ L I oI s₁ J { s₁ with heap := h', toks := tk }
inductive BetweenF (h₀ : Heap) (L I : Addr) (s : Shared) (n : Nat) (St : Nat → Heap → Prop) (J : Nat → (Str → Option Value) → List (Addr × Obj) → Prop) : Nat → Shared → Prop
  | mk {h' : Heap} {tk i : Nat} {m : Str → Option Value} {news : List (Addr × Obj)} (hi : i ≤ n) (st : St i h') (F : Fr h₀ L h' m) (N : News h₀ L h' news) (ap : ∀ p ∈ news, p.1 ≠ I) (hJ : J i m news) : BetweenF h₀ L I s n St J (n + 1 - i) { s with heap := h', toks := tk }
def turnPost (h₀ : Heap) (L I : Addr) (oI : Obj) (s₁ : Shared) (J : (Str → Option Value) → List (Addr × Obj) → Prop) (Q : Flow → Shared → Prop) (f : Flow) (s : Shared) : Prop := match f with
  | .ret v => Q (.ret v) s
  | .brk => Q .next s
  | _ => ForEnd h₀ L I oI s₁ J s
variable {prog : Program} {w : World} {A : Around} {E : Value → Shared → Prop} {s : Shared} {h₀ : Heap} {env : Env} {target : Expr} {body : List Stmt} {n : Nat} {P : Nat → Value → Prop} {St : Nat → Heap → Prop}
  {J : Nat → (Str → Option Value) → List (Addr × Obj) → Prop} {I : Addr} {m : Str → Option Value} {news : List (Addr × Obj)}
def FStep (prog : Program) (w : World) (A : Around) (h₀ : Heap) (env : Env) (target : Expr) (body : List Stmt) (n : Nat) (P : Nat → Value → Prop) (J : Nat → (Str → Option Value) → List (Addr × Obj) → Prop) (I : Addr) (Q : Flow → Shared → Prop)
    (E : Value → Shared → Prop) (s : Shared) : Prop :=
  ∀ i v m news oI h tk, i < n → P i v → J i m news → Fr h₀ env.locals h m → News h₀ env.locals h ((I, oI) :: news) → (∀ p ∈ news, p.1 ≠ I) →
    wpAny (model prog w) A (assign target env v) (fun _ s₂ => wpAny (model prog w) A (execs body env) (turnPost h₀ env.locals I oI { s with heap := h, toks := tk } (J (i + 1)) Q) E s₂) E { s with heap := h, toks := tk }

theorem for_go {R : Result → Shared → Prop} (S : SrcOk prog w A h₀ env.locals I target n P St J) (hI : I ≠ env.locals ∧ h₀.get? I = none) (hst : St 0 s.heap) (F : Fr h₀ env.locals s.heap m) (N : News h₀ env.locals s.heap news)
    (hap : ∀ p ∈ news, p.1 ≠ I) (hJ : J 0 m news)
    (step : FStep prog w A h₀ env target body n P J I (fun f s' => R (.ok f) s') (notedBy (model prog w) A env fun e s' => R (.error e) s') s)
    (hR : ∀ h' tk m' news', Fr h₀ env.locals h' m' → News h₀ env.locals h' news' → (∀ p ∈ news', p.1 ≠ I) → J n m' news' → R (.ok .next) { s with heap := h', toks := tk }) :
    codeAny (model prog w) A (.forLoop target (.ref I) body [] env) R s := by
  refine codeAny_forLoop_any (BetweenF h₀ env.locals I s n St J) ?_ (n + 1) (BetweenF.mk (Nat.zero_le n) hst F N hap hJ)
  intro k s' hk
  obtain ⟨hi, hst', F', N', hap', hJ'⟩ := hk
  rename_i h' tk i m news
  by_cases hlt : i < n
  · refine S.item i _ _ _ hlt hst' fun v h₂ tk₂ hPv hst₂ hk₂ => ?_
    refine S.go (i + 1) v _ _ _ hst₂ ?_
    obtain ⟨oI, heI⟩ := S.obj _ _ hst₂
    refine wpAny_mono (step i v m news oI h₂ tk₂ hlt hPv hJ' (fr_but' F' hk₂ (Ne.symm hI.1) hI.2) (news_cons heI hI.1 hI.2 (news_move N' hk₂ hap')) hap')
      (fun _ s₂ h₂' => wpAny_mono h₂' (fun f s₃ h₃ => ?_) fun _ _ e => e) fun _ _ e => e
    have next : ForEnd h₀ env.locals I oI { s with heap := h₂, toks := tk₂ } (J (i + 1)) s₃ → ∃ m, m < n + 1 - i ∧ BetweenF h₀ env.locals I s n St J m s₃ := fun h₄ => by
      obtain ⟨F₄, N₄, ap₄, J₄⟩ := h₄
      exact ⟨_, sub_lt' hlt, BetweenF.mk hlt (S.frame _ _ _ _ _ _ _ hst₂ heI (N₄ _ (.head _)).1 F₄.keep (news_tl N₄) J₄) F₄ (news_tl N₄) ap₄ J₄⟩
    cases f with
    | ret v => exact h₃
    | brk => exact h₃
    | cont => exact next h₃
    | next => exact next h₃
  · obtain rfl : i = n := Nat.le_antisymm hi (Nat.not_lt.mp hlt)
    exact S.done _ _ _ hst' fun h₂ tk₂ hk₂ => wpAny_execs_nil (hR h₂ tk₂ m news (fr_but' F' hk₂ (Ne.symm hI.1) hI.2) (news_move N' hk₂ hap') hap' hJ')

inductive ForAt (prog : Program) (w : World) (A : Around) (h₀ : Heap) (env : Env) (target : Expr) (body : List Stmt) (Q : Flow → Shared → Prop) (E : Value → Shared → Prop) (it : Value) (s₁ : Shared) : Prop
  | mk {I : Addr} {n : Nat} {P : Nat → Value → Prop} {St : Nat → Heap → Prop} (J : Nat → (Str → Option Value) → List (Addr × Obj) → Prop) {m : Str → Option Value} {news : List (Addr × Obj)} (e : it = .ref I)
      (S : SrcOk prog w A h₀ env.locals I target n P St J) (hI : I ≠ env.locals ∧ h₀.get? I = none) (hst : St 0 s₁.heap) (F : Fr h₀ env.locals s₁.heap m) (N : News h₀ env.locals s₁.heap news) (hap : ∀ p ∈ news, p.1 ≠ I) (hJ : J 0 m news)
      (step : FStep prog w A h₀ env target body n P J I Q E s₁)
      (fin : ∀ h' tk m' news', Fr h₀ env.locals h' m' → News h₀ env.locals h' news' → (∀ p ∈ news', p.1 ≠ I) → J n m' news' → Q .next { s₁ with heap := h', toks := tk }) : ForAt prog w A h₀ env target body Q E it s₁
def ForGo (prog : Program) (w : World) (A : Around) (h₀ : Heap) (env : Env) (target : Expr) (body : List Stmt) (Q : Flow → Shared → Prop) (E : Value → Shared → Prop) (xv : Value) (s₁ : Shared) : Prop :=
  wpAny (model prog w) A (pyIter xv) (ForAt prog w A h₀ env target body Q E) E s₁

theorem for_ex {Q : Flow → Shared → Prop} {iter : Expr} {pos : Pos} {m₀ : Str → Option Value} (F₀ : Fr h₀ env.locals s.heap m₀) (h : wpAny (model prog w) A (eval iter env) (ForGo prog w A h₀ env target body Q E) E s)
    (hs : ∀ x, foldedSetIterable iter env x = pure x := by intro _; rfl) (hE : PassesOwn (model prog w) A env E := by passes_own) :
    wpAny (model prog w) A (exec (.For target iter body [] pos) env) Q E s := by
  refine wpAny_For (wpAny_mono h (fun xv s₁ h₁ => wpAny_mono h₁ (fun it s₂ h₂ => ?_) fun _ _ e => e) fun _ _ e => e) hs
  obtain ⟨J, rfl, S, hI, hst, F, N, hap, hJ, step, fin⟩ := h₂
  refine for_go (R := fun r s' => match r with | .ok f => Q f s' | .error e => cameBackBy (model prog w) A env E e s') S hI hst F N hap hJ ?_ fin
  intro i v m news oI h tk a b c F₁ N₁ ap
  exact wpAny_mono (step i v m news oI h tk a b c F₁ N₁ ap) (fun _ _ x => wpAny_passesOwn hE x) hE

section
variable {α : Type} {J : Nat → α → List (Addr × Obj) → Prop} {L : Addr}
theorem go_name {x : Str} {px : Pos} {I v} {s : Shared} {Q : Unit → Shared → Prop} {E : Value → Shared → Prop} (h : Q () s) : wpAny (model prog w) A (letOwnedTupleGo (.Name x px) I v) Q E s := wpAny_pure h
theorem SrcOk.list {ax : Addr} {its : Array Value} (hh : A.handled = none) (hne : ax ≠ I) (hgo : ∀ i v (s : Shared) (Q : Unit → Shared → Prop) (E : Value → Shared → Prop), s.heap.IsListIter I ax i → Q () s → wpAny (model prog w) A (letOwnedTupleGo target (.ref I) v) Q E s)
    (src : ∀ j ys nw h', (∀ b o, h₀.get? b = some o → h'.get? b = some o) → News h₀ L h' nw → J j ys nw → h'.IsList ax its) :
    SrcOk prog w A h₀ L I target its.size (fun i v => its[i]? = some v) (fun i h => h.IsListIter I ax i ∧ h.IsList ax its) J where
  item := fun i s Q E hi st hQ => (Walks.list hh I ax hne its).item i s Q E hi st fun v h' tk p st' hk => hQ v h' tk p st' fun b o hb => hk b o (by simpa using hb)
  done := fun s Q E st hQ => (Walks.list hh I ax hne its).done s Q E st fun h' tk hk => hQ h' tk fun b o hb => hk b o (by simpa using hb)
  go := fun i v s Q E st hQ => hgo i v s Q E st.1 hQ
  obj := fun i h st => let ⟨o, e, _⟩ := st.1; ⟨o, e⟩
  frame := fun i j h h' o ys nw st e e' k N hJ => ⟨let ⟨o', g, r⟩ := st.1; ⟨o', by rw [g] at e; cases e; exact e', r⟩, src j ys nw h' k N hJ⟩
theorem SrcOk.tuple {ax : Addr} {its : Array Value} (hh : A.handled = none) (hne : ax ≠ I) (hgo : ∀ i v (s : Shared) (Q : Unit → Shared → Prop) (E : Value → Shared → Prop), s.heap.IsTupleIter I ax i → Q () s → wpAny (model prog w) A (letOwnedTupleGo target (.ref I) v) Q E s)
    (src : ∀ j ys nw h', (∀ b o, h₀.get? b = some o → h'.get? b = some o) → News h₀ L h' nw → J j ys nw → h'.IsTuple ax its) :
    SrcOk prog w A h₀ L I target its.size (fun i v => its[i]? = some v) (fun i h => h.IsTupleIter I ax i ∧ h.IsTuple ax its) J where
  item := fun i s Q E hi st hQ => (Walks.tuple hh I ax hne its).item i s Q E hi st fun v h' tk p st' hk => hQ v h' tk p st' fun b o hb => hk b o (by simpa using hb)
  done := fun s Q E st hQ => (Walks.tuple hh I ax hne its).done s Q E st fun h' tk hk => hQ h' tk fun b o hb => hk b o (by simpa using hb)
  go := fun i v s Q E st hQ => hgo i v s Q E st.1 hQ
  obj := fun i h st => let ⟨o, e, _⟩ := st.1; ⟨o, e⟩
  frame := fun i j h h' o ys nw st e e' k N hJ => ⟨let ⟨o', g, r⟩ := st.1; ⟨o', by rw [g] at e; cases e; exact e', r⟩, src j ys nw h' k N hJ⟩
theorem SrcOk.range {a : Int} {n : Nat} (hh : A.handled = none) (hgo : ∀ v (s : Shared) (Q : Unit → Shared → Prop) (E : Value → Shared → Prop), Q () s → wpAny (model prog w) A (letOwnedTupleGo target (.ref I) v) Q E s) :
    SrcOk prog w A h₀ L I target n (fun i v => ∃ t, v = .int (a + (i : Int)) t) (fun i h => IsRangeIter h I (a + (i : Nat) * 1) ((n : Int) - (i : Nat)) 1) J where
  item := fun i s Q E hi st hQ => (LCg.range_walks hh a n).item i s Q E hi st fun v h' tk p st' hk => hQ v h' tk p st' fun b o hb => hk b o (by simpa using hb)
  done := fun s Q E st hQ => (LCg.range_walks hh a n).done s Q E st fun h' tk hk => hQ h' tk fun b o hb => hk b o (by simpa using hb)
  go := fun i v s Q E st hQ => hgo v s Q E hQ
  obj := fun i h st => ⟨_, st⟩
  frame := fun i j h h' o ys nw st e e' k N hJ => by
    have g : h.get? I = _ := st
    rw [g] at e; cases e; exact e'
end

section
variable {L : Addr} {α : Type}
theorem news_src {J : Nat → α → List (Addr × Obj) → Prop} {ax : Addr} {its : Array Value} {k : Nat} {c : String} (h : ∀ j m nw, J j m nw → (ax, ({ cls := .type c, data := .seq its k } : Obj)) ∈ nw) :
    ∀ j ys nw (h' : Heap), (∀ b o, h₀.get? b = some o → h'.get? b = some o) → News h₀ L h' nw → J j ys nw → ∃ o, h'.get? ax = some o ∧ o.cls = .type c ∧ ∃ n, o.data = .seq its n :=
  fun j ys nw _ _ N hJ => ⟨_, (N _ (h j ys nw hJ)).1, rfl, _, rfl⟩
theorem iter_facts {h : Heap} {L : Addr} {m : Str → Option Value} {news : List (Addr × Obj)} {o : Obj} (F : Fr h₀ L h m) (N : News h₀ L h news) :
    (h.objs.size ≠ L ∧ h₀.get? h.objs.size = none) ∧ Fr h₀ L (h.push o) m ∧ News h₀ L (h.push o) news ∧ (∀ p ∈ news, p.1 ≠ h.objs.size) ∧ ∀ b o', h.get? b = some o' → (h.push o).get? b = some o' :=
  ⟨⟨(Nat.ne_of_lt F.ns.lt).symm, next_is_new F⟩, F.keeps fun _ _ e => Heap.get?_push_of_some _ e, N.grown fun _ _ e => Heap.get?_push_of_some _ e, fun p hp => Nat.ne_of_lt (Heap.lt_size (N p hp).1), fun _ _ e => Heap.get?_push_of_some _ e⟩
end
theorem ForGo.tup {x : Str} {px : Pos} {ax : Addr} {its : Array Value} {Q : Flow → Shared → Prop} (J : Nat → (Str → Option Value) → List (Addr × Obj) → Prop) (hh : A.handled = none) (F : Fr h₀ env.locals s.heap m) (N : News h₀ env.locals s.heap news) (ht : s.heap.IsTuple ax its)
    (src : ∀ j ys nw h', (∀ b o, h₀.get? b = some o → h'.get? b = some o) → News h₀ env.locals h' nw → J j ys nw → h'.IsTuple ax its) (hJ : J 0 m news)
    (step : ∀ I, FStep prog w A h₀ env (.Name x px) body its.size (fun i v => its[i]? = some v) J I Q E s)
    (fin : ∀ h' tk m' news', Fr h₀ env.locals h' m' → News h₀ env.locals h' news' → J its.size m' news' → Q .next { s with heap := h', toks := tk }) : ForGo prog w A h₀ env (.Name x px) body Q E (.ref ax) s := by
  obtain ⟨hI, F', N', ap, up⟩ := iter_facts (o := { cls := .type "tuple_iterator", data := .fields #[.ref ax, .int 0 0] }) F N
  have hne : ax ≠ s.heap.objs.size := let ⟨_, e, _⟩ := ht; Nat.ne_of_lt (Heap.lt_size e)
  exact wpAny_pyIter_tuple ht (ForAt.mk J rfl (SrcOk.tuple hh hne (fun _ _ _ _ _ _ h => go_name h) src) hI ⟨⟨_, Heap.get?_push_size _ rfl, rfl, rfl⟩, let ⟨o, e, r⟩ := ht; ⟨o, up _ _ e, r⟩⟩ F' N' ap hJ (step _) fun h' tk m' nw F N _ hJ => fin h' tk m' nw F N hJ)
theorem ForGo.lst {ax : Addr} {its : Array Value} {Q : Flow → Shared → Prop} (J : Nat → (Str → Option Value) → List (Addr × Obj) → Prop) (hh : A.handled = none) (F : Fr h₀ env.locals s.heap m) (N : News h₀ env.locals s.heap news) (ht : s.heap.IsList ax its)
    (hgo : ∀ I i v (s : Shared) (Q : Unit → Shared → Prop) (E : Value → Shared → Prop), s.heap.IsListIter I ax i → Q () s → wpAny (model prog w) A (letOwnedTupleGo target (.ref I) v) Q E s)
    (src : ∀ j ys nw h', (∀ b o, h₀.get? b = some o → h'.get? b = some o) → News h₀ env.locals h' nw → J j ys nw → h'.IsList ax its) (hJ : J 0 m news)
    (step : ∀ I, FStep prog w A h₀ env target body its.size (fun i v => its[i]? = some v) J I Q E s)
    (fin : ∀ h' tk m' news', Fr h₀ env.locals h' m' → News h₀ env.locals h' news' → J its.size m' news' → Q .next { s with heap := h', toks := tk }) : ForGo prog w A h₀ env target body Q E (.ref ax) s := by
  obtain ⟨hI, F', N', ap, up⟩ := iter_facts (o := { cls := .type "list_iterator", data := .fields #[.ref ax, .int 0 0] }) F N
  have hne : ax ≠ s.heap.objs.size := let ⟨_, e, _⟩ := ht; Nat.ne_of_lt (Heap.lt_size e)
  exact wpAny_pyIter_list ht (ForAt.mk J rfl (SrcOk.list hh hne (hgo _) src) hI ⟨⟨_, Heap.get?_push_size _ rfl, rfl, rfl⟩, let ⟨o, e, r⟩ := ht; ⟨o, up _ _ e, r⟩⟩ F' N' ap hJ (step _) fun h' tk m' nw F N _ hJ => fin h' tk m' nw F N hJ)

inductive JF (m₀ : Str → Option Value) (vs : List Str) (rest : List (Addr × Obj)) (K : Nat → (Str → Option Value) → List (Addr × Obj) → Prop) (i : Nat) (m : Str → Option Value) : List (Addr × Obj) → Prop
  | mk {c : List (Addr × Obj)} (hm : ∀ y, y ∉ vs → m y = m₀ y) (hK : K i m c) : JF m₀ vs rest K i m (c ++ rest)
theorem ForGo.lstF {ax : Addr} {its : Array Value} {Q : Flow → Shared → Prop} {c₀ rest : List (Addr × Obj)} (F : Fr h₀ env.locals s.heap m) (N : News h₀ env.locals s.heap (c₀ ++ rest)) (vs : List Str) (K : Nat → (Str → Option Value) → List (Addr × Obj) → Prop) (hh : A.handled = none)
    (ht : s.heap.IsList ax its)
    (hgo : ∀ I i v (s : Shared) (Q : Unit → Shared → Prop) (E : Value → Shared → Prop), s.heap.IsListIter I ax i → Q () s → wpAny (model prog w) A (letOwnedTupleGo target (.ref I) v) Q E s)
    (src : ∀ h', (∀ b o, h₀.get? b = some o → h'.get? b = some o) → News h₀ env.locals h' rest → h'.IsList ax its) (hK : K 0 m c₀)
    (step : ∀ I i v m' c oI h tk, i < its.size → its[i]? = some v → (∀ y, y ∉ vs → m' y = m y) → K i m' c → Fr h₀ env.locals h m' → News h₀ env.locals h ((I, oI) :: (c ++ rest)) → (∀ p ∈ c ++ rest, p.1 ≠ I) →
      wpAny (model prog w) A (assign target env v) (fun _ s₂ => wpAny (model prog w) A (execs body env) (turnPost h₀ env.locals I oI { s with heap := h, toks := tk } (JF m vs rest K (i + 1)) Q) E s₂) E { s with heap := h, toks := tk })
    (fin : ∀ h' tk m' c, (∀ y, y ∉ vs → m' y = m y) → K its.size m' c → Fr h₀ env.locals h' m' → News h₀ env.locals h' (c ++ rest) → Q .next { s with heap := h', toks := tk }) : ForGo prog w A h₀ env target body Q E (.ref ax) s := by
  refine ForGo.lst (JF m vs rest K) hh F N ht hgo (fun j ys nw h' k N hJ => ?_) ⟨fun _ _ => rfl, hK⟩ (fun I i v m' nw oI h tk hi hv hJ F N ap => ?_) (fun h' tk m' nw F N hJ => ?_)
  · cases hJ; exact src h' k (news_right N)
  · cases hJ with | mk hm hK => exact step I i v m' _ oI h tk hi hv hm hK F N ap
  · cases hJ with | mk hm hK => exact fin h' tk m' _ hm hK F N
end
end Mine
end
section
open PySem PySem.W PyProof.Rows
namespace Mine
noncomputable def joinS (path b : Str) : Str := if Txt.startswith b (Str.ofString "/") = true then b else if (path.length : Int) = 0 then b else if Txt.endswith path (Str.ofString "/") = true then path ++ b else path ++ (Str.ofString "/" ++ b)
noncomputable def joinF (a : Str) (bs : List (Str × Tok)) : Str := bs.foldl (fun p b => joinS p b.1) a
noncomputable abbrev strsV (bs : List (Str × Tok)) : List Value := bs.map fun b => .str b.1 b.2
theorem joinS_len {p b : Str} : (joinS p b).length ≤ p.length + (b.length + 1) := by
  unfold joinS
  have e : (Str.ofString "/").length = 1 := rfl
  split
  · omega
  · split
    · omega
    · split <;> simp only [Str.length_append, e] <;> omega
theorem take_at {α : Type} : ∀ {bs : List α} {i : Nat} {v : α}, bs[i]? = some v → bs.take (i + 1) = bs.take i ++ [v] := fun h => by rw [List.take_add_one, h]; rfl
theorem joinF_snoc {a : Str} {bs : List (Str × Tok)} {i : Nat} {b : Str × Tok} (h : bs[i]? = some b) : joinF a (bs.take (i + 1)) = joinS (joinF a (bs.take i)) b.1 := by
  unfold joinF; rw [take_at h, List.foldl_append]; rfl
theorem joinF_len {a : Str} : ∀ {bs : List (Str × Tok)}, (joinF a bs).length ≤ a.length + (bs.map (fun b => b.1.length + 1)).sum := fun {bs} => by
  induction bs generalizing a with
  | nil => exact Nat.le_refl _
  | cons b bs ih =>
    have h1 := ih (a := joinS a b.1)
    have h2 := joinS_len (p := a) (b := b.1)
    show (joinF (joinS a b.1) bs).length ≤ _
    rw [List.map_cons, List.sum_cons]; omega
theorem news_first {h₀ h : Heap} {L : Addr} {o : Obj} (hL : L = (h₀.push o).objs.size) (hk : ∀ b o', (h₀.push o).get? b = some o' → h.get? b = some o') (hf : o.isFreed = false := by rfl) : News h₀ L h [(h₀.objs.size, o)] :=
  news_cons (hk _ _ (Heap.get?_push_size _ hf)) (by rw [hL, Heap.size_push]; exact Nat.ne_of_lt (Nat.lt_succ_self _)) (by
    cases q : h₀.get? h₀.objs.size with
    | none => rfl
    | some o' => exact absurd (Heap.lt_size q) (Nat.lt_irrefl _)) News.nil
theorem j1 {p b : Str} (h : Txt.startswith b (Str.ofString "/") = true) : joinS p b = b := if_pos h
theorem j2 {p b : Str} (h : Txt.startswith b (Str.ofString "/") = false) (h0 : (p.length : Int) = 0) : joinS p b = b := (if_neg (by rw [h]; decide)).trans (if_pos h0)
theorem j3 {p b : Str} (h : Txt.startswith b (Str.ofString "/") = false) (h0 : (p.length : Int) ≠ 0) (h1 : Txt.endswith p (Str.ofString "/") = true) : joinS p b = p ++ b := ((if_neg (by rw [h]; decide)).trans (if_neg h0)).trans (if_pos h1)
theorem j4 {p b : Str} (h : Txt.startswith b (Str.ofString "/") = false) (h0 : (p.length : Int) ≠ 0) (h1 : Txt.endswith p (Str.ofString "/") = false) : joinS p b = p ++ (Str.ofString "/" ++ b) :=
  ((if_neg (by rw [h]; decide)).trans (if_neg h0)).trans (if_neg (by rw [h1]; decide))
noncomputable abbrev joinFd (w : World) : FuncData := match (o228 w.params).data with | .func fd => fd | _ => default
theorem join_g (w : World) (a : Str) (bs : List (Str × Tok)) (t : Tok) (ha : ∀ i, (joinF a (bs.take i)).length ≤ 2000) (hb : ∀ b ∈ bs, b.1.length ≤ 2000)
    (hbnd : ∀ (M : Model) (A : Around) (E : Value → Shared → Prop) (Q : List (Str × Value) → Shared → Prop) (s : Shared), Q [(Str.ofString "a", .str a t), (Str.ofString "p", .ref s.heap.objs.size)] { s with heap := s.heap.push { cls := .type "tuple", data := .seq (strsV bs).toArray } } →
      wpAny M A (bindArgs (joinFd w) ⟨.str a t :: strsV bs, []⟩) Q E s) :
    PureCall w 2 228 (.str a t :: strsV bs) (fun t => .str (joinF a bs) t) := by
  k_with_none
  k_with "execs cons" => (k_fold; (with_reducible refine PySem.wpAny_execs_cons ?_))
  k_with "call ref" => ((with_reducible show wpAny _ _ (call (Value.ref 221) _) _ _ _); refine' getsep_p _ _ _  _ _ _ _ _ _ _ _ ?kG ?kR ?_; (case kG => exact Gnd.keeps (by assumption) (Fr.keep (by assumption))); (case kR => first | assumption | exact Room.deeper (by assumption) _ | exact Room.less (Room.deeper (by assumption) _) (by decide)); (intro t' h' tk' k'; (rename Fr _ _ _ _ => F0); (rename News _ _ _ _ => N0); have F' := Fr.keeps F0 k'; have N' := News.grown N0 k'; clear F0 N0; (try dsimp only)))
  k_with "call ref" => ((with_reducible show wpAny _ _ (call (Value.ref 94) _) _ _ _); refine' fspath_p _ _ _  _ _ _ _ _ _ _ _ ?kG ?kR ?_; (case kG => exact Gnd.keeps (by assumption) (Fr.keep (by assumption))); (case kR => first | assumption | exact Room.deeper (by assumption) _ | exact Room.less (Room.deeper (by assumption) _) (by decide)); (intro t' h' tk' k'; (rename Fr _ _ _ _ => F0); (rename News _ _ _ _ => N0); have F' := Fr.keeps F0 k'; have N' := News.grown N0 k'; clear F0 N0; (try dsimp only)))
  k_with "exec For Name Name cons nil" => (k_here; k_dflt (refine for_ex (by k_asm) ?_))
  k_with "eval Name" => (k_here; k_dflt (refine' ld ?k1 ?k2 ?_; (case k1 => k_asm); (case k2 => assumption); k_whole))
  k_with "loadName" => (k_here; k_dflt (refine' ldn ?k1 ?k2 ?_; (case k1 => k_asm); (case k2 => assumption); k_whole))
  intro loose mean mg mb A s Q E G R hret
  obtain ⟨hd0, dp0, fr0, gd0, un0⟩ := A
  obtain rfl : hd0 = none := R.hd
  have X := G.K; revert X; k_fill; intro X
  have T := G.T
  refine' enterR (binds := [(Str.ofString "a", .str a t), (Str.ofString "p", .ref s.heap.objs.size)]) (hb := s.heap.push { cls := .type "tuple", data := .seq (strsV bs).toArray }) ?k1 ?k2 ?k3 ?k4 ?k5 ?k6 ?k8 ?k9 ?k7 ?_ ?c1 ?c2 ?c3 ?c4
  (case k1 => assumption)
  (case k2 => exact T.nolimit)
  (case k3 => exact Nat.lt_of_le_of_lt (Nat.le_add_right _ _) R.dp)
  (case k4 => k_is)
  (case k5 => k_is)
  (case k6 => (intro M' A' E' Q' hq; exact hbnd M' A' E' Q' s hq))
  (case k8 => exact fun b o e => Heap.get?_push_of_some _ e)
  (case k9 => (rw [Heap.size_push]; exact Nat.le_succ _))
  (case k7 => exact locs rfl)
  (case c1 => exact rfl)
  (case c2 => exact rfl)
  (case c3 => exact rfl)
  (case c4 => decide)
  intro L h₁ hL F hk1
  have N : News s.heap L h₁ [(s.heap.objs.size, { cls := .type "tuple", data := .seq (strsV bs).toArray })] := news_first hL hk1
  generalize hD : s.heap.objs.size = D at F N
  clear hL
  try dsimp only
  try k_fold
  k_steps
  refine ForGo.tup (its := (strsV bs).toArray) (fun i m nw => (∃ tp, m (Str.ofString "path") = some (.str (joinF a (bs.take i)) tp)) ∧ (∃ ts, m (Str.ofString "sep") = some (.str (Str.ofString "/") ts)) ∧ (D, { cls := .type "tuple", data := .seq (strsV bs).toArray }) ∈ nw)
    rfl (by assumption) (by assumption) ⟨_, (News.get (by assumption) (.head _)), rfl, _, rfl⟩ (news_src fun j m nw h => h.2.2) ⟨⟨_, rfl⟩, ⟨_, rfl⟩, .head _⟩ ?_ ?_
  · intro I i v m nw oI h tk hi hv hJ F' N' ap
    obtain ⟨⟨tp, hp⟩, ⟨ts, hs⟩, hm⟩ := hJ
    obtain ⟨b, u, hbi, rfl⟩ : ∃ b u, bs[i]? = some (b, u) ∧ v = .str b u := by
      simp only [strsV, List.getElem?_toArray, List.getElem?_map, Option.map_eq_some_iff] at hv
      obtain ⟨⟨b, u⟩, e, rfl⟩ := hv
      exact ⟨b, u, e, rfl⟩
    have hl := ha i
    have hbl : b.length ≤ 2000 := hb _ (List.mem_of_getElem? hbi)
    have e := joinF_snoc (a := a) hbi
    k_steps
    all_goals
      (refine' ForEnd.mk ?eF ?eN ?eA ?eJ; (case eF => assumption); (case eN => assumption); (case eA => exact ap); (case eJ => exact ⟨⟨_, congrArg (fun z => some (Value.str z _)) (e.trans (by first | exact j1 (by assumption) | exact j2 (by assumption) (by assumption) | exact j3 (by assumption) (by assumption) (by assumption) | exact j4 (by assumption) (by assumption) (by assumption))).symm⟩, ⟨ts, hs⟩, hm⟩))
  · intro h' tk m' nw F' N' hJ
    obtain ⟨⟨tp, hp⟩, ⟨ts, hs⟩, hm⟩ := hJ
    k_steps
    have e : joinF a (bs.take (strsV bs).toArray.size) = joinF a bs := by rw [List.take_of_length_le]; simp [strsV]
    rw [e]
    first
      | exact hret _ _ _ (Fr.keep (by assumption))
      | exact hret 0 _ _ (Fr.keep (by assumption))
      | (dsimp only; exact hret _ _ _ (Fr.keep (by assumption)))
end Mine
end
section
open PySem PySem.W PyProof.Rows
namespace Mine
noncomputable abbrev stemF (p : Str) : Str := Txt.slice p none (some (Txt.rfind p (Str.ofString ".")))
theorem split_g (w : World) (p : Str) (t : Tok) (hl : p.length ≤ 4096) (h1 : Txt.rfind p (Str.ofString ".") > Txt.rfind p (Str.ofString "/")) (h2 : Txt.rfind p (Str.ofString "/") + 1 < Txt.rfind p (Str.ofString "."))
    (h3 : (Txt.slice p (some (Txt.rfind p (Str.ofString "/") + 1)) (some (Txt.rfind p (Str.ofString "/") + 1 + 1)) != Str.ofString ".") = true) :
    PureTup w 3 115 [.str p t] (fun l => ∃ t1 t2, l = [.str (stemF p) t1, .str (Txt.slice p (some (Txt.rfind p (Str.ofString "."))) none) t2]) := by
  k_with_none
  k_with "execs cons" => (k_fold; (with_reducible refine PySem.wpAny_execs_cons ?_))
  k_with "call ref" => ((with_reducible show wpAny _ _ (call (Value.ref 108) _) _ _ _); refine' ufspath_p _ _ _ _ _  _ _ _ _ _ _ _ _ ?kG ?kR ?_; (case kG => exact Gnd.keeps (by assumption) (Fr.keep (by assumption))); (case kR => first | assumption | exact Room.deeper (by assumption) _ | exact Room.less (Room.deeper (by assumption) _) (by decide)); (intro t' h' tk' k'; (rename Fr _ _ _ _ => F0); (rename News _ _ _ _ => N0); have F' := Fr.keeps F0 k'; have N' := News.grown N0 k'; clear F0 N0; (try dsimp only)))
  k_with "exec While" => (k_here; k_dflt (refine whl_start 100 ?_))
  k_with "exec While Compare" => (k_here; k_dflt (refine whl_start 100 ?_))
  intro loose mean mg mb A s Q E G R hret
  obtain ⟨hd0, dp0, fr0, gd0, un0⟩ := A
  obtain rfl : hd0 = none := R.hd
  have X := G.K; revert X; k_fill; intro X
  have T := G.T
  refine' enter (binds := [(Str.ofString "p", .str p t)]) ?k1 ?k2 ?k3 ?k4 ?k5 ?k6 ?k7 ?_ ?c1 ?c2 ?c3 ?c4
  (case k1 => assumption)
  (case k2 => exact T.nolimit)
  (case k3 => exact Nat.lt_of_le_of_lt (Nat.le_add_right _ _) R.dp)
  (case k4 => k_is)
  (case k5 => k_is)
  (case k6 => first | exact BindsTo.of_eq rfl | exact binds_K (by assumption) rfl (by k_is) rfl rfl rfl)
  (case k7 => exact locs rfl)
  (case c1 => exact rfl)
  (case c2 => exact rfl)
  (case c3 => exact rfl)
  (case c4 => decide)
  intro L h₁ hL F N
  try dsimp only
  try k_fold
  k_steps
  rw [decide_eq_true h2]
  k_steps
  first
    | exact hret _ _ _ _ (Fr.keep (by assumption)) (News.fresh (by assumption) (List.Mem.head _)) (News.get (by assumption) (List.Mem.head _)) ⟨_, _, rfl⟩
    | fail "rett"
noncomputable abbrev baseF (p : Str) : Str := Txt.slice p (some (Txt.rfind p (Str.ofString "/") + 1)) none
structure StemOk (p : Str) : Prop where
  l : p.length ≤ 4096
  a : Txt.rfind p (Str.ofString ".") > Txt.rfind p (Str.ofString "/")
  b : Txt.rfind p (Str.ofString "/") + 1 < Txt.rfind p (Str.ofString ".")
  c : (Txt.slice p (some (Txt.rfind p (Str.ofString "/") + 1)) (some (Txt.rfind p (Str.ofString "/") + 1 + 1)) != Str.ofString ".") = true
theorem modname_g (w : World) (p : Str) (t : Tok) (hp : p.length ≤ 4096) (S : StemOk (baseF p)) : PureCall w 4 191 [.str p t] (fun t => .str (stemF (baseF p)) t) := by
  k_with_none
  k_with "execs cons" => (k_fold; (with_reducible refine PySem.wpAny_execs_cons ?_))
  k_with "call ref" => ((with_reducible show wpAny _ _ (call (Value.ref 143) _) _ _ _); refine' basename_p _ _ _ ?h0 _ _ _ _ _ _ _ _ ?kG ?kR ?_; (case h0 => first | assumption | (simp only [Str.length_append]; omega) | omega); (case kG => exact Gnd.keeps (by assumption) (Fr.keep (by assumption))); (case kR => first | assumption | exact Room.deeper (by assumption) _ | exact Room.less (Room.deeper (by assumption) _) (by decide)); (intro t' h' tk' k'; (rename Fr _ _ _ _ => F0); (rename News _ _ _ _ => N0); have F' := Fr.keeps F0 k'; have N' := News.grown N0 k'; clear F0 N0; (try dsimp only)))
  k_with "call ref" => ((with_reducible show wpAny _ _ (call (Value.ref 115) _) _ _ _); refine' split_g _ _ _ ?h0 ?h1 ?h2 ?h3 _ _ _ _ _ _ _ _ ?kG ?kR ?_; (case h0 => first | assumption | (simp only [Str.length_append]; omega) | omega); (case h1 => first | assumption | (simp only [Str.length_append]; omega) | omega); (case h2 => first | assumption | (simp only [Str.length_append]; omega) | omega); (case h3 => first | assumption | (simp only [Str.length_append]; omega) | omega); (case kG => exact Gnd.keeps (by assumption) (Fr.keep (by assumption))); (case kR => first | assumption | exact Room.deeper (by assumption) _ | exact Room.less (Room.deeper (by assumption) _) (by decide)); (intro T' l' h' tk' k' hT' ho' hR'; obtain ⟨_, _, hl'⟩ := hR'; subst hl'; (rename Fr _ _ _ _ => F0); (rename News _ _ _ _ => N0); have F' := Fr.keeps F0 k'; have N' := news_more F0 N0 k' hT' ho'; clear F0 N0 hT' ho'; (try dsimp only)))
  intro loose mean mg mb A s Q E G R hret
  obtain ⟨hd0, dp0, fr0, gd0, un0⟩ := A
  obtain rfl : hd0 = none := R.hd
  have X := G.K; revert X; k_fill; intro X
  have T := G.T
  refine' enter (binds := [(Str.ofString "path", .str p t)]) ?k1 ?k2 ?k3 ?k4 ?k5 ?k6 ?k7 ?_ ?c1 ?c2 ?c3 ?c4
  (case k1 => assumption)
  (case k2 => exact T.nolimit)
  (case k3 => exact Nat.lt_of_le_of_lt (Nat.le_add_right _ _) R.dp)
  (case k4 => k_is)
  (case k5 => k_is)
  (case k6 => first | exact BindsTo.of_eq rfl | exact binds_K (by assumption) rfl (by k_is) rfl rfl rfl)
  (case k7 => exact locs rfl)
  (case c1 => exact rfl)
  (case c2 => exact rfl)
  (case c3 => exact rfl)
  (case c4 => decide)
  intro L h₁ hL F N
  try dsimp only
  try k_fold
  have hs1 := S.l
  have hs2 := S.a
  have hs3 := S.b
  have hs4 := S.c
  k_steps
  first
    | exact hret _ _ _ (Fr.keep (by assumption))
    | exact hret 0 _ _ (Fr.keep (by assumption))
    | (dsimp only; exact hret _ _ _ (Fr.keep (by assumption)))
end Mine
end
section
open PySem PySem.W PyProof.Rows
namespace Mine
theorem fresh_p (w : World) (p : Str) (t : Tok) (hp : p.length ≤ 4096) : PureCall w 1 129 [.str p t] (fun t => .str (Txt.slice (p ++ Str.ofString "/") none (some (-1))) t) := by
  k_with_none
  k_with "execs cons" => (k_fold; (with_reducible refine PySem.wpAny_execs_cons ?_))
  intro loose mean mg mb A s Q E G R hret
  obtain ⟨hd0, dp0, fr0, gd0, un0⟩ := A
  obtain rfl : hd0 = none := R.hd
  have X := G.K; revert X; k_fill; intro X
  have T := G.T
  refine' enter (binds := [(Str.ofString "s", .str p t)]) ?k1 ?k2 ?k3 ?k4 ?k5 ?k6 ?k7 ?_ ?c1 ?c2 ?c3 ?c4
  (case k1 => assumption)
  (case k2 => exact T.nolimit)
  (case k3 => exact Nat.lt_of_le_of_lt (Nat.le_add_right _ _) R.dp)
  (case k4 => k_is)
  (case k5 => k_is)
  (case k6 => first | exact BindsTo.of_eq rfl | exact binds_K (by assumption) rfl (by k_is) rfl rfl rfl)
  (case k7 => exact locs rfl)
  (case c1 => exact rfl)
  (case c2 => exact rfl)
  (case c3 => exact rfl)
  (case c4 => decide)
  intro L h₁ hL F N
  try dsimp only
  try k_fold
  k_steps
  first
    | exact hret _ _ _ (Fr.keep (by assumption))
    | exact hret 0 _ _ (Fr.keep (by assumption))
    | (dsimp only; exact hret _ _ _ (Fr.keep (by assumption)))
theorem splitroot_g (w : World) (p : Str) (t : Tok) (hl : p.length ≤ 4096) (h1 : (Txt.slice p none (some 1) != Str.ofString "/") = false) (h2 : (Txt.slice p (some 1) (some 2) != Str.ofString "/") = true) :
    PureTup w 3 136 [.str p t] (fun l => ∃ t1 t2 t3, l = [.str (Str.ofString "") t1, .str (Str.ofString "/") t2, .str (Txt.slice p (some 1) none) t3]) := by
  k_with_none
  k_with "execs cons" => (k_fold; (with_reducible refine PySem.wpAny_execs_cons ?_))
  intro loose mean mg mb A s Q E G R hret
  obtain ⟨hd0, dp0, fr0, gd0, un0⟩ := A
  obtain rfl : hd0 = none := R.hd
  have X := G.K; revert X; k_fill; intro X
  have T := G.T
  refine' enter (binds := [(Str.ofString "p", .str p t)]) ?k1 ?k2 ?k3 ?k4 ?k5 ?k6 ?k7 ?_ ?c1 ?c2 ?c3 ?c4
  (case k1 => assumption)
  (case k2 => exact T.nolimit)
  (case k3 => exact Nat.lt_of_le_of_lt (Nat.le_add_right _ _) R.dp)
  (case k4 => k_is)
  (case k5 => k_is)
  (case k6 => first | exact BindsTo.of_eq rfl | exact binds_K (by assumption) rfl (by k_is) rfl rfl rfl)
  (case k7 => exact locs rfl)
  (case c1 => exact rfl)
  (case c2 => exact rfl)
  (case c3 => exact rfl)
  (case c4 => decide)
  intro L h₁ hL F N
  try dsimp only
  try k_fold
  k_steps
  first
    | exact hret _ _ _ _ (Fr.keep (by assumption)) (News.fresh (by assumption) (List.Mem.head _)) (News.get (by assumption) (List.Mem.head _)) ⟨_, _, _, rfl⟩
    | fail "rett"
noncomputable abbrev normF (gs : List Str) : Str := Txt.slice ((Str.ofString "/" ++ Txt.join (Str.ofString "/") gs) ++ Str.ofString "/") none (some (-1))
structure Good (g : Str) : Prop where
  l : g.length ≤ 4096
  a : (g.length : Int) ≠ 0
  b : (g == Str.ofString ".") = false
  c : (g != Str.ofString "..") = true
theorem vals_snoc {l : List (Str × Tok)} {i : Nat} {g : Str} {t : Tok} (h : l[i]? = some (g, t)) : (strValues (l.take i)).toArray.push (.str g t) = (strValues (l.take (i + 1))).toArray := by
  rw [take_at h]; simp [strValues]
theorem vals_at {l : List (Str × Tok)} {i : Nat} {v : Value} (h : (strValues l).toArray[i]? = some v) : ∃ g t, l[i]? = some (g, t) ∧ v = .str g t := by
  simp only [strValues, List.getElem?_toArray, List.getElem?_map, Option.map_eq_some_iff] at h
  obtain ⟨⟨g, t⟩, e, rfl⟩ := h
  exact ⟨g, t, e, rfl⟩
theorem setM {m m₀ : Str → Option Value} {vs : List Str} {x : Str} {v : Option Value} (hx : x ∈ vs) (hm : ∀ y, y ∉ vs → m y = m₀ y) : ∀ y, y ∉ vs → (fun y => if y = x then v else m y) y = m₀ y := fun y hy => (if_neg (fun e : y = x => hy (e ▸ hx))).trans (hm y hy)
section
variable {prog : Program} {w : World} {A : Around} {E : Value → Shared → Prop} {s : Shared}
theorem truthy_push {l : Addr} {xs : Array Value} {x : Value} {Q : Bool → Shared → Prop} (hl : s.heap.IsList l (xs.push x)) (hz : xs.size ≤ 4096) (h : Q true { s with toks := s.toks + 1 + 1 }) :
    wpAny (model prog w) A (truthy (.ref l)) Q E s := wpAny_truthy_list hl (by rw [Array.size_push]; omega) (by rw [show (!(xs.push x).isEmpty) = true by simp]; exact h)
theorem getItem_last {l : Addr} {xs : Array Value} {x : Value} {t : Tok} {Q : Value → Shared → Prop} (hl : s.heap.IsList l (xs.push x)) (h : Q x s) : wpAny (model prog w) A (getItem (.ref l) (.int (-1) t)) Q E s :=
  wpAny_getItem_list_neg hl (by decide) (by rw [Array.size_push]; omega) (by decide) (by rw [Array.size_push, show ((-1 : Int) + ((xs.size + 1 : Nat) : Int)).toNat = xs.size by omega]; simp) h
end
theorem tail_last {prog : Program} {w : World} {A : Around} {E : Value → Shared → Prop} {s : Shared} {l : Addr} {xs : Array Value} {x : Value} {t : Tok} {value slice : Expr} {Q : Value → Shared → Prop} (hl : s.heap.IsList l (xs.push x)) (h : Q x s)
    (hs : subscripted slice false (.ref l) (.int (-1) t) = operate [.ref l, .int (-1) t] (getItem (.ref l) (.int (-1) t)) := by with_unfolding_all rfl) : wpAny (model prog w) A (subscriptTail value slice (.ref l) (.int (-1) t)) Q E s :=
  tail_any hl.typeIs PySem.F.slot_list_getitem.lookup (getItem_last hl h) hs
theorem kl_last_push : ∀ (l : List Value) (x : Value), kl_last (l ++ [x]) = some (l, x)
  | [], _ => rfl
  | a :: l, x => by
    show (match kl_last (l ++ [x]) with | some (p, y) => some (a :: p, y) | none => some ([], a)) = _
    rw [kl_last_push l x]
theorem vals_size {l : List (Str × Tok)} {i : Nat} (h : i ≤ 200) : (strValues (l.take i)).toArray.size ≤ sizeLine := by
  have e : (strValues (l.take i)).toArray.size ≤ i := by simp [strValues]; omega
  exact Nat.le_trans e (Nat.le_trans h (Nat.le_of_ble_eq_true rfl))
theorem norm_g (w : World) (p : Str) (t : Tok) (gs : List Str) (hl : p.length ≤ 4096) (h0 : (p.length : Int) ≠ 0) (h1 : (Txt.slice p none (some 1) != Str.ofString "/") = false) (h2 : (Txt.slice p (some 1) (some 2) != Str.ofString "/") = true)
    (hs : Txt.split (Txt.slice p (some 1) none) (Str.ofString "/") = gs ++ [Str.ofString "x", Str.ofString "..", Str.ofString ""]) (hg : ∀ g ∈ gs, Good g) (hgs : gs.length ≤ 100) (hgw : (gs.map (·.length)).sum + gs.length ≤ 4000) (hj : (Txt.join (Str.ofString "/") gs).length ≤ 4000) (hj0 : (((Str.ofString "/" ++ Txt.join (Str.ofString "/") gs).length : Nat) : Int) ≠ 0)
    (hj9 : (Str.ofString "/" ++ Txt.join (Str.ofString "/") gs).length ≤ 4096) : PureCall w 4 150 [.str p t] (fun t => .str (normF gs) t) := by
  k_with_none
  k_with "execs cons" => (k_fold; (with_reducible refine PySem.wpAny_execs_cons ?_))
  k_with "call ref" => ((with_reducible show wpAny _ _ (call (Value.ref 129) _) _ _ _); refine' fresh_p _ _ _ ?h0 _ _ _ _ _ _ _ _ ?kG ?kR ?_; (case h0 => first | assumption | (simp only [Str.length_append]; omega) | omega); (case kG => exact Gnd.keeps (by assumption) (Fr.keep (by assumption))); (case kR => first | assumption | exact Room.deeper (by assumption) _ | exact Room.less (Room.deeper (by assumption) _) (by decide)); (intro t' h' tk' k'; (rename Fr _ _ _ _ => F0); (rename News _ _ _ _ => N0); have F' := Fr.keeps F0 k'; have N' := News.grown N0 k'; clear F0 N0; (try dsimp only)))
  k_with "call ref" => ((with_reducible show wpAny _ _ (call (Value.ref 136) _) _ _ _); refine' splitroot_g _ _ _ ?h0 ?h1 ?h2 _ _ _ _ _ _ _ _ ?kG ?kR ?_; (case h0 => first | assumption | (simp only [Str.length_append]; omega) | omega); (case h1 => first | assumption | (simp only [Str.length_append]; omega) | omega); (case h2 => first | assumption | (simp only [Str.length_append]; omega) | omega); (case kG => exact Gnd.keeps (by assumption) (Fr.keep (by assumption))); (case kR => first | assumption | exact Room.deeper (by assumption) _ | exact Room.less (Room.deeper (by assumption) _) (by decide)); (intro T' l' h' tk' k' hT' ho' hR'; obtain ⟨_, _, _, hl'⟩ := hR'; subst hl'; (rename Fr _ _ _ _ => F0); (rename News _ _ _ _ => N0); have F' := Fr.keeps F0 k'; have N' := news_more F0 N0 k' hT' ho'; clear F0 N0 hT' ho'; (try dsimp only)))
  k_with "exec For Name Name cons nil" => (k_here; k_dflt (refine for_ex (by k_asm) ?_))
  k_with "eval Name" => (k_here; k_dflt (refine' ld ?k1 ?k2 ?_; (case k1 => k_asm); (case k2 => first | exact rfl | exact (hm _ (by decide)).trans rfl); k_whole))
  k_with "call builtin:str.join" => (k_here; k_dflt (refine join_listW ⟨_, News.get (by k_asm) (by k_mem), rfl, _, rfl⟩ hSA (by decide) (Nat.le_trans hgw (by decide)) ?_); intro _ _)
  k_with "truthy ref" => (k_here; k_dflt (refine' truthy_push ?k1 ?k2 ?_; (case k1 => exact ⟨_, News.get (by k_asm) (by k_mem), rfl, _, rfl⟩); (case k2 => exact hz9)))
  k_with "subscriptTail" => (k_here; k_dflt (refine' tail_last ?k1 ?_; (case k1 => exact ⟨_, News.get (by k_asm) (by k_mem), rfl, _, rfl⟩)))
  k_with "call builtin:list.pop" => (k_here; k_dflt (refine' kl_pop ?F ?N ?e ?U ?z ?_; (case F => k_asm); (case N => k_asm); (case U => k_upd); (case e => exact (congrArg kl_last Array.toList_push).trans (kl_last_push _ _)); (case z => exact hz8)); (intro h' F' N'; (try dsimp only [List.nil_append, List.cons_append] at N')))
  k_with "call builtin:list.append" => (k_here; k_dflt (refine' append_K ?k1 ?k2 ?k3 ?_ ?z; (case k1 => k_asm); (case k2 => k_asm); (case k3 => k_upd); (case z => exact hsz); k_whole); intro h' F' N'; (try k_sweep))
  intro loose mean mg mb A s Q E G R hret
  obtain ⟨hd0, dp0, fr0, gd0, un0⟩ := A
  obtain rfl : hd0 = none := R.hd
  have X := G.K; revert X; k_fill; intro X
  have T := G.T
  refine' enter (binds := [(Str.ofString "path", .str p t)]) ?k1 ?k2 ?k3 ?k4 ?k5 ?k6 ?k7 ?_ ?c1 ?c2 ?c3 ?c4
  (case k1 => assumption)
  (case k2 => exact T.nolimit)
  (case k3 => exact Nat.lt_of_le_of_lt (Nat.le_add_right _ _) R.dp)
  (case k4 => k_is)
  (case k5 => k_is)
  (case k6 => first | exact BindsTo.of_eq rfl | exact binds_K (by assumption) rfl (by k_is) rfl rfl rfl)
  (case k7 => exact locs rfl)
  (case c1 => exact rfl)
  (case c2 => exact rfl)
  (case c3 => exact rfl)
  (case c4 => decide)
  intro L h₁ hL F N
  try dsimp only
  try k_fold
  k_steps
  rotate_left
  · exact absurd (by assumption) h0
  rename_i l _ _ hsp _ _ _ _ NL _ _ _ F0 N0
  rw [hs] at hsp
  refine ForGo.lstF (c₀ := [_]) F0 N0 [Str.ofString "comp"] (fun i m c => ∃ n, c = [(NL, listOf (strValues (if i ≤ gs.length + 1 then l.take i else l.take gs.length)).toArray n)]) rfl ⟨_, News.get N0 (.tail _ (.head _)), rfl, _, rfl⟩
    (fun _ _ _ _ _ _ _ h => go_name h) (fun h' k N => ⟨_, News.get N (.head _), rfl, _, rfl⟩) ⟨0, rfl⟩ ?_ ?_
  · intro I i v m c oI h tk hi hv hm hK F N ap
    obtain ⟨n, rfl⟩ := hK
    obtain ⟨g, u, hgi, rfl⟩ := vals_at hv
    have hgl : (gs ++ [Str.ofString "x", Str.ofString "..", Str.ofString ""])[i]? = some g := by rw [← hsp, List.getElem?_map, hgi]; rfl
    try simp only [List.nil_append, List.cons_append] at N
    by_cases hi1 : i ≤ gs.length
    · have G : Good g := by
        by_cases h : i < gs.length
        · rw [List.getElem?_append_left h] at hgl; exact hg _ (List.mem_of_getElem? hgl)
        · obtain rfl : i = gs.length := Nat.le_antisymm hi1 (Nat.not_lt.mp h)
          rw [List.getElem?_append_right (Nat.le_refl _), Nat.sub_self] at hgl
          cases hgl; exact ⟨by decide, by decide, by decide, by decide⟩
      have gl := G.l
      have g1 := G.a
      have g2 := G.b
      have g3 := G.c
      rw [if_pos (Nat.le_succ_of_le hi1)] at N
      have hNI : @Ne Nat NL I := ap _ (.head _)
      have hsz : (strValues (l.take i)).toArray.size ≤ sizeLine := vals_size (by omega)
      try k_fold
      k_steps
      ·
        (refine' ForEnd.mk ?eF ?eN ?eA ?eJ; (case eF => assumption); (case eN => assumption); (case eA => exact off_cons hNI (fun p hp => ap p (.tail _ hp))); (case eJ => exact JF.mk (c := [_]) (setM (.head _) hm) ⟨_, by rw [if_pos (Nat.succ_le_succ hi1), ← vals_snoc hgi]⟩))
      · exact absurd (by assumption) g1
    · rw [List.getElem?_append_right (Nat.le_of_lt (Nat.not_le.mp hi1))] at hgl
      obtain ⟨j, hj⟩ : ∃ j, i - gs.length = j + 1 := ⟨i - gs.length - 1, by omega⟩
      rw [hj] at hgl
      match j, hgl with
      | 0, hgl =>
        obtain rfl : i = gs.length + 1 := by omega
        cases hgl
        rw [if_pos (Nat.le_refl _)] at N
        have hNI : @Ne Nat NL I := ap _ (.head _)
        obtain ⟨tx, hx⟩ : ∃ tx, l[gs.length]? = some (Str.ofString "x", tx) := by
          have : (l.map (fun x => x.1))[gs.length]? = some (Str.ofString "x") := by rw [hsp, List.getElem?_append_right (Nat.le_refl _), Nat.sub_self]; rfl
          rw [List.getElem?_map, Option.map_eq_some_iff] at this
          obtain ⟨⟨a, b⟩, e, rfl⟩ := this
          exact ⟨b, e⟩
        rw [← vals_snoc hx] at N
        have hz9 : (strValues (l.take gs.length)).toArray.size ≤ 4096 := by simp [strValues]; omega
        have hz8 : ((strValues (l.take gs.length)).toArray.push (.str (Str.ofString "x") tx)).toList.length ≤ sizeLine := Nat.le_trans (by simp [strValues]; omega : _ ≤ 4097) (Nat.le_of_ble_eq_true rfl)
        try k_fold
        k_steps
        (refine' ForEnd.mk ?eF ?eN ?eA ?eJ; (case eF => assumption); (case eN => assumption); (case eA => exact off_cons hNI (fun p hp => ap p (.tail _ hp))); (case eJ => exact JF.mk (c := [_]) (setM (.head _) hm) ⟨_, by rw [if_neg (by omega)]⟩))
      | 1, hgl =>
        obtain rfl : i = gs.length + 2 := by omega
        cases hgl
        rw [if_neg (by omega)] at N ap
        try k_fold
        k_steps
        dsimp only
        (refine' ForEnd.mk ?eF ?eN ?eA ?eJ; (case eF => assumption); (case eN => assumption); (case eA => exact ap); (case eJ => exact JF.mk (c := [_]) (setM (.head _) hm) ⟨_, by rw [if_neg (by omega)]⟩))
  · intro h' tk m' c hm hK F N
    obtain ⟨n, rfl⟩ := hK
    have hln : l.length = gs.length + 3 := by rw [← List.length_map (f := fun x : Str × Tok => x.1), hsp, List.length_append]; rfl
    rw [if_neg (by simp [strValues]; omega)] at N
    try simp only [List.nil_append, List.cons_append] at N
    have hSA : StrsAre (strValues (l.take gs.length)) gs := by
      have := strsAre_of_values (l.take gs.length)
      rw [List.map_take, hsp, List.take_left] at this
      exact this
    k_steps
    first
      | exact hret _ _ _ (Fr.keep (by assumption))
      | exact hret 0 _ _ (Fr.keep (by assumption))
      | (dsimp only; exact hret _ _ _ (Fr.keep (by assumption)))
end Mine
end
section
open PySem PySem.W PyProof.Rows
namespace Mine
structure NormOk (p : Str) (gs : List Str) : Prop where
  l : p.length ≤ 4096
  h0 : (p.length : Int) ≠ 0
  h1 : (Txt.slice p none (some 1) != Str.ofString "/") = false
  h2 : (Txt.slice p (some 1) (some 2) != Str.ofString "/") = true
  hs : Txt.split (Txt.slice p (some 1) none) (Str.ofString "/") = gs ++ [Str.ofString "x", Str.ofString "..", Str.ofString ""]
  hg : ∀ g ∈ gs, Good g
  hn : gs.length ≤ 100
  hw : (gs.map (·.length)).sum + gs.length ≤ 4000
  hj : (Txt.join (Str.ofString "/") gs).length ≤ 4000
  hk : (((Str.ofString "/" ++ Txt.join (Str.ofString "/") gs).length : Nat) : Int) ≠ 0
  hm : (Str.ofString "/" ++ Txt.join (Str.ofString "/") gs).length ≤ 4096
theorem norm_ok (w : World) (p : Str) (t : Tok) (gs : List Str) (K : NormOk p gs) : PureCall w 4 150 [.str p t] (fun t => .str (normF gs) t) :=
  norm_g w p t gs K.l K.h0 K.h1 K.h2 K.hs K.hg K.hn K.hw K.hj K.hk K.hm
theorem none_ge {h : Heap} {a : Addr} (e : h.objs.size ≤ a) : h.get? a = none := Heap.get?_none_of_le e
theorem news_two {h₀ h : Heap} {L : Addr} {o o2 : Obj} (hL : L = ((h₀.push o).push o2).objs.size) (hk : ∀ b o', ((h₀.push o).push o2).get? b = some o' → h.get? b = some o') (hf : o.isFreed = false := by rfl) (hf2 : o2.isFreed = false := by rfl) :
    News h₀ L h [((h₀.push o).objs.size, o2), (h₀.objs.size, o)] :=
  news_cons (hk _ _ (Heap.get?_push_size _ hf2)) (by rw [hL, Heap.size_push (h := h₀.push o)]; exact Nat.ne_of_lt (Nat.lt_succ_self _)) (none_ge (by rw [Heap.size_push]; exact Nat.le_succ _))
    (news_cons (hk _ _ (Heap.get?_push_of_some _ (Heap.get?_push_size _ hf))) (by rw [hL, Heap.size_push, Heap.size_push]; exact Nat.ne_of_lt (Nat.lt_succ_of_lt (Nat.lt_succ_self h₀.objs.size))) (none_ge (Nat.le_refl _)) News.nil)
theorem two_lt {h : Heap} {o : Obj} : @LT.lt Nat _ h.objs.size (h.push o).objs.size := by rw [Heap.size_push]; exact Nat.lt_succ_self _
theorem empty_dict {prog : Program} {w : World} (h : Heap) : ({ cls := .type "dict", data := .dict #[] } : Obj).IsDictOf (strKind prog w) [] := by
  obtain ⟨o, ho, hd⟩ := Heap.dictOf_iff.mp (Heap.DictOf.new (knd := strKind prog w) h)
  rw [Heap.get?_push_size _ rfl] at ho
  exact (Option.some.inj ho) ▸ hd
theorem truthy_nodict {prog : Program} {w : World} {A : Around} {E : Value → Shared → Prop} {s : Shared} {d : Addr} {Q : Bool → Shared → Prop} (hd : (d == sysModules) = false) (hm : s.heap.get? d = some { cls := .type "dict", data := .dict #[] })
    (h : Q false { s with toks := s.toks + 1 + 1 }) : wpAny (model prog w) A (truthy (.ref d)) Q E s :=
  wpAny_truthy_dict (knd := strKind prog w) (kvs := []) hd (Heap.dictOf_iff.mpr ⟨_, hm, empty_dict s.heap⟩) (by decide) h
theorem not_modules {w : World} {g : Heap} {d : Addr} (X : (K2 w.params).In g) (e : g.get? d = none) : (d == sysModules) = false := by
  cases q : d == sysModules with
  | false => rfl
  | true =>
    obtain rfl : d = 1 := beq_iff_eq.mp q
    rw [X 1 (ob1 w.params) rfl] at e; cases e
theorem cpath_p (w : World) (a b c p : Str) (ta tb tc t : Tok) (TA DA : Addr) :
    LedCall w 2 122 [.str a ta, .str b tb, .str c tc, .ref TA, .ref DA] [(DA, { cls := .type "dict", data := .dict #[] }), (TA, { cls := .type "tuple", data := .seq [.str p t].toArray })]
      (fun v h h' => v = .str p t ∧ ∀ b o, h.get? b = some o → h'.get? b = some o) := by
  k_with_none
  k_with "execs cons" => (k_fold; (with_reducible refine PySem.wpAny_execs_cons ?_))
  k_with "call ref" => ((with_reducible show wpAny _ _ (call (Value.ref 101) _) _ _ _); refine' kind_p _ _ _ _ _  _ _ _ _ _ _ _ _ ?kG ?kR ?_; (case kG => exact Gnd.keeps (by assumption) (Fr.keep (by assumption))); (case kR => first | assumption | exact Room.deeper (by assumption) _ | exact Room.less (Room.deeper (by assumption) _) (by decide)); (intro t' h' tk' k'; (rename Fr _ _ _ _ => F0); (rename News _ _ _ _ => N0); have F' := Fr.keeps F0 k'; have N' := News.grown N0 k'; clear F0 N0; (try dsimp only)))
  k_with "truthy ref" => (refine' truthy_nodict hDA ?k1 ?_; (case k1 => exact News.get (by k_asm) (by k_mem)))
  refine led_intro ?_
  intro loose mean mg mb A s Q E g G hkg hsz hargs hfull R hret
  obtain ⟨hd0, dp0, fr0, gd0, un0⟩ := A
  obtain rfl : hd0 = none := R.hd
  have X := G.K; revert X; k_fill; intro X
  have T := G.T
  refine' enterG (binds := [(Str.ofString "name", .str a ta), (Str.ofString "cname", .str b tb), (Str.ofString "argname", .str c tc), (Str.ofString "args", .ref TA), (Str.ofString "kwargs", .ref DA)]) ?k1 hkg hsz hargs ?k2 ?k3 ?k4 ?k5 ?k6 ?k7 ?_ ?c1 ?c2 ?c3 ?c4
  (case k1 => assumption)
  (case k2 => exact T.nolimit)
  (case k3 => exact Nat.lt_of_le_of_lt (Nat.le_add_right _ _) R.dp)
  (case k4 => k_is)
  (case k5 => k_is)
  (case k6 => first | exact BindsTo.of_eq rfl | exact binds_K (Frag.In.keeps (by assumption) hkg) rfl (by k_is) rfl rfl rfl)
  (case k7 => exact locs rfl)
  (case c1 => exact rfl)
  (case c2 => exact rfl)
  (case c3 => exact rfl)
  (case c4 => decide)
  intro L h₁ F N
  try dsimp only
  try k_fold
  have hDA := not_modules X (hargs _ (.head _)).2
  k_steps
  first
    | exact hret _ _ _ (⟨rfl, led_keep (by assumption) (by assumption) hargs hfull (by (repeat' (first | exact List.forall_mem_nil _ | refine List.forall_mem_cons.mpr ⟨by k_mem, ?_⟩)))⟩)
    | (dsimp only; exact hret _ _ _ (⟨rfl, led_keep (by assumption) (by assumption) hargs hfull (by (repeat' (first | exact List.forall_mem_nil _ | refine List.forall_mem_cons.mpr ⟨by k_mem, ?_⟩)))⟩))
theorem normpath_p (w : World) (p : Str) (t : Tok) (gs : List Str) (K : NormOk p gs) : PureCall w 6 157 [.str p t] (fun t => .str (normF gs) t) := by
  k_with_none
  k_with "execs cons" => (k_fold; (with_reducible refine PySem.wpAny_execs_cons ?_))
  k_with "call ref" => ((with_reducible show wpAny _ _ (call (Value.ref 122) _) _ _ _); refine' cpath_p _ _ _ _ _ _ _ _ _ _ _  _ _ _ _ _ _ _ _ _ ?kG ?kK ?kS ?kA ?kR ?_; (case kG => assumption); (case kK => exact Fr.keep (by assumption)); (case kS => exact led_size (by assumption)); (case kA => exact led_args (by assumption) (by (repeat' (first | exact List.forall_mem_nil _ | refine List.forall_mem_cons.mpr ⟨by k_mem, ?_⟩)))); (case kR => first | assumption | exact Room.deeper (by assumption) _ | exact Room.less (Room.deeper (by assumption) _) (by decide)); (intro v' h' tk' hR'; obtain ⟨hv', k'⟩ := hR'; subst hv'; (rename Fr _ _ _ _ => F0); (rename News _ _ _ _ => N0); have F' := Fr.keeps F0 k'; have N' := News.grown N0 k'; clear F0 N0; (try dsimp only)))
  k_with "call ref" => ((with_reducible show wpAny _ _ (call (Value.ref 150) _) _ _ _); refine' norm_ok _ _ _ gs K _ _ _ _ _ _ _ _ ?kG ?kR ?_; (case kG => exact Gnd.keeps (by assumption) (Fr.keep (by assumption))); (case kR => first | assumption | exact Room.deeper (by assumption) _ | exact Room.less (Room.deeper (by assumption) _) (by decide)); (intro t' h' tk' k'; (rename Fr _ _ _ _ => F0); (rename News _ _ _ _ => N0); have F' := Fr.keeps F0 k'; have N' := News.grown N0 k'; clear F0 N0; (try dsimp only)))
  intro loose mean mg mb A s Q E G R hret
  obtain ⟨hd0, dp0, fr0, gd0, un0⟩ := A
  obtain rfl : hd0 = none := R.hd
  have X := G.K; revert X; k_fill; intro X
  have T := G.T
  refine' enterR (binds := [(Str.ofString "args", .ref s.heap.objs.size), (Str.ofString "kwargs", .ref (s.heap.push { cls := .type "tuple", data := .seq [.str p t].toArray }).objs.size)]) (hb := (s.heap.push { cls := .type "tuple", data := .seq [.str p t].toArray }).push { cls := .type "dict", data := .dict #[] }) ?k1 ?k2 ?k3 ?k4 ?k5 ?k6 ?k8 ?k9 ?k7 ?_ ?c1 ?c2 ?c3 ?c4
  (case k1 => assumption)
  (case k2 => exact T.nolimit)
  (case k3 => exact Nat.lt_of_le_of_lt (Nat.le_add_right _ _) R.dp)
  (case k4 => k_is)
  (case k5 => k_is)
  (case k6 => (intro M' A' E' Q' hq; show wpAny M' A' (do let T ← alloc { cls := .type "tuple", data := .seq [.str p t].toArray }; let D ← alloc { cls := .type "dict", data := .dict #[] }; pure [(Str.ofString "args", .ref T), (Str.ofString "kwargs", .ref D)]) Q' E' s; exact wpAny_bind (wpAny_alloc (wpAny_bind (wpAny_alloc (wpAny_pure hq))))))
  (case k8 => exact fun b o e => Heap.get?_push_of_some _ (Heap.get?_push_of_some _ e))
  (case k9 => (rw [Heap.size_push, Heap.size_push]; omega))
  (case k7 => exact locs rfl)
  (case c1 => exact rfl)
  (case c2 => exact rfl)
  (case c3 => exact rfl)
  (case c4 => decide)
  intro L h₁ hL F hk1
  have N : News s.heap L h₁ [((s.heap.push { cls := .type "tuple", data := .seq [.str p t].toArray }).objs.size, { cls := .type "dict", data := .dict #[] }), (s.heap.objs.size, { cls := .type "tuple", data := .seq [.str p t].toArray })] := news_two hL hk1
  have l1 := two_lt (h := s.heap) (o := { cls := .type "tuple", data := .seq [.str p t].toArray })
  generalize hD : s.heap.objs.size = D at F N l1
  generalize hD2 : (s.heap.push { cls := .type "tuple", data := .seq [.str p t].toArray }).objs.size = D2 at F N l1
  clear hL
  try dsimp only
  try k_fold
  k_steps
  first
    | exact hret _ _ _ (Fr.keep (by assumption))
    | exact hret 0 _ _ (Fr.keep (by assumption))
    | (dsimp only; exact hret _ _ _ (Fr.keep (by assumption)))
end Mine
end
section
open PySem PySem.W PyProof.Rows
namespace Mine
noncomputable abbrev lp (t : SetTable) : Bool × Bool := (t.led, t.plain)
theorem orStandIn_lp (t : SetTable) (n : Nat) : lp (t.orStandIn n) = lp t ∨ lp (t.orStandIn n) = (t.led, false) := by
  unfold SetTable.orStandIn; split
  · exact .inl rfl
  · exact .inr rfl
theorem layNew_lp (t : SetTable) (es : Array (Int × Value)) (h : Int) (x : Value) : lp (layNew t es h x).2.1 = lp t ∨ lp (layNew t es h x).2.1 = (t.led, false) := by
  unfold layNew
  cases q : t.freeSlot h with
  | none => exact .inr rfl
  | some p => exact orStandIn_lp _ _
theorem relayAll_lp (t : SetTable) (es : Array (Int × Value)) (n : Nat) : lp (relayAll t es n).2.1 = lp t ∨ lp (relayAll t es n).2.1 = (t.led, false) := by
  unfold relayAll
  cases q : t.relaid (es.map (·.1)) n with
  | none => exact .inr rfl
  | some p =>
    have e : lp p.1 = lp t := by
      unfold SetTable.relaid SetTable.laid at q
      cases r : SetTable.layClean (SetTable.sizeAbove n - 1) (es.map (·.1)) with
      | none => rw [r] at q; cases q
      | some o => rw [r] at q; cases q; rfl
    dsimp only
    split
    · exact .inl e
    · exact .inr rfl

section
variable {prog : Program} {w : World} {A : Around} {E : Value → Shared → Prop} {s : Shared}
def LedOk (w : World) (t : SetTable) (n : Nat) : Prop := (w.params.followText "set-order" = false → t.led = true) ∧ (n ≠ 0 → t.plain = false)
inductive StrSet (prog : Program) (w : World) (S : Str → Bool) (n : Nat) (o : Obj) : Prop
  | mk {es : Array (Int × Value)} {ep : Nat} {t : SetTable} (hex : o.ExactSet) (hd : o.data = .set es ep t) (hel : ElemsOf (strKind prog w) es.toList)
      (hmem : ∀ k, S k = true ↔ ∃ e ∈ es.toList, (strKind prog w).is k e.2 = true) (hb : es.size < scanBound) (hf : t.fits es.size = true) (hn : es.size = n) (hl : LedOk w t n) : StrSet prog w S n o
theorem LedOk.off {t t' : SetTable} {n n' : Nat} (h : LedOk w t n) (e : t'.led = t.led) (p : t'.plain = false) : LedOk w t' n' := ⟨fun q => e.trans (h.1 q), fun _ => p⟩
theorem put_get {h : Heap} {a : Addr} {o : Obj} {es es' : Array (Int × Value)} {ep : Nat} {t t' : SetTable} (ho : h.get? a = some o) (hd : o.data = .set es ep t) :
    (h.update a (Obj.putSet es' t')).get? a = some { o with data := .set es' (ep + 1) t' } := by
  have := Heap.get?_update_self (Obj.putSet es' t') ho (by rw [putSet_of es' t' hd]; rfl)
  rw [putSet_of es' t' hd] at this; exact this
theorem lp_off {t t' : SetTable} (h : lp t' = lp t ∨ lp t' = (t.led, false)) (p : t.plain = false) : t'.led = t.led ∧ t'.plain = false := by
  have e1 : t'.led = (lp t').1 := rfl
  have e2 : t'.plain = (lp t').2 := rfl
  rcases h with h | h
  · rw [e1, e2, h]; exact ⟨rfl, p⟩
  · rw [e1, e2, h]; exact ⟨rfl, rfl⟩

theorem addTail_str {a : Addr} {o : Obj} {es : Array (Int × Value)} {ep : Nat} {t : SetTable} (ho : s.heap.get? a = some o) (hex : o.ExactSet) (hd : o.data = .set es ep t)
    {es1 : Array (Int × Value)} {t2 : SetTable} {S' : Str → Bool} {n : Nat} (hel1 : ElemsOf (strKind prog w) es1.toList) (hmem1 : ∀ k', S' k' = true ↔ ∃ e ∈ es1.toList, (strKind prog w).is k' e.2 = true)
    (hb1 : es1.size < scanBound) (hf2 : t2.fits es1.size = true) (hn : es1.size = n) (hl : LedOk w t2 n) (hp : t2.plain = false) {wasDummy : Bool} {R : Option Bool → Shared → Prop}
    (h : ∀ h' o', Heap.SameBut a s.heap h' → h'.get? a = some o' → StrSet prog w S' n o' → R (some true) { s with heap := h' }) :
    wpAny (model prog w) A (do
        storeSet a es1 t2
        if (!wasDummy && t2.tooFull) = true then do
            (match (relayAll t2 es1 (SetTable.grown es1.size)).2.2 with | true => rule "set.scan.the-table-gave-way" | false => pure ())
            storeSet a (relayAll t2 es1 (SetTable.grown es1.size)).1 (relayAll t2 es1 (SetTable.grown es1.size)).2.1
            pure (some true)
          else pure (some true)) R E s := by
  refine wpAny_bind (wpAny_storeSet_of ho hd ?_ (fits_of_scanBound hb1))
  have ho1 := put_get (es' := es1) (t' := t2) ho hd
  have hsb1 := Heap.SameBut.update s.heap a (Obj.putSet es1 t2)
  split
  · have hpm := relayAll_perm t2 es1 (SetTable.grown es1.size)
    have hfr := relayAll_fits t2 es1 (SetTable.grown es1.size)
    have hlp := lp_off (relayAll_lp t2 es1 (SetTable.grown es1.size)) hp
    generalize hRl : relayAll t2 es1 (SetTable.grown es1.size) = Rl at hpm hfr hlp ⊢
    obtain ⟨es2, t3, gave2⟩ := Rl
    dsimp only at hpm hfr hlp ⊢
    have hsz : es2.size = es1.size := by rw [← Array.length_toList, hpm.length_eq, Array.length_toList]
    have hgw : ∀ {s₁ : Shared} {Q' : Unit → Shared → Prop}, Q' () s₁ → wpAny (model prog w) A (match gave2 with | true => rule "set.scan.the-table-gave-way" | false => pure ()) Q' E s₁ :=
      fun hq => by cases gave2 <;> first | exact wpAny_pure hq | exact wpAny_rule hq
    refine wpAny_bind (hgw ?_)
    refine wpAny_bind (wpAny_storeSet_of ho1 rfl ?_ (fits_of_scanBound (by rw [hsz]; exact hb1)))
    refine wpAny_pure (h _ _ (hsb1.trans (Heap.SameBut.update _ a _)) (put_get ho1 rfl) (StrSet.mk hex rfl (hel1.perm hpm)
      (fun k' => (hmem1 k').trans ⟨fun ⟨e, he, q⟩ => ⟨e, hpm.mem_iff.mpr he, q⟩, fun ⟨e, he, q⟩ => ⟨e, hpm.mem_iff.mp he, q⟩⟩) (by rw [hsz]; exact hb1) hfr (hsz.trans hn) (hl.off hlp.1 hlp.2)))
  · exact wpAny_pure (h _ _ hsb1 ho1 (StrSet.mk hex rfl hel1 hmem1 hb1 hf2 hn hl))

theorem setAdd_str {a : Addr} {o : Obj} {S : Str → Bool} {n : Nat} {k : Str} {u : Tok} {Q : Bool → Shared → Prop} (ho : s.heap.get? a = some o) (hS : StrSet prog w S n o) (hroom : n + 1 < scanBound)
    (h : ∀ h' o', Heap.SameBut a s.heap h' → h'.get? a = some o' → StrSet prog w (fun k' => S k' || decide (k' = k)) (if S k then n else n + 1) o' → Q (!S k) { s with heap := h' }) :
    wpAny (model prog w) A (setAddHashed a (.str k u) ((strKind prog w).hash k)) Q E s := by
  have hkey : (strKind prog w).is k (.str k u) = true := strKind_is _ _ _ _
  have hsc : (Value.str k u).scannable = true := rfl
  obtain ⟨hex, hd, hel, hmem, hb, hf, hn, hl⟩ := hS
  rename_i es ep t
  have hb1 : es.size + 1 < scanBound := by rw [hn]; exact hroom
  unfold setAddHashed setAddHashedIn
  refine wpAny_holding (wpAny_bind (wpAny_setState_of ho hd hf ?_))
  dsimp only
  rw [byScan_of hsc hb hel]
  simp only [↓reduceIte]
  unfold setAddByScan
  refine wpAny_bind ?_
  refine wpAny_bind (wpAny_rule ?_)
  refine wpAny_bind (wpAny_setScan_of hkey ho hd hf hel ?_)
  cases hr : List.findIdx? (fun e => (strKind prog w).is k e.2) es.toList with
  | some j =>
    dsimp only
    obtain ⟨hj, hpj, _⟩ := List.findIdx?_eq_some_iff_getElem.mp hr
    have hSk : S k = true := (hmem k).mpr ⟨es.toList[j], List.getElem_mem hj, hpj⟩
    refine wpAny_pure (wpAny_pure ?_)
    have this := h s.heap o (Heap.SameBut.refl a s.heap) ho (StrSet.mk hex hd hel (fun k' => by
      rw [Bool.or_eq_true, decide_eq_true_eq, ← hmem k']
      exact ⟨fun hk => hk.elim id (fun e => e ▸ hSk), .inl⟩) hb hf (by rw [hSk]; exact hn) (by rw [hSk]; exact hl))
    rw [hSk] at this; exact this
  | none =>
    dsimp only
    have hSk : S k = false := by
      cases hk : S k with
      | false => rfl
      | true => obtain ⟨e, he, hp⟩ := (hmem k).mp hk; have := List.findIdx?_eq_none_iff.mp hr e he; rw [hp] at this; exact Bool.noConfusion this
    have hgw : ∀ (b : Bool) {s₁ : Shared} {Q' : Unit → Shared → Prop}, Q' () s₁ → wpAny (model prog w) A (match b with | true => rule "set.scan.the-table-gave-way" | false => pure ()) Q' E s₁ :=
      fun b s₁ Q' hq => by cases b <;> first | exact wpAny_pure hq | exact wpAny_rule hq
    have hperm := layNew_perm t es ((strKind prog w).hash k) (.str k u)
    have hfits := layNew_fits t es ((strKind prog w).hash k) (.str k u)
    have hlp := layNew_lp t es ((strKind prog w).hash k) (.str k u)
    generalize hL : layNew t es ((strKind prog w).hash k) (.str k u) = L at hperm hfits hlp ⊢
    obtain ⟨es1, t1, wasDummy, gave⟩ := L
    dsimp only at hperm hfits hlp ⊢
    rw [Array.toList_push] at hperm
    have hel1 : ElemsOf (strKind prog w) es1.toList := (hel.push hkey hsc).perm hperm
    have hmem1 := mem_push_iff hkey hmem hperm
    have hsz1 : es1.size = n + 1 := by rw [← Array.length_toList, hperm.length_eq, List.length_append, Array.length_toList, hn]; rfl
    have hb1' : es1.size < scanBound := by rw [hsz1]; exact hroom
    have hled : t1.led = t.led := by
      have e1 : t1.led = (lp t1).1 := rfl
      rcases hlp with q | q <;> (rw [e1, q])
    refine wpAny_bind (hgw _ ?_)
    have hend : ∀ h' o', Heap.SameBut a s.heap h' → h'.get? a = some o' → StrSet prog w (fun k' => S k' || decide (k' = k)) (n + 1) o' → Q true { s with heap := h' } := fun h' o' hsb hg hS' => by
      have := h h' o' hsb hg; rw [hSk] at this; exact this hS'
    split
    · refine wpAny_bind ?_
      rw [hashByValue_scannable 8 hsc]
      refine wpAny_pure ?_
      refine addTail_str ho hex hd hel1 hmem1 hb1' (SetTable.fits_plain_off hfits) hsz1 (hl.off hled rfl) rfl ?_
      intro h' o' hsb hg hS'; dsimp only; exact wpAny_pure (hend h' o' hsb hg hS')
    · rename_i hpl
      refine wpAny_bind (wpAny_pure ?_)
      simp only [↓reduceIte]
      refine addTail_str ho hex hd hel1 hmem1 hb1' hfits hsz1 (hl.off hled (by simpa using hpl)) (by simpa using hpl) ?_
      intro h' o' hsb hg hS'; dsimp only; exact wpAny_pure (hend h' o' hsb hg hS')
end
end Mine
end
section
open PySem PySem.W PyProof.Rows
namespace Mine
section
variable {prog : Program} {w : World} {A : Around} {E : Value → Shared → Prop} {s : Shared}
noncomputable abbrev ledNow (w : World) : Bool := !w.params.followText "set-order"
noncomputable abbrev set0 (w : World) : Obj := { cls := .type "set", dict := none, data := .set #[] 0 (.fresh 0 0 (ledNow w)) }
theorem set0_is : StrSet prog w (fun _ => false) 0 (set0 w) :=
  StrSet.mk (es := #[]) ⟨rfl, rfl, rfl⟩ rfl (fun e he => by simp at he) (fun k => by simp) (by decide) (by rfl) rfl ⟨fun q => by show (!_) = true; rw [q]; rfl, fun q => absurd rfl q⟩
theorem StrSet.congr {S S' : Str → Bool} {n n' : Nat} {o : Obj} (h : StrSet prog w S n o) (e : ∀ k, S k = S' k) (en : n = n') : StrSet prog w S' n' o := by
  have : S = S' := funext e
  subst this; subst en; exact h
theorem take_any {bs : List (Str × Tok)} {i : Nat} {b : Str × Tok} (h : bs[i]? = some b) (k : Str) : ((bs.take i).any (fun b => b.1 == k) || decide (k = b.1)) = (bs.take (i + 1)).any (fun b => b.1 == k) := by
  rw [List.take_add_one, h, Option.toList_some, List.any_append]
  congr 1
  simp only [List.any_cons, List.any_nil, Bool.or_false]
  by_cases e : k = b.1
  · subst e; simp
  · rw [decide_eq_false e]; exact (beq_eq_false_iff_ne.mpr (Ne.symm e)).symm

theorem set_loop {S I l : Addr} {bs : List (Str × Tok)} {R : Result → Shared → Prop} (hh : A.in1.handled = none) (hSI : S ≠ I) (hSl : S ≠ l) (hlI : l ≠ I) (hb : bs.length + 1 < scanBound) :
    ∀ (k i : Nat) (s : Shared) (o : Obj) (n : Nat), bs.length - i = k → i ≤ bs.length → n ≤ i → s.heap.IsListIter I l i → s.heap.IsList l (strValues bs).toArray → s.heap.get? S = some o →
      StrSet prog w (fun k => (bs.take i).any (fun b => b.1 == k)) n o →
      (∀ h' tk o' n', n' ≤ bs.length → (∀ b x, b ≠ S → b ≠ I → s.heap.get? b = some x → h'.get? b = some x) → h'.get? S = some o' → StrSet prog w (fun k => bs.any (fun b => b.1 == k)) n' o' → R (.ok (.ret .none)) { s with heap := h', toks := tk }) →
      codeAny (model prog w) A (.builtin "set.update.loop" ⟨[.ref S, .ref I], []⟩) R s := by
  intro k
  induction k with
  | zero =>
    intro i s o n hk hi hn hit hl ho hS hR
    have hin : i = bs.length := by omega
    subst hin
    refine codeAny_builtin PyProof.Rows.F.entry_set_update_loop ?_
    rw [Around.under_plainId PyProof.Rows.F.plain_set_update_loop _]
    show wpAny _ A.in1 (pyNext (.ref I) >>= _) _ _ s
    refine wpAny_bind (wpAny_pyNext_list_end hh hit hl (by simp [strValues]) fun h' he' => ?_)
    show wpAny _ A.in1 (ret Value.none) _ _ _
    exact wpAny_pure (hR h' s.toks o n hn (fun b x _ hbI e => he' b x hbI e) (he' S o hSI ho) (hS.congr (fun k => by rw [List.take_length]) rfl))
  | succ k ih =>
    intro i s o n hk hi hn hit hl ho hS hR
    have hlt : i < bs.length := by omega
    refine codeAny_builtin PyProof.Rows.F.entry_set_update_loop ?_
    rw [Around.under_plainId PyProof.Rows.F.plain_set_update_loop _]
    show wpAny _ A.in1 (pyNext (.ref I) >>= _) _ _ s
    have hbi : bs[i]? = some bs[i] := by simp [hlt]
    refine wpAny_bind (wpAny_pyNext_list_item hit hl (x := .str bs[i].1 bs[i].2) (by simp [strValues, hlt]) fun h' hit' hs' => ?_)
    show wpAny _ A.in1 (holding [Value.str bs[i].1 bs[i].2] (setAdd S (.str bs[i].1 bs[i].2)) >>= _) _ _ _
    refine wpAny_bind (wpAny_holding ?_)
    unfold setAdd
    refine wpAny_holding ?_
    refine wpAny_bind ((strKind prog w).pyHash (k := bs[i].1) (strKind_is _ _ _ _) ?_)
    have ho' : h'.get? S = some o := hs'.extBut S o hSI ho
    refine setAdd_str ho' hS (by have : scanBound = 4096 := rfl; omega) fun h₂ o₂ hsb hg hS₂ => ?_
    refine wpAny_pure ⟨plainId_quiet PyProof.Rows.F.plain_set_update_loop _, ih (i + 1) _ o₂ _ (by omega) hlt (by split <;> omega) ?_ ?_ hg (hS₂.congr (take_any hbi) rfl) ?_⟩
    · exact hit'.at fun o e => (hsb.2 I (Ne.symm hSI)).trans e
    · exact (hl.extBut hs'.extBut hlI).at fun o e => (hsb.2 l (Ne.symm hSl)).trans e
    · intro h₃ tk o₃ n₃ hn₃ hk₃ hg₃ hS₃
      exact hR h₃ tk o₃ n₃ hn₃ (fun b x hbS hbI e => hk₃ b x hbS hbI ((hsb.2 b hbS).trans (hs'.extBut b x hbI e))) hg₃ hS₃

theorem set_new_led (a : Value) {Q₁ : Value → Shared → Prop} (h : Q₁ (.ref s.heap.objs.size) { s with heap := s.heap.push (set0 w) }) :
    codeAny (model prog w) A (.call (.builtin "set.__new__") ⟨[.type "set", a], []⟩) (wants Q₁ E) s := by
  refine codeAny_of_tree ?_
  show wpAny _ A.in1 (do checkBuiltinCall "set.__new__" ⟨[.type "set", a], []⟩; again (.builtin "set.__new__" ⟨[.type "set", a], []⟩)) _ _ s
  refine wpAny_bind (wpAny_of_eq (PySem.F.newCall_set_1 a) (wpAny_pure ⟨plainId_quiet PySem.F.plain_set_new _, codeAny_builtin PySem.F.entry_set_new ?_⟩))
  rw [Around.under_plainId PySem.F.plain_set_new _]
  unfold Builtin.«set.__new__» Builtin.Frozenset.newClass
  have hsub := sub_set_self
  obtain ⟨hp, g, d, tk, os⟩ := s
  dsimp only
  wp_walk
  refine wpAny_askSetting (wpAny_pure ?_)
  dsimp only
  simp only [newObj]
  refine wpAny_bind (wpAny_alloc (wpAny_pure ?_))
  exact wpAny_pure h

theorem call_set_strs {l : Addr} {bs : List (Str × Tok)} {Q : Value → Shared → Prop} (hh : A.handled = none) (hl : s.heap.IsList l (strValues bs).toArray) (hb : bs.length + 1 < scanBound)
    (h : ∀ (h' : Heap) (tk : Nat) (o : Obj) (n : Nat), n ≤ bs.length → h'.get? s.heap.objs.size = some o → StrSet prog w (fun k => bs.any (fun b => b.1 == k)) n o →
      (∀ b x, s.heap.get? b = some x → h'.get? b = some x) → Q (.ref s.heap.objs.size) { s with heap := h', toks := tk }) :
    wpAny (model prog w) A (call (.type "set") [.ref l]) Q E s := by
  obtain ⟨c, tl, hmro⟩ := PySem.F.called_set.mro
  have hmade := PySem.F.called_set.made
  have hsub := PySem.F.called_set.sub
  refine wpAny_call (codeAny_of_tree ?_)
  show wpAny _ _ (callAny (.type "set") _) _ _ _
  refine wpAny_pure ⟨Code.quiet_builtin _ (by decide +kernel), codeAny_builtin PySem.F.entry_type_call ?_⟩
  rw [Around.under_plain (weight_type_call_type "set" [.ref l] []) rfl]
  have h1 := PySem.F.called_set.notType
  have h2 := PySem.F.called_set.canCreate
  have hct := PySem.F.typeCall_set_1 (.ref l)
  repeat (any_goals (first | assumption | wp_step))
  refine codeAny_mono (set_new_led (.ref l) (E := E) (Q₁ := fun obj s₁ => obj = .ref s.heap.objs.size ∧ s₁ = { s with heap := s.heap.push (set0 w) }) ⟨rfl, rfl⟩) fun r s₁ hr => ?_
  cases r with
  | error e => exact hr
  | ok fl =>
    cases fl with
    | ret obj =>
      obtain ⟨rfl, rfl⟩ := hr
      have hS : (s.heap.push (set0 w)).get? s.heap.objs.size = some (set0 w) := Heap.get?_push_size _ rfl
      have hT : Shared.TypeIs { s with heap := s.heap.push (set0 w) } (.ref s.heap.objs.size) "set" := ⟨_, hS, rfl⟩
      have hli := PySem.F.called_set.init.lookup
      have hbi := PySem.F.called_set.init.bind (.ref s.heap.objs.size)
      repeat (any_goals (first | assumption | wp_step))
      refine codeAny_mono (codeAny_call_builtin (R := wants (fun r s₂ => r = .none ∧ ∃ h' tk o n, s₂ = { s with heap := h', toks := tk } ∧ n ≤ bs.length ∧ h'.get? s.heap.objs.size = some o ∧ StrSet prog w (fun k => bs.any (fun b => b.1 == k)) n o ∧
          (∀ b x, s.heap.get? b = some x → h'.get? b = some x)) E) PySem.F.called_set.init.plain PySem.F.entry_set_init (check_set_init_1 hT ?_)) fun r₂ s₂ hr₂ => ?_
      · obtain ⟨ol, hol, hcl, nl, hdl⟩ := hl
        obtain ⟨ocls, odict, odata, oslots⟩ := ol
        simp only at hcl hdl
        subst hcl; subst hdl
        have hol' : (s.heap.push (set0 w)).get? l = some { cls := .type "list", dict := odict, data := .seq (strValues bs).toArray nl, slots := oslots } := Heap.get?_push_of_some _ hol
        have hsls := PySem.F.sub_list_set
        have hslf := PySem.F.sub_list_frozenset
        have hne : (Value.type "list" == Value.type "dict") = false := by decide
        have hl1 : (s.heap.push (set0 w)).IsList l (strValues bs).toArray := ⟨_, hol', rfl, nl, rfl⟩
        unfold Builtin.«set.__init__» noKeywords Builtin.Frozenset.updateFrom
        generalize hPI : pyIter = PI
        wp_walk
        subst hPI
        refine wpAny_pyIter_list hl1 ?_
        refine wpAny_bind (wpAny_runValue ?_)
        have hlS : l < s.heap.objs.size := Heap.lt_size hol
        have hsz : (s.heap.push (set0 w)).objs.size = s.heap.objs.size + 1 := Heap.size_push ..
        refine set_loop (bs := bs) (l := l) (by simp [hh]) (by rw [hsz]; exact Nat.ne_of_lt (Nat.lt_succ_self _)) (Nat.ne_of_gt hlS) (by rw [hsz]; exact Nat.ne_of_lt (Nat.lt_succ_of_lt hlS)) hb (bs.length - 0) 0 _ (set0 w) 0 rfl (Nat.zero_le _) (Nat.le_refl _)
          ⟨_, Heap.get?_push_size _ rfl, rfl, rfl⟩ (hl1.push _) (Heap.get?_push_of_some _ hS) (set0_is.congr (fun _ => rfl) rfl) ?_
        intro h' tk o n hn hk hg hSS
        show wpAny _ _ _ _ _ _
        refine wpAny_pure ?_
        show wpAny _ _ (ret Value.none) _ _ _
        refine wpAny_pure ⟨rfl, h', tk, o, n, rfl, hn, hg, hSS, fun b x e => ?_⟩
        have hlt := Heap.lt_size e
        exact hk b x (Nat.ne_of_lt hlt) (by rw [hsz]; exact Nat.ne_of_lt (Nat.lt_succ_of_lt hlt)) (Heap.get?_push_of_some _ (Heap.get?_push_of_some _ e))
      · cases r₂ with
        | error e => exact hr₂
        | ok fl₂ =>
          cases fl₂ with
          | ret r =>
            obtain ⟨rfl, h', tk, o, n, rfl, hn, hg, hSS, hk'⟩ := hr₂
            repeat (any_goals (first | assumption | wp_step))
            exact h _ _ o n hn hg hSS hk'
          | _ => exact hr₂.elim
    | _ => exact hr.elim
end
end Mine
end
section
open PySem PySem.W PyProof.Rows
namespace Mine
theorem slot_si_next : Slot "set_iterator" "__next__" "set_iterator.__next__" :=
  .of (owner := "set_iterator") (n := "__next__") (by rw [typeLookup_type, builtinLookup_eq_fast]; kernel_rfl) (by decide +kernel) (by decide +kernel) (by decide +kernel)
    (by first | exact .inl (by decide +kernel) | exact .inr (by decide +kernel)) (by rw [isSubtype_type]; kernel_rfl)
theorem entry_si_next : entryFor table "set_iterator.__next__" = some Builtin.«set_iterator.__next__» := entryFor_of_tree (by kernel_rfl)
theorem args_si_next (a : Value) : argsOk "set_iterator.__next__" ⟨[a], []⟩ := by
  unfold argsOk; kernel_rfl
theorem entry_set_it : entryFor table "set.__iter__" = some Builtin.«frozenset.__iter__» := entryFor_alias (id' := "frozenset.__iter__") (by kernel_rfl) rfl (by decide +kernel) (by kernel_rfl)

section
variable {prog : Program} {w : World} {A : Around} {E : Value → Shared → Prop} {s : Shared}
noncomputable abbrev itObj (first : Value) (i : Nat) (a : Addr) (n ep : Nat) : Obj := { cls := .type "set_iterator", data := .fields #[first, .int i 0, .ref a, .int n 0, .int ep 0] }
theorem wp_setState {a : Addr} {o : Obj} {es : Array (Int × Value)} {ep : Nat} {t : SetTable} {Q : Array (Int × Value) × Nat × SetTable → Shared → Prop} (ho : s.heap.get? a = some o) (hd : o.data = .set es ep t) (hf : t.fits es.size = true) (h : Q (es, ep, t) s) :
    wpAny (model prog w) A (setState a) Q E s := wpAny_setState_of ho hd hf h
theorem wpAny_choose {src : Source} {n : Nat} {Q : Nat → Shared → Prop} (h : ∀ i, i < n → Q i { s with drawn := s.drawn.bump src }) (hn : 0 < n) : wpAny (model prog w) A (choose src n) Q E s := fun Γ p hΓ => by
  unfold choose
  rw [Sem.wp_choose]
  exact ⟨Nat.ne_of_gt hn, by rw [Sem.wp_pure]; exact h _ (Nat.mod_lt _ hn)⟩
theorem erase_perm {α : Type} : ∀ (l : List α) (i : Nat) (h : i < l.length), (l[i] :: l.eraseIdx i).Perm l
  | x :: l, 0, _ => List.Perm.refl _
  | x :: l, i + 1, h => (List.Perm.swap x (l[i]'(Nat.lt_of_succ_lt_succ h)) (l.eraseIdx i)).trans (List.Perm.cons x (erase_perm l i (Nat.lt_of_succ_lt_succ h)))
theorem wpAny_drawOrder {α : Type} (n : Nat) : ∀ (xs : List α) (s : Shared) (Q : List α → Shared → Prop), xs.length = n → (∀ ys dr, ys.Perm xs → Q ys { s with drawn := dr }) → wpAny (model prog w) A (drawOrder n xs) Q E s := by
  induction n with
  | zero =>
    intro xs s Q hl h
    cases xs with
    | nil => exact wpAny_pure (h [] s.drawn (List.Perm.refl _))
    | cons x xs => cases hl
  | succ n ih =>
    intro xs s Q hl h
    cases xs with
    | nil => cases hl
    | cons x xs =>
      rw [drawOrder.eq_3]
      rotate_left
      · intro e; cases e
      refine wpAny_bind (wpAny_choose (fun i hi => ?_) (Nat.succ_pos _))
      rw [List.getElem?_eq_getElem hi]
      dsimp only
      refine wpAny_bind (ih _ _ _ (by rw [List.length_eraseIdx_of_lt hi, hl]; rfl) fun ys dr hp => ?_)
      exact wpAny_pure (h _ _ ((List.Perm.cons _ hp).trans (erase_perm _ i hi)))
theorem set_iter {a : Addr} {o : Obj} {es : Array (Int × Value)} {ep : Nat} {t : SetTable} {Q : Value → Shared → Prop} (ho : s.heap.get? a = some o) (hex : o.ExactSet) (hd : o.data = .set es ep t) (hf : t.fits es.size = true) (hb : es.size < scanBound)
    (h0 : (!w.params.followText "set-order" && (!t.plain && decide (es.size > 1))) = false → Q (.ref s.heap.objs.size) { s with heap := s.heap.push (itObj (.int 0 0) 0 a es.size ep) })
    (h1 : (!w.params.followText "set-order" && (!t.plain && decide (es.size > 1))) = true → ∀ (ys : List Nat) dr, ys.Perm (List.range es.size) →
      Q (.ref (s.heap.objs.size + 1)) { s with heap := (s.heap.push { cls := .type "tuple", data := .seq (ys.map fun i => rawInt (i : Nat)).toArray }).push (itObj (.ref s.heap.objs.size) 0 a es.size ep), drawn := dr }) :
    wpAny (model prog w) A (pyIter (.ref a)) Q E s := by
  have hT : s.TypeIs (.ref a) "set" := ⟨o, ho, hex.1⟩
  refine wpAny_pyIter_slot hT PySem.F.slot_set_iter (wpAny_call_entry PySem.F.slot_set_iter hT entry_set_it ?_ (PySem.F.args_set_iter_1 _))
  unfold Builtin.«frozenset.__iter__» Builtin.Frozenset.sizeOf setEntries setDrawn setEpoch setsByText
  generalize hSS : setState = SS
  wp_walk
  subst hSS
  refine wp_setState ho hd hf ?_
  generalize hSS : setState = SS
  wp_walk
  subst hSS
  refine wp_setState ho hd hf ?_
  generalize hSS : setState = SS
  wp_walk
  refine wpAny_askSetting (wpAny_pure (wpAny_pure ?_))
  subst hSS
  dsimp only
  change wpAny _ _ (if (!w.params.followText "set-order" && (!t.plain && decide (es.size > 1))) = true then _ else _) _ _ _
  split
  · rename_i hc
    refine wpAny_bind (wpAny_drawOrder _ _ _ _ List.length_range fun ys dr hp => ?_)
    refine wpAny_bind (wpAny_newObj_type ?_ ?_)
    · refine wpAny_bind (wpAny_bind (wp_setState (Heap.get?_push_of_some _ ho) hd hf (wpAny_pure ?_)))
      refine wpAny_bind (wpAny_newObj_type (wpAny_pure ⟨_, rfl, "set_iterator", _, ⟨_, Heap.get?_push_size _ rfl, rfl⟩, slot_si_next.lookup, ?_⟩))
      have := h1 hc ys dr hp
      rw [show ((s.heap.push { cls := .type "tuple", data := .seq (ys.map fun i => rawInt (i : Nat)).toArray }).objs.size) = s.heap.objs.size + 1 from Heap.size_push ..]
      exact this
    · show (List.map (fun i : Nat => rawInt (i : Int)) ys).toArray.size ≤ sizeLine
      rw [List.size_toArray, List.length_map, hp.length_eq, List.length_range]
      exact fits_of_scanBound hb
  · rename_i hc
    refine wpAny_bind (wpAny_pure ?_)
    refine wpAny_bind (wpAny_bind (wp_setState ho hd hf (wpAny_pure ?_)))
    exact wpAny_bind (wpAny_newObj_type (wpAny_pure ⟨_, rfl, "set_iterator", _, ⟨_, Heap.get?_push_size _ rfl, rfl⟩, slot_si_next.lookup, h0 (Bool.not_eq_true _ ▸ hc)⟩))
end
end Mine
end
section
open PySem PySem.W PyProof.Rows
namespace Mine
section
variable {prog : Program} {w : World} {A : Around} {E : Value → Shared → Prop} {s : Shared}
theorem next_int {I a : Addr} {slot i n ep : Nat} {o : Obj} {es : Array (Int × Value)} {ep' : Nat} {t : SetTable} {x : Value} {next : Nat} {Q : Option Value → Shared → Prop}
    (hI : s.heap.get? I = some (itObj (.int slot 0) i a n ep)) (ho : s.heap.get? a = some o) (hd : o.data = .set es ep' t) (hf : t.fits es.size = true) (hn : es.size = n)
    (hs : ∀ (Q : Option (Value × Nat) → Shared → Prop) E, Q (some (x, next)) s → wpAny (model prog w) A.in1 (setNext a slot i ep) Q E s)
    (hQ : ∀ h', h'.get? I = some (itObj (.int next 0) (i + 1) a n ep) → Heap.SameBut I s.heap h' → Q (some x) { s with heap := h' }) : wpAny (model prog w) A (pyNext (.ref I)) Q E s := by
  have hT : s.TypeIs (.ref I) "set_iterator" := ⟨_, hI, rfl⟩
  unfold pyNext
  refine wpAny_bind (wpAny_attempt (wpAny_callSpecial?_slot (name := Str.ofString "__next__") hT slot_si_next (wpAny_call_entry slot_si_next hT entry_si_next ?_ (args_si_next _))))
  unfold Builtin.«set_iterator.__next__» setEntries
  generalize hSS : setState = SS
  generalize hSN : setNext = SN
  generalize hSF : setField = SF
  wp_walk
  subst hSS hSN hSF
  refine wp_setState ho hd hf (wpAny_pure ?_)
  subst hn
  try dsimp only
  rw [if_neg (by simp)]
  try dsimp only
  rw [Int.toNat_natCast, Int.toNat_natCast, Int.toNat_natCast]
  refine wpAny_bind (hs _ _ ?_)
  dsimp only
  refine wpAny_bind (wpAny_setField_rec hI (by simp) fun h1 hg1 hs1 => ?_)
  refine wpAny_bind (wpAny_setField_rec hg1 (by simp) fun h2 hg2 hs2 => ?_)
  refine wpAny_pure ⟨x, rfl, wpAny_pure (hQ h2 ?_ (hs1.trans hs2))⟩
  exact hg2
theorem next_end {I a : Addr} {slot i n ep : Nat} {o : Obj} {es : Array (Int × Value)} {ep' : Nat} {t : SetTable} {Q : Option Value → Shared → Prop} (hh : A.handled = none)
    (hI : s.heap.get? I = some (itObj (.int slot 0) i a n ep)) (ho : s.heap.get? a = some o) (hd : o.data = .set es ep' t) (hf : t.fits es.size = true) (hn : es.size = n)
    (hs : ∀ (Q : Option (Value × Nat) → Shared → Prop) E, Q none s → wpAny (model prog w) A.in1 (setNext a slot i ep) Q E s)
    (hQ : ∀ h', Heap.ExtBut I s.heap h' → Q none { s with heap := h' }) : wpAny (model prog w) A (pyNext (.ref I)) Q E s := by
  have hT : s.TypeIs (.ref I) "set_iterator" := ⟨_, hI, rfl⟩
  unfold pyNext
  refine wpAny_bind (wpAny_attempt (wpAny_callSpecial?_slot (name := Str.ofString "__next__") hT slot_si_next (wpAny_call_entry slot_si_next hT entry_si_next ?_ (args_si_next _))))
  unfold Builtin.«set_iterator.__next__» setEntries
  generalize hSS : setState = SS
  generalize hSN : setNext = SN
  generalize hSF : setField = SF
  generalize hNE : newExc = NE
  wp_walk
  subst hSS hSN hSF
  refine wp_setState ho hd hf (wpAny_pure ?_)
  subst hn
  try dsimp only
  rw [if_neg (by simp)]
  try dsimp only
  rw [Int.toNat_natCast, Int.toNat_natCast, Int.toNat_natCast]
  refine wpAny_bind (hs _ _ ?_)
  dsimp only
  subst hNE
  refine wpAny_bind (wpAny_setField_rec hI (by simp) fun h1 hg1 hs1 => ?_)
  show wpAny _ _ (newExc (.type "StopIteration") [] >>= _) _ _ _
  refine wpAny_bind ?_
  simp only [newExc, newTuple]
  refine wpAny_bind (wpAny_newObj_type ?_ (by size_fits))
  refine wpAny_bind (m := firstArgMember _ _) (wpAny_of_eq (a := Value.none) (by first | rfl | (simp only [firstArgMember]; rfl)) ?_)
  refine wpAny_newObj_type ?_ (by size_fits)
  simp only [raiseNew]
  refine wpAny_bind (wpAny_handled ?_)
  first | rw [show A.in1.handled = none from hh] | rw [hh]
  refine wpAny_bind (wpAny_pure (wpAny_throw ?_))
  refine wpAny_bind (wpAny_isInstance (T := "StopIteration") (b := true) ⟨_, Heap.get?_push_size _ rfl, rfl⟩ isSubtype_stop ?_)
  exact wpAny_pure (hQ _ ((hs1.extBut.push _).push _))
theorem next_drawn {I a T : Addr} {i n ep j : Nat} {o : Obj} {es : Array (Int × Value)} {t : SetTable} {ys : List Nat} {hx : Int} {x : Value} {Q : Option Value → Shared → Prop}
    (hI : s.heap.get? I = some (itObj (.ref T) i a n ep)) (ho : s.heap.get? a = some o) (hd : o.data = .set es ep t) (hf : t.fits es.size = true) (hn : es.size = n)
    (hT' : s.heap.get? T = some { cls := .type "tuple", data := .seq (ys.map fun i => rawInt (i : Nat)).toArray }) (hj : ys[i]? = some j) (hx : es[j]? = some (hx, x))
    (hQ : ∀ h', h'.get? I = some (itObj (.ref T) (i + 1) a n ep) → Heap.SameBut I s.heap h' → Q (some x) { s with heap := h' }) : wpAny (model prog w) A (pyNext (.ref I)) Q E s := by
  have hT : s.TypeIs (.ref I) "set_iterator" := ⟨_, hI, rfl⟩
  unfold pyNext
  refine wpAny_bind (wpAny_attempt (wpAny_callSpecial?_slot (name := Str.ofString "__next__") hT slot_si_next (wpAny_call_entry slot_si_next hT entry_si_next ?_ (args_si_next _))))
  unfold Builtin.«set_iterator.__next__» setEntries
  generalize hSS : setState = SS
  generalize hSN : setNextDrawn = SN
  generalize hSF : setField = SF
  generalize hSQ : seqItems? = SQ
  wp_walk
  subst hSS hSN hSF hSQ
  refine wp_setState ho hd hf (wpAny_pure ?_)
  subst hn
  try dsimp only
  rw [if_neg (by simp)]
  try dsimp only
  refine wpAny_bind (wpAny_seqItems hT' rfl ?_)
  try dsimp only
  rw [Int.toNat_natCast, Int.toNat_natCast]
  rw [List.getElem?_toArray, List.getElem?_map, hj]
  try dsimp only [Option.map_some, rawInt]
  rw [Int.toNat_natCast]
  unfold setNextDrawn
  refine wpAny_bind (wpAny_bind (wp_setState ho hd hf ?_))
  try dsimp only
  rw [if_neg (by simp), hx]
  try dsimp only
  refine wpAny_pure ?_
  refine wpAny_bind (wpAny_setField_rec hI (by simp) fun h1 hg1 hs1 => ?_)
  exact wpAny_pure ⟨x, rfl, wpAny_pure (hQ h1 hg1 hs1)⟩
theorem next_drawn_end {I a T : Addr} {i n ep : Nat} {o : Obj} {es : Array (Int × Value)} {ep' : Nat} {t : SetTable} {ys : List Nat} {Q : Option Value → Shared → Prop} (hh : A.handled = none)
    (hI : s.heap.get? I = some (itObj (.ref T) i a n ep)) (ho : s.heap.get? a = some o) (hd : o.data = .set es ep' t) (hf : t.fits es.size = true) (hn : es.size = n)
    (hT' : s.heap.get? T = some { cls := .type "tuple", data := .seq (ys.map fun i => rawInt (i : Nat)).toArray }) (hj : ys[i]? = none)
    (hQ : ∀ h', Heap.ExtBut I s.heap h' → Q none { s with heap := h' }) : wpAny (model prog w) A (pyNext (.ref I)) Q E s := by
  have hT : s.TypeIs (.ref I) "set_iterator" := ⟨_, hI, rfl⟩
  unfold pyNext
  refine wpAny_bind (wpAny_attempt (wpAny_callSpecial?_slot (name := Str.ofString "__next__") hT slot_si_next (wpAny_call_entry slot_si_next hT entry_si_next ?_ (args_si_next _))))
  unfold Builtin.«set_iterator.__next__» setEntries
  generalize hSS : setState = SS
  generalize hSN : setNextDrawn = SN
  generalize hSF : setField = SF
  generalize hSQ : seqItems? = SQ
  generalize hNE : newExc = NE
  wp_walk
  subst hSS hSN hSF hSQ
  refine wp_setState ho hd hf (wpAny_pure ?_)
  subst hn
  try dsimp only
  rw [if_neg (by simp)]
  try dsimp only
  refine wpAny_bind (wpAny_seqItems hT' rfl ?_)
  try dsimp only
  rw [Int.toNat_natCast]
  rw [List.getElem?_toArray, List.getElem?_map, hj]
  try dsimp only [Option.map_none]
  subst hNE
  refine wpAny_bind (wpAny_setField_rec hI (by simp) fun h1 hg1 hs1 => ?_)
  refine wpAny_bind (wpAny_setField_rec hg1 (by simp) fun h2 hg2 hs2 => ?_)
  show wpAny _ _ (newExc (.type "StopIteration") [] >>= _) _ _ _
  refine wpAny_bind ?_
  simp only [newExc, newTuple]
  refine wpAny_bind (wpAny_newObj_type ?_ (by size_fits))
  refine wpAny_bind (m := firstArgMember _ _) (wpAny_of_eq (a := Value.none) (by first | rfl | (simp only [firstArgMember]; rfl)) ?_)
  refine wpAny_newObj_type ?_ (by size_fits)
  simp only [raiseNew]
  refine wpAny_bind (wpAny_handled ?_)
  first | rw [show A.in1.handled = none from hh] | rw [hh]
  refine wpAny_bind (wpAny_pure (wpAny_throw ?_))
  refine wpAny_bind (wpAny_isInstance (T := "StopIteration") (b := true) ⟨_, Heap.get?_push_size _ rfl, rfl⟩ isSubtype_stop ?_)
  exact wpAny_pure (hQ _ (((hs1.trans hs2).extBut.push _).push _))
end
end Mine
end
section
open PySem PySem.W PyProof.Rows
namespace Mine
theorem pick_perm {α : Type} (next : Nat → Nat) : ∀ (fuel k : Nat) (left : List α) (out : Array α), left.length = fuel → (pickOrder.go next fuel k left out).toList.Perm (out.toList ++ left)
  | 0, k, left, out, h => by
    obtain rfl : left = [] := List.eq_nil_of_length_eq_zero h
    rw [List.append_nil]; exact List.Perm.refl _
  | fuel + 1, k, left, out, h => by
    have hi : next k % left.length < left.length := Nat.mod_lt _ (by omega)
    unfold pickOrder.go
    rw [List.getElem?_eq_getElem hi]
    dsimp only
    refine (pick_perm next fuel (k + 1) _ _ (by rw [List.length_eraseIdx_of_lt hi, h]; rfl)).trans ?_
    rw [Array.toList_push, List.append_assoc]
    exact List.Perm.append_left _ (erase_perm left _ hi)
section
variable {prog : Program} {w : World} {A : Around} {E : Value → Shared → Prop} {s : Shared}
theorem is_str_of {k : Str} {v : Value} (h : (strKind prog w).is k v = true) : ∃ u, v = .str k u := Value.isStrOf_shape h
theorem setNext_text {a : Addr} {slot i ep : Nat} {o : Obj} {es : Array (Int × Value)} {t : SetTable} {Q : Option (Value × Nat) → Shared → Prop} (ho : s.heap.get? a = some o) (hd : o.data = .set es ep t) (hf : t.fits es.size = true)
    (hT : w.params.followText "set-order" = true) (h : Q (((pickOrder (w.params.setOrder a ep) es)[i]?).map fun e => (e.2, slot)) s) : wpAny (model prog w) A (setNext a slot i ep) Q E s := by
  unfold setNext setWalk setsByText
  refine wpAny_bind (wp_setState ho hd hf ?_)
  refine wpAny_bind (wpAny_bind (wpAny_askSetting (wpAny_pure ?_)))
  have hT' : (⟨(model prog w).prog, (model prog w).w.params⟩ : Setting).params.followText "set-order" = true := hT
  rw [if_pos hT']
  rw [if_neg (by simp)]
  refine wpAny_bind (wpAny_bind (wp_setState ho hd hf ?_))
  refine wpAny_bind (wpAny_bind (wpAny_askSetting (wpAny_pure ?_)))
  rw [if_pos hT']
  exact wpAny_bind (wpAny_askSetting (wpAny_pure (wpAny_pure h)))
theorem setNext_few {a : Addr} {slot i ep : Nat} {o : Obj} {es : Array (Int × Value)} {ep' : Nat} {t : SetTable} {Q : Option (Value × Nat) → Shared → Prop} (ho : s.heap.get? a = some o) (hd : o.data = .set es ep' t) (hf : t.fits es.size = true)
    (hT : w.params.followText "set-order" = false) (hled : t.led = true) (hw : (!t.plain && decide (es.size > 1)) = false)
    (h : Q (match es[SetTable.below t.place slot]?, t.place[SetTable.below t.place slot]? with | some (_, x), some j => some (x, j + 1) | _, _ => none) s) : wpAny (model prog w) A (setNext a slot i ep) Q E s := by
  unfold setNext setsByText
  refine wpAny_bind (wp_setState ho hd hf ?_)
  refine wpAny_bind (wpAny_bind (wpAny_askSetting (wpAny_pure ?_)))
  have hT' : (⟨(model prog w).prog, (model prog w).w.params⟩ : Setting).params.followText "set-order" = false := hT
  rw [if_neg (by rw [hT']; decide)]
  change wpAny _ _ (if (!t.plain && decide (es.size > 1)) = true then _ else _) _ _ _
  rw [hw, if_neg (by decide)]
  refine wpAny_bind ?_
  change wpAny _ _ (if (!t.led && !es.isEmpty) = true then _ else _) _ _ _
  rw [hled]
  exact wpAny_pure (wpAny_pure h)
structure OrdOk (S : Str → Bool) (ord : List Value) : Prop where
  mem : ∀ (i : Nat) (v : Value), ord[i]? = some v → ∃ (k : Str) (u : Tok), v = Value.str k u ∧ S k = true
  all : ∀ k, S k = true → ∃ (i : Nat) (u : Tok), ord[i]? = some (Value.str k u)
theorem ord_ok {S : Str → Bool} {es : Array (Int × Value)} {l : List (Int × Value)} (hp : l.Perm es.toList) (hel : ElemsOf (strKind prog w) es.toList) (hmem : ∀ k, S k = true ↔ ∃ e ∈ es.toList, (strKind prog w).is k e.2 = true) : OrdOk S (l.map (·.2)) where
  mem := fun i v h => by
    rw [List.getElem?_map, Option.map_eq_some_iff] at h
    obtain ⟨e, he, rfl⟩ := h
    have he' := hp.mem_iff.mp (List.mem_of_getElem? he)
    obtain ⟨⟨k, hk, _⟩, _⟩ := hel e he'
    obtain ⟨u, hu⟩ := is_str_of hk
    exact ⟨k, u, hu, (hmem k).mpr ⟨e, he', hk⟩⟩
  all := fun k hk => by
    obtain ⟨e, he, hp'⟩ := (hmem k).mp hk
    obtain ⟨u, hu⟩ := is_str_of hp'
    obtain ⟨i, hi⟩ := List.getElem?_of_mem (hp.mem_iff.mpr he)
    exact ⟨i, u, by rw [List.getElem?_map, hi]; exact congrArg some hu⟩

structure SetGo (prog : Program) (w : World) (A : Around) (a : Addr) (o : Obj) (S : Str → Bool) (I : Addr) (Tl : List (Addr × Obj)) (ord : List Value) (St : Nat → Heap → Prop) : Prop where
  ok : OrdOk S ord
  item : ∀ i (s : Shared) (Q : Option Value → Shared → Prop) (E : Value → Shared → Prop) v, ord[i]? = some v → St i s.heap → (∀ h', St (i + 1) h' → (∀ b o, b ≠ I → s.heap.get? b = some o → h'.get? b = some o) → Q (some v) { s with heap := h' }) →
    wpAny (model prog w) A (pyNext (.ref I)) Q E s
  done : ∀ (s : Shared) (Q : Option Value → Shared → Prop) (E : Value → Shared → Prop), St ord.length s.heap → (∀ h', (∀ b o, b ≠ I → s.heap.get? b = some o → h'.get? b = some o) → Q none { s with heap := h' }) → wpAny (model prog w) A (pyNext (.ref I)) Q E s
  obj : ∀ i h, St i h → ∃ o, h.get? I = some o
  frame : ∀ i h h' oI, St i h → h.get? I = some oI → h'.get? I = some oI → h'.get? a = some o → (∀ p ∈ Tl, h'.get? p.1 = some p.2) → St i h'

theorem go_text {a I : Addr} {o : Obj} {es : Array (Int × Value)} {ep : Nat} {t : SetTable} {S : Str → Bool} (hh : A.handled = none) (hne : a ≠ I) (hd : o.data = .set es ep t) (hf : t.fits es.size = true)
    (hel : ElemsOf (strKind prog w) es.toList) (hmem : ∀ k, S k = true ↔ ∃ e ∈ es.toList, (strKind prog w).is k e.2 = true) (hT : w.params.followText "set-order" = true) :
    SetGo prog w A a o S I [] ((pickOrder (w.params.setOrder a ep) es).toList.map (·.2)) (fun i h => h.get? I = some (itObj (.int (0 : Nat) 0) i a es.size ep) ∧ h.get? a = some o) where
  ok := ord_ok (pick_perm _ _ _ _ _ (by rw [Array.length_toList])) hel hmem
  item := fun i s Q E v hv st hQ => by
    rw [List.getElem?_map, Option.map_eq_some_iff] at hv
    obtain ⟨e, he, rfl⟩ := hv
    refine next_int (slot := 0) (next := 0) (x := e.2) st.1 st.2 hd hf rfl (fun Q E h => setNext_text st.2 hd hf hT ?_) fun h' hI hs => hQ h' ⟨hI, hs.extBut _ _ hne st.2⟩ fun b o' hb e' => hs.extBut _ _ hb e'
    rw [show (pickOrder (w.params.setOrder a ep) es)[i]? = some e by rw [← Array.getElem?_toList]; exact he]; exact h
  done := fun s Q E st hQ => by
    refine next_end (slot := 0) hh st.1 st.2 hd hf rfl (fun Q E h => setNext_text st.2 hd hf hT ?_) fun h' hs => hQ h' fun b o' hb e' => hs _ _ hb e'
    rw [show (pickOrder (w.params.setOrder a ep) es)[((pickOrder (w.params.setOrder a ep) es).toList.map (·.2)).length]? = none by rw [List.length_map, Array.length_toList]; exact Array.getElem?_eq_none (Nat.le_refl _)]; exact h
  obj := fun i h st => ⟨_, st.1⟩
  frame := fun i h h' oI st e e' ea _ => ⟨by rw [st.1] at e; cases e; exact e', ea⟩
noncomputable abbrev tupOf (ys : List Nat) : Obj := { cls := .type "tuple", data := .seq (ys.map fun i => rawInt (i : Nat)).toArray }
theorem go_drawn {a I T : Addr} {o : Obj} {es : Array (Int × Value)} {ep : Nat} {t : SetTable} {S : Str → Bool} {ys : List Nat} (hh : A.handled = none) (hne : a ≠ I) (hTI : T ≠ I) (hd : o.data = .set es ep t) (hf : t.fits es.size = true)
    (hel : ElemsOf (strKind prog w) es.toList) (hmem : ∀ k, S k = true ↔ ∃ e ∈ es.toList, (strKind prog w).is k e.2 = true) (hp : ys.Perm (List.range es.size)) :
    SetGo prog w A a o S I [(T, tupOf ys)] ((ys.map fun j => es.getD j (0, .none)).map (·.2)) (fun i h => h.get? I = some (itObj (.ref T) i a es.size ep) ∧ h.get? a = some o ∧ h.get? T = some (tupOf ys)) where
  ok := ord_ok (by
    have e : (List.range es.size).map (fun j => es.getD j (0, Value.none)) = es.toList := by
      apply List.ext_getElem
      · simp
      · intro n h1 h2; simp at h1 h2 ⊢; simp [Array.getD, h1]
    exact (hp.map _).trans (List.Perm.of_eq e)) hel hmem
  item := fun i s Q E v hv st hQ => by
    rw [List.getElem?_map, List.getElem?_map, Option.map_map, Option.map_eq_some_iff] at hv
    obtain ⟨j, hj, rfl⟩ := hv
    have hlt : j < es.size := List.mem_range.mp (hp.mem_iff.mp (List.mem_of_getElem? hj))
    refine next_drawn st.1 st.2.1 hd hf rfl st.2.2 hj (hx := (es.getD j (0, .none)).1) (x := (es.getD j (0, .none)).2) (by simp [Array.getD, hlt]) fun h' hI hs => hQ h' ⟨hI, hs.extBut _ _ hne st.2.1, hs.extBut _ _ hTI st.2.2⟩ fun b o' hb e' => hs.extBut _ _ hb e'
  done := fun s Q E st hQ => next_drawn_end hh st.1 st.2.1 hd hf rfl st.2.2 (by simp) fun h' hs => hQ h' fun b o' hb e' => hs _ _ hb e'
  obj := fun i h st => ⟨_, st.1⟩
  frame := fun i h h' oI st e e' ea hT => ⟨by rw [st.1] at e; cases e; exact e', ea, hT _ (.head _)⟩
theorem go_few {a I : Addr} {o : Obj} {es : Array (Int × Value)} {ep : Nat} {t : SetTable} {S : Str → Bool} (hh : A.handled = none) (hne : a ≠ I) (hd : o.data = .set es ep t) (hf : t.fits es.size = true)
    (hel : ElemsOf (strKind prog w) es.toList) (hmem : ∀ k, S k = true ↔ ∃ e ∈ es.toList, (strKind prog w).is k e.2 = true) (hT : w.params.followText "set-order" = false) (hled : t.led = true) (h1 : es.size ≤ 1) :
    SetGo prog w A a o S I [] (es.toList.map (·.2)) (fun i h => h.get? I = some (itObj (.int ((if i = 0 then 0 else t.place.getD 0 0 + 1 : Nat) : Int) 0) i a es.size ep) ∧ h.get? a = some o) where
  ok := ord_ok (List.Perm.refl _) hel hmem
  item := fun i s Q E v hv st hQ => by
    rw [List.getElem?_map, Option.map_eq_some_iff] at hv
    obtain ⟨e, he, rfl⟩ := hv
    have hi : i < es.size := by rw [Array.getElem?_toList] at he; exact (Array.getElem?_eq_some_iff.mp he).1
    obtain rfl : i = 0 := by omega
    have hpl : t.place.size = es.size := by
      unfold SetTable.fits at hf; simp at hf; exact hf.1
    have hw : (!t.plain && decide (es.size > 1)) = false := by rw [decide_eq_false (by omega), Bool.and_false]
    refine next_int (slot := 0) (next := t.place.getD 0 0 + 1) (x := e.2) st.1 st.2 hd hf rfl (fun Q E h => setNext_few st.2 hd hf hT hled hw ?_) fun h' hI hs => hQ h' ⟨hI, hs.extBut _ _ hne st.2⟩ fun b o' hb e' => hs.extBut _ _ hb e'
    have hb : SetTable.below t.place 0 = 0 := by
      have : t.place.size = 1 := by omega
      unfold SetTable.below
      rw [this]
      simp [SetTable.below.go]
    rw [hb, show es[0]? = some e by rw [← Array.getElem?_toList]; exact he, show t.place[0]? = some (t.place.getD 0 0) by simp [Array.getD, hpl, hi]]
    exact h
  done := fun s Q E st hQ => by
    have hpl : t.place.size = es.size := by
      unfold SetTable.fits at hf; simp at hf; exact hf.1
    have hw : (!t.plain && decide (es.size > 1)) = false := by rw [decide_eq_false (by omega), Bool.and_false]
    have hlen : (es.toList.map (·.2)).length = es.size := by simp
    rw [hlen] at st
    refine next_end (slot := if es.size = 0 then 0 else t.place.getD 0 0 + 1) hh st.1 st.2 hd hf rfl (fun Q E h => setNext_few st.2 hd hf hT hled hw ?_) fun h' hs => hQ h' fun b o' hb e' => hs _ _ hb e'
    have hb : es.size ≤ SetTable.below t.place (if es.size = 0 then 0 else t.place.getD 0 0 + 1) := by
      by_cases q : es.size = 0
      · rw [q]; exact Nat.zero_le _
      · have q1 : es.size = 1 := by omega
        rw [q1]
        unfold SetTable.below
        rw [hpl, q1]
        simp [SetTable.below.go, Array.getD, hpl, q1]
    rw [Array.getElem?_eq_none hb]
    exact h
  obj := fun i h st => ⟨_, st.1⟩
  frame := fun i h h' oI st e e' ea _ => ⟨by rw [st.1] at e; cases e; exact e', ea⟩
end
end Mine
end
section
open PySem PySem.W PyProof.Rows
namespace Mine
section
variable {prog : Program} {w : World} {A : Around} {E : Value → Shared → Prop} {s : Shared} {h₀ : Heap} {env : Env} {body : List Stmt} {m : Str → Option Value}
theorem SetGo.src {α : Type} {a I L : Addr} {o : Obj} {S : Str → Bool} {Tl : List (Addr × Obj)} {ord : List Value} {St : Nat → Heap → Prop} {x : Str} {px : Pos} {J : Nat → α → List (Addr × Obj) → Prop} (G : SetGo prog w A a o S I Tl ord St)
    (src : ∀ j ys nw h', (∀ b o, h₀.get? b = some o → h'.get? b = some o) → News h₀ L h' nw → J j ys nw → h'.get? a = some o ∧ ∀ p ∈ Tl, h'.get? p.1 = some p.2) :
    SrcOk prog w A h₀ L I (.Name x px) ord.length (fun i v => ord[i]? = some v) St J where
  item := fun i s Q E hi st hQ => G.item i s Q E ord[i] (by simp [hi]) st fun h' st' hk => hQ _ h' s.toks (by simp [hi]) st' hk
  done := fun s Q E st hQ => G.done s Q E st fun h' hk => hQ h' s.toks hk
  go := fun i v s Q E st hQ => go_name hQ
  obj := G.obj
  frame := fun i j h h' oI ys nw st e e' k N hJ => G.frame i h h' oI st e e' (src j ys nw h' k N hJ).1 (src j ys nw h' k N hJ).2
theorem set_at {a I : Addr} {o : Obj} {S : Str → Bool} {Tl c₀ rest : List (Addr × Obj)} {ord : List Value} {St : Nat → Heap → Prop} {x : Str} {px : Pos} {Q : Flow → Shared → Prop} (G : SetGo prog w A a o S I Tl ord St)
    (F : Fr h₀ env.locals s.heap m) (N : News h₀ env.locals s.heap (c₀ ++ rest)) (NT : News h₀ env.locals s.heap Tl) (hI : I ≠ env.locals ∧ h₀.get? I = none) (ap : ∀ p ∈ c₀ ++ rest, p.1 ≠ I) (apT : ∀ p ∈ Tl, p.1 ≠ I) (hst : St 0 s.heap)
    (vs : List Str) (K : Nat → (Str → Option Value) → List (Addr × Obj) → Prop) (hK : K 0 m c₀)
    (src : ∀ h', (∀ b o, h₀.get? b = some o → h'.get? b = some o) → News h₀ env.locals h' rest → h'.get? a = some o)
    (step : ∀ i v m' c oI h tk, ord[i]? = some v → (∀ y, y ∉ vs → m' y = m y) → K i m' c → Fr h₀ env.locals h m' → News h₀ env.locals h ((I, oI) :: (c ++ (rest ++ Tl))) → (∀ p ∈ c ++ (rest ++ Tl), p.1 ≠ I) →
      wpAny (model prog w) A (assign (.Name x px) env v) (fun _ s₂ => wpAny (model prog w) A (execs body env) (turnPost h₀ env.locals I oI { s with heap := h, toks := tk } (JF m vs (rest ++ Tl) K (i + 1)) Q) E s₂) E { s with heap := h, toks := tk })
    (fin : ∀ h' tk m' c, (∀ y, y ∉ vs → m' y = m y) → K ord.length m' c → Fr h₀ env.locals h' m' → News h₀ env.locals h' (c ++ rest) → Q .next { s with heap := h', toks := tk }) :
    ForAt prog w A h₀ env (.Name x px) body Q E (.ref I) s := by
  have N' : News h₀ env.locals s.heap (c₀ ++ (rest ++ Tl)) := by rw [← List.append_assoc]; exact fun p hp => (List.mem_append.mp hp).elim (N p) (NT p)
  refine ForAt.mk (JF m vs (rest ++ Tl) K) rfl (G.src fun j ys nw h' k N hJ => ?_) hI hst F N' ?_ ⟨fun _ _ => rfl, hK⟩ ?_ ?_
  · cases hJ
    have N1 := news_right N
    exact ⟨src h' k fun p hp => N1 p (List.mem_append_left _ hp), fun p hp => (N1 p (List.mem_append_right _ hp)).1⟩
  · rw [← List.append_assoc]; exact off_app ap apT
  · intro i v m' nw oI h tk hi hv hJ F N ap
    cases hJ with | mk hm hK => exact step i v m' _ oI h tk hv hm hK F N ap
  · intro h' tk m' nw F N _ hJ
    cases hJ with
    | mk hm hK => exact fin h' tk m' _ hm hK F fun p hp => N p (by
        rcases List.mem_append.mp hp with hp | hp
        · exact List.mem_append_left _ hp
        · exact List.mem_append_right _ (List.mem_append_left _ hp))

theorem ForGo.setF {a : Addr} {o : Obj} {S : Str → Bool} {n : Nat} {c₀ rest : List (Addr × Obj)} {x : Str} {px : Pos} {Q : Flow → Shared → Prop}
    (F : Fr h₀ env.locals s.heap m) (N : News h₀ env.locals s.heap (c₀ ++ rest)) (hh : A.handled = none) (ho : s.heap.get? a = some o) (hS : StrSet prog w S n o)
    (vs : List Str) (K : List Value → Nat → (Str → Option Value) → List (Addr × Obj) → Prop) (hK : ∀ ord, OrdOk S ord → K ord 0 m c₀)
    (src : ∀ h', (∀ b o, h₀.get? b = some o → h'.get? b = some o) → News h₀ env.locals h' rest → h'.get? a = some o)
    (step : ∀ ord tl I i v m' c oI h tk dr, OrdOk S ord → ord[i]? = some v → (∀ y, y ∉ vs → m' y = m y) → K ord i m' c → Fr h₀ env.locals h m' → News h₀ env.locals h ((I, oI) :: (c ++ (rest ++ tl))) → (∀ p ∈ c ++ (rest ++ tl), p.1 ≠ I) →
      wpAny (model prog w) A (assign (.Name x px) env v) (fun _ s₂ => wpAny (model prog w) A (execs body env) (turnPost h₀ env.locals I oI { s with heap := h, toks := tk, drawn := dr } (JF m vs (rest ++ tl) (K ord) (i + 1)) Q) E s₂) E { s with heap := h, toks := tk, drawn := dr })
    (fin : ∀ ord h' tk dr m' c, OrdOk S ord → (∀ y, y ∉ vs → m' y = m y) → K ord ord.length m' c → Fr h₀ env.locals h' m' → News h₀ env.locals h' (c ++ rest) → Q .next { s with heap := h', toks := tk, drawn := dr }) :
    ForGo prog w A h₀ env (.Name x px) body Q E (.ref a) s := by
  obtain ⟨hex, hd, hel, hmem, hb, hf, hn, hl⟩ := hS
  rename_i es ep t
  have hlt := Heap.lt_size ho
  refine set_iter ho hex hd hf hb (fun hc => ?_) (fun hc ys dr hp => ?_)
  · obtain ⟨hI, F', N', ap, up⟩ := iter_facts (o := itObj (.int 0 0) 0 a es.size ep) F N
    have hne : a ≠ s.heap.objs.size := Nat.ne_of_lt hlt
    have close : ∀ {ord : List Value} {St : Nat → Heap → Prop}, SetGo prog w A a o S s.heap.objs.size [] ord St → St 0 (s.heap.push (itObj (.int 0 0) 0 a es.size ep)) →
        ForAt prog w A h₀ env (.Name x px) body Q E (.ref s.heap.objs.size) { s with heap := s.heap.push (itObj (.int 0 0) 0 a es.size ep) } := fun {ord St} G hst =>
      set_at G F' N' News.nil hI ap (fun _ hp => nomatch hp) hst vs (K ord) (hK ord G.ok) src
        (fun i v m' c oI h tk hv hm hK F N ap => step ord [] _ i v m' c oI h tk s.drawn G.ok hv hm hK F N ap) (fun h' tk m' c hm hK F N => fin ord h' tk s.drawn m' c G.ok hm hK F N)
    by_cases hT : w.params.followText "set-order" = true
    · exact close (go_text hh hne hd hf hel hmem hT) ⟨Heap.get?_push_size _ rfl, up _ _ ho⟩
    · have hT' : w.params.followText "set-order" = false := by simpa using hT
      have h1 : es.size ≤ 1 := by
        by_cases q : es.size ≤ 1
        · exact q
        · rw [hT', hl.2 (by omega), decide_eq_true (by omega)] at hc; cases hc
      exact close (go_few hh hne hd hf hel hmem hT' (hl.1 hT') h1) ⟨Heap.get?_push_size _ rfl, up _ _ ho⟩
  · obtain ⟨hI0, F0, N0, ap0, up0⟩ := iter_facts (o := tupOf ys) F N
    obtain ⟨hI, F', N', ap, up⟩ := iter_facts (o := itObj (.ref s.heap.objs.size) 0 a es.size ep) F0 N0
    have e1 : (s.heap.push (tupOf ys)).objs.size = s.heap.objs.size + 1 := Heap.size_push ..
    rw [e1] at hI ap
    have gT : ((s.heap.push (tupOf ys)).push (itObj (.ref s.heap.objs.size) 0 a es.size ep)).get? s.heap.objs.size = some (tupOf ys) := up _ _ (Heap.get?_push_size _ rfl)
    have hne : a ≠ s.heap.objs.size + 1 := Nat.ne_of_lt (Nat.lt_succ_of_lt hlt)
    have hTI : s.heap.objs.size ≠ s.heap.objs.size + 1 := Nat.ne_of_lt (Nat.lt_succ_self _)
    have gI : ((s.heap.push (tupOf ys)).push (itObj (.ref s.heap.objs.size) 0 a es.size ep)).get? (s.heap.objs.size + 1) = some (itObj (.ref s.heap.objs.size) 0 a es.size ep) := by
      rw [← e1]; exact Heap.get?_push_size _ rfl
    have G := go_drawn (prog := prog) (w := w) (I := s.heap.objs.size + 1) (T := s.heap.objs.size) (S := S) hh hne hTI hd hf hel hmem hp
    exact set_at (s := { s with heap := _, drawn := dr }) G F' N' (news_cons gT hI0.1 hI0.2 News.nil) hI ap (off_cons hTI fun _ hp => nomatch hp) ⟨gI, up _ _ (up0 _ _ ho), gT⟩ vs (K _) (hK _ G.ok) src
      (fun i v m' c oI h tk hv hm hK F N ap => step _ _ _ i v m' c oI h tk dr G.ok hv hm hK F N ap) (fun h' tk m' c hm hK F N => fin _ h' tk dr m' c G.ok hm hK F N)
end
end Mine
end
section
open PySem PySem.W PyProof.Rows
namespace Mine
section
variable {prog : Program} {w : World} {A : Around} {E : Value → Shared → Prop} {s : Shared}
theorem set_none_led {Q₁ : Value → Shared → Prop} (h : Q₁ (.ref s.heap.objs.size) { s with heap := s.heap.push (set0 w) }) :
    codeAny (model prog w) A (.call (.builtin "set.__new__") ⟨[.type "set"], []⟩) (wants Q₁ E) s := by
  refine codeAny_of_tree ?_
  show wpAny _ A.in1 (do checkBuiltinCall "set.__new__" ⟨[.type "set"], []⟩; again (.builtin "set.__new__" ⟨[.type "set"], []⟩)) _ _ s
  refine wpAny_bind (wpAny_of_eq PySem.F.newCall_set_0 (wpAny_pure ⟨plainId_quiet PySem.F.plain_set_new _, codeAny_builtin PySem.F.entry_set_new ?_⟩))
  rw [Around.under_plainId PySem.F.plain_set_new _]
  unfold Builtin.«set.__new__» Builtin.Frozenset.newClass
  have hsub := sub_set_self
  obtain ⟨hp, g, d, tk, os⟩ := s
  dsimp only
  wp_walk
  refine wpAny_askSetting (wpAny_pure ?_)
  dsimp only
  simp only [newObj]
  refine wpAny_bind (wpAny_alloc (wpAny_pure ?_))
  exact wpAny_pure h
theorem call_set_empty {Q : Value → Shared → Prop} (h : Q (.ref s.heap.objs.size) { s with heap := s.heap.push (set0 w) }) :
    wpAny (model prog w) A (call (.type "set") []) Q E s := by
  obtain ⟨c, tl, hmro⟩ := PySem.F.called_set.mro
  have hmade := PySem.F.called_set.made
  have hsub := PySem.F.called_set.sub
  refine wpAny_call (codeAny_of_tree ?_)
  show wpAny _ _ (callAny (.type "set") _) _ _ _
  refine wpAny_pure ⟨Code.quiet_builtin _ (by decide +kernel), codeAny_builtin PySem.F.entry_type_call ?_⟩
  rw [Around.under_plain (weight_type_call_type "set" [] []) rfl]
  have h1 := PySem.F.called_set.notType
  have h2 := PySem.F.called_set.canCreate
  have hct := PySem.F.typeCall_set_0
  repeat (any_goals (first | assumption | wp_step))
  refine codeAny_mono (set_none_led (E := E) (Q₁ := fun obj s₁ => obj = .ref s.heap.objs.size ∧ s₁ = { s with heap := s.heap.push (set0 w) }) ⟨rfl, rfl⟩) fun r s₁ hr => ?_
  cases r with
  | error e => exact hr
  | ok fl =>
    cases fl with
    | ret obj =>
      obtain ⟨rfl, rfl⟩ := hr
      have hS : (s.heap.push (set0 w)).get? s.heap.objs.size = some (set0 w) := Heap.get?_push_size _ rfl
      have hT : Shared.TypeIs { s with heap := s.heap.push (set0 w) } (.ref s.heap.objs.size) "set" := ⟨_, hS, rfl⟩
      have hli := PySem.F.called_set.init.lookup
      have hbi := PySem.F.called_set.init.bind (.ref s.heap.objs.size)
      repeat (any_goals (first | assumption | wp_step))
      refine codeAny_mono (codeAny_call_builtin (R := wants (fun r s₂ => r = .none ∧ Q (.ref s.heap.objs.size) s₂) E) PySem.F.called_set.init.plain PySem.F.entry_set_init (check_set_init hT ?_)) fun r₂ s₂ hr₂ => ?_
      · unfold Builtin.«set.__init__» noKeywords
        wp_walk
        exact ⟨rfl, h⟩
      · cases r₂ with
        | error e => exact hr₂
        | ok fl₂ =>
          cases fl₂ with
          | ret r =>
            obtain ⟨rfl, hq⟩ := hr₂
            repeat (any_goals (first | assumption | wp_step))
          | _ => exact hr₂.elim
    | _ => exact hr.elim
variable {h₀ : Heap} {L : Addr} {m : Str → Option Value} {news : List (Addr × Obj)}
theorem push_news {o : Obj} (F : Fr h₀ L s.heap m) (N : News h₀ L s.heap news) (hf : o.isFreed = false := by rfl) : Fr h₀ L (s.heap.push o) m ∧ News h₀ L (s.heap.push o) ((s.heap.objs.size, o) :: news) ∧ ∀ p ∈ news, p.1 < s.heap.objs.size := by
  obtain ⟨hI, F', N', ap, up⟩ := iter_facts (o := o) F N
  exact ⟨F', news_cons (Heap.get?_push_size _ hf) hI.1 hI.2 N', fun p hp => Heap.lt_size (N p hp).1⟩
theorem set_emptyN {Q : Value → Shared → Prop} (F : Fr h₀ L s.heap m) (N : News h₀ L s.heap news)
    (h : ∀ D h', Fr h₀ L h' m → News h₀ L h' ((D, set0 w) :: news) → (∀ p ∈ news, p.1 < D) → Q (.ref D) { s with heap := h' }) : wpAny (model prog w) A (call (.type "set") []) Q E s :=
  have ⟨F', N', l⟩ := push_news (o := set0 w) F N
  call_set_empty (h _ _ F' N' l)
theorem set_strsN {l : Addr} {bs : List (Str × Tok)} {n : Nat} {Q : Value → Shared → Prop} (hh : A.handled = none) (F : Fr h₀ L s.heap m) (N : News h₀ L s.heap news) (hm : (l, listOf (strValues bs).toArray n) ∈ news) (hb : bs.length + 1 < scanBound)
    (h : ∀ D h' tk o n, n ≤ bs.length → StrSet prog w (fun k => bs.any (fun b => b.1 == k)) n o → Fr h₀ L h' m → News h₀ L h' ((D, o) :: news) → (∀ p ∈ news, p.1 < D) → Q (.ref D) { s with heap := h', toks := tk }) :
    wpAny (model prog w) A (call (.type "set") [.ref l]) Q E s :=
  have ⟨hI, _, _, _, _⟩ := iter_facts (o := set0 w) F N
  call_set_strs hh ⟨_, (N _ hm).1, rfl, _, rfl⟩ hb fun h' tk o n hn ho hS hk =>
    h _ h' tk o n hn hS (F.keeps hk) (news_cons ho hI.1 hI.2 (N.grown hk)) fun p hp => Heap.lt_size (N p hp).1
end
end Mine
end
section
open PySem PySem.W PyProof.Rows
namespace Mine
abbrev CodCall (w : World) (k : Nat) (f : Addr) (vs : List Value) (args : List (Addr × Obj)) (R : Value → Heap → Heap → Prop) : Prop :=
  ∀ (loose : List Str) (mean : ExcName → Option Value) (mg mb : Str → Option Value) (A : Around) (s : Shared) (R' : Result → Shared → Prop) (g : Heap),
    Gnd w loose mean mg mb g → (∀ b o, g.get? b = some o → s.heap.get? b = some o) → g.objs.size ≤ s.heap.objs.size → (∀ p ∈ args, s.heap.get? p.1 = some p.2 ∧ g.get? p.1 = none) → Room A k →
    (∀ (v : Value) (h' : Heap) (tk : Nat) (dr : Drawn), R v s.heap h' → R' (.ok (.ret v)) { s with heap := h', toks := tk, drawn := dr }) →
    codeAny (model PySem.Challenge.rw_kt0042_01.row.prog w) A (.call (.ref f) ⟨vs, []⟩) R' s
theorem cod_intro {w : World} {k : Nat} {f : Addr} {vs : List Value} {args : List (Addr × Obj)} {R : Value → Heap → Heap → Prop}
    (h : ∀ (loose : List Str) (mean : ExcName → Option Value) (mg mb : Str → Option Value) (A : Around) (s : Shared) (R' : Result → Shared → Prop) (g : Heap),
      Gnd w loose mean mg mb g → (∀ b o, g.get? b = some o → s.heap.get? b = some o) → g.objs.size ≤ s.heap.objs.size → (∀ p ∈ args, s.heap.get? p.1 = some p.2 ∧ g.get? p.1 = none) →
      (∀ b o, s.heap.get? b = some o → b ∉ args.map (·.1) → g.get? b = some o) → Room A k →
      (∀ (v : Value) (h' : Heap) (tk : Nat) (dr : Drawn), R v s.heap h' → R' (.ok (.ret v)) { s with heap := h', toks := tk, drawn := dr }) →
      codeAny (model PySem.Challenge.rw_kt0042_01.row.prog w) A (.call (.ref f) ⟨vs, []⟩) R' s) : CodCall w k f vs args R := by
  intro loose mean mg mb A s R' g G hkg hsz hargs Rm hret
  have sub : ∀ b o, g.get? b = some o → (hideAll s.heap (args.map (·.1))).get? b = some o := fun b o e => hideAll_get _ (hkg b o e) fun hm => by
    obtain ⟨p, hp, rfl⟩ := List.mem_map.mp hm
    rw [(hargs p hp).2] at e; cases e
  exact h loose mean mg mb A s R' _ (G.keeps sub) (fun b o e => of_hideAll _ e) (Nat.le_of_eq (hideAll_size _ _)) (fun p hp => ⟨(hargs p hp).1, hideAll_none _ (List.mem_map_of_mem hp)⟩) (fun b o e hb => hideAll_get _ e hb) Rm hret
section
variable {w : World} {A : Around} {s : Shared} {loose : List Str} {mean : ExcName → Option Value} {mg mb : Str → Option Value} {R : Result → Shared → Prop}
theorem enterGC {K : Frag} {prog : Program} {name qual : Str} {params : Arguments} {body : List Stmt} {scope : Scope} {dV kV doc pm cdv ct oc : Value} {an od : Option Addr} {osl : Array (Option Value)} {f : Addr} {vs : List Value} {kw : List (Str × Value)} {binds : List (Str × Value)} {g : Heap} {args : List (Addr × Obj)}
    (X : K.In g) (hkg : ∀ b o, g.get? b = some o → s.heap.get? b = some o) (hsz : g.objs.size ≤ s.heap.objs.size) (hargs : ∀ p ∈ args, s.heap.get? p.1 = some p.2 ∧ g.get? p.1 = none) (hlim : g.NoLimit) (hroom : A.depth < recursionLimit)
    (ho : K.lookup f = some ⟨oc, od, .func (fnOf name qual params body scope dV kV doc pm an cdv ct), osl⟩) (hcd : codeIn K cdv qual = true)
    (hbind : BindsTo s (fnOf name qual params body scope dV kV doc pm an cdv ct) ⟨vs, kw⟩ binds) (hloc : ∀ y ∈ binds, scope.names.lookup y.1 = some .local)
    (h : ∀ L h₁, Fr g L h₁ (fun y => binds.reverse.lookup y) → News g L h₁ args →
      wpAny (model prog w) (A.deeper (envOf qual scope L f cdv)) (execs body (envOf qual scope L f cdv))
        (fun fl s' => R (.ok (.ret (match fl with | .ret v => v | _ => .none))) s') (fun _ _ => False)
        { s with heap := h₁, toks := s.toks + binds.length })
    (hco : scope.isCoroutine = false := by rfl) (hgen : scope.isGenerator = false := by rfl) (hk : scope.kind = .function := by rfl)
    (hcell : ∀ x ∈ scope.names, x.2 ≠ .cell := by decide) : codeAny (model prog w) A (.call (.ref f) ⟨vs, kw⟩) R s := by
  have X' := X.keeps hkg
  refine codeAny_call_def (fd := fnOf name qual params body scope dV kV doc pm an cdv ct) (body := body) (binds := binds) hroom (X' _ _ ho) rfl (hlim.keeps hkg) (codeRec_of X' hcd) rfl hbind hcell hloc (fun h₁ hns hk₁ => ?_) hco hgen hk
  refine wpAny_mono (h s.heap.objs.size h₁ ⟨hns, fun b o e => hk₁ b o (hkg b o e), hsz⟩ fun p hp => ⟨hk₁ _ _ (hargs p hp).1, Nat.ne_of_lt (Heap.lt_size (hargs p hp).1), (hargs p hp).2⟩) (fun _ _ x => x) (fun _ _ x => x.elim)
end
end Mine
end
section
open PySem PySem.W PyProof.Rows
namespace Mine
section
variable {w : World} {A : Around} {s : Shared} {R : Result → Shared → Prop}
theorem enterCG {K : Frag} {prog : Program} {name qual : Str} {params : Arguments} {body : List Stmt} {scope : Scope} {dV kV doc pm cdv ct oc : Value} {an od : Option Addr} {osl : Array (Option Value)} {f : Addr} {vs : List Value} {kw : List (Str × Value)} {binds : List (Str × Value)} {g : Heap} {args : List (Addr × Obj)}
    (X : K.In g) (hkg : ∀ b o, g.get? b = some o → s.heap.get? b = some o) (hsz : g.objs.size ≤ s.heap.objs.size) (hargs : ∀ p ∈ args, s.heap.get? p.1 = some p.2 ∧ g.get? p.1 = none) (hlim : g.NoLimit) (hroom : A.depth < recursionLimit)
    (ho : K.lookup f = some ⟨oc, od, .func (fnOf name qual params body scope dV kV doc pm an cdv ct), osl⟩) (hcd : codeIn K cdv qual = true)
    (hbind : BindsTo s (fnOf name qual params body scope dV kV doc pm an cdv ct) ⟨vs, kw⟩ binds) (hkind : (binds.all fun y => scope.names.lookup y.1 == some .local || scope.names.lookup y.1 == some .cell) = true)
    (hnd : ((cellsFrom 0 scope.names []).map (·.1)).Nodup)
    (h : ∀ L h₁ tk cells, Fr g L h₁ (bindL (envOfC qual scope L f cdv).kindOf binds fun _ => none) → News g L h₁ (cells ++ args) →
      CellsAre (bindC (envOfC qual scope L f cdv).kindOf binds fun _ => none) (cellsFrom (L + 1) scope.names []) cells → (∀ p ∈ args, p.1 < L) →
      wpAny (model prog w) (A.deeper (envOfC qual scope L f cdv)) (execs body (envOfC qual scope L f cdv))
        (fun fl s' => R (.ok (.ret (match fl with | .ret v => v | _ => .none))) s') (fun _ _ => False)
        { s with heap := h₁, toks := tk })
    (hco : scope.isCoroutine = false := by rfl) (hgen : scope.isGenerator = false := by rfl) (hk : scope.kind = .function := by rfl) : codeAny (model prog w) A (.call (.ref f) ⟨vs, kw⟩) R s := by
  have X' := X.keeps hkg
  refine codeAny_call_function (fd := fnOf name qual params body scope dV kV doc pm an cdv ct) (body := body) hroom (X' _ _ ho) rfl hco hgen rfl (codeRec_of X' hcd) (hbind _ _ _ _ ?_)
  refine wpAny_newFunctionEnv_cells hk (kindsX hkind _) fun env' he s' x => ?_
  subst he
  refine ⟨(hlim.keeps hkg).keeps x.toInCall.keep, codeAny_func ?_⟩
  obtain ⟨h₁, tk, rfl, _⟩ := x.done
  obtain ⟨cells, NC, Y⟩ := Cl.news (h₀ := s.heap) (Nat.le_refl _) fun n c hm => ⟨x.cell n c (lookup_of_mem_nodup (cellsFrom_names scope.names 0 (s.heap.objs.size + 1) [] [] rfl ▸ hnd) hm), x.above n c hm⟩
  have hlt : ∀ p ∈ args, p.1 < s.heap.objs.size := fun p hp => Heap.lt_size (hargs p hp).1
  have gn : ∀ b, s.heap.get? b = none → g.get? b = none := fun b e => by
    cases q : g.get? b with
    | none => rfl
    | some o => rw [hkg b o q] at e; cases e
  refine wpAny_mono (h s.heap.objs.size h₁ tk cells ⟨x.toInCall.ns, fun b o e => x.toInCall.keep b o (hkg b o e), hsz⟩ (fun p hp => ?_) Y hlt) (fun _ _ x => x) (fun _ _ x => x.elim)
  rcases List.mem_append.mp hp with hp | hp
  · exact ⟨(NC p hp).1, (NC p hp).2.1, gn _ (NC p hp).2.2⟩
  · exact ⟨x.toInCall.keep _ _ (hargs p hp).1, Nat.ne_of_lt (hlt p hp), (hargs p hp).2⟩
end
end Mine
end
section
open PySem PySem.W PyProof.Rows
namespace Mine
structure Led (g : Heap) (L : Addr) (m : Str → Option Value) (h : Heap) (news : List (Addr × Obj)) : Prop where
  F : Fr g L h m
  N : News g L h news
  D : (news.map (·.1)).Nodup
section
variable {g h : Heap} {L : Addr} {m : Str → Option Value} {pre post news : List (Addr × Obj)} {a : Addr} {o : Obj}
theorem Led.ne (H : Led g L m h (pre ++ (a, o) :: post)) : (∀ p ∈ pre, p.1 ≠ a) ∧ ∀ p ∈ post, p.1 ≠ a := by
  have D := H.D
  rw [List.map_append, List.map_cons, List.nodup_append] at D
  obtain ⟨_, d2, d3⟩ := D
  refine ⟨fun p hp => d3 _ (List.mem_map_of_mem hp) _ (.head _), fun p hp e => ?_⟩
  refine (List.nodup_cons.mp d2).1 ?_
  rw [show (a, o).1 = p.1 from e.symm]
  exact List.mem_map_of_mem hp
theorem Led.updF (H : Led g L m h (pre ++ (a, o) :: post)) : UpdF a o (pre ++ (a, o) :: post) (fun o' => pre ++ (a, o') :: post) := by
  have e := H.ne
  clear H
  induction pre with
  | nil => exact UpdF.head e.2
  | cons p r ih => exact UpdF.tail (e.1 p (.head _)) (ih ⟨fun q hq => e.1 q (.tail _ hq), e.2⟩)
theorem Led.get (H : Led g L m h news) (hm : (a, o) ∈ news) : h.get? a = some o := (H.N _ hm).1
theorem Led.upd (H : Led g L m h (pre ++ (a, o) :: post)) {f : Obj → Obj} {o' : Obj} (e : f o = o') (hf : o'.isFreed = false) : Led g L m (h.update a f) (pre ++ (a, o') :: post) := by
  have n := H.N (a, o) (List.mem_append_right _ (.head _))
  have ne := H.ne
  have other : ∀ b x, b ≠ a → h.get? b = some x → (h.update a f).get? b = some x := fun b x hb q => by rw [Heap.get?_update_ne _ _ _ _ hb]; exact q
  refine ⟨⟨?_, fun b x q => other b x (fun hb => by rw [hb, n.2.2] at q; cases q) (H.F.keep b x q), H.F.above⟩, fun p hp => ?_, ?_⟩
  · obtain ⟨oL, es, ep, hL, r⟩ := H.F.ns
    exact ⟨oL, es, ep, other _ _ (fun e => n.2.1 e.symm) hL, r⟩
  · rcases List.mem_append.mp hp with hp | hp
    · have q := H.N p (List.mem_append_left _ hp)
      exact ⟨other _ _ (ne.1 p hp) q.1, q.2⟩
    · rcases List.mem_cons.mp hp with rfl | hp
      · exact ⟨by rw [Heap.get?_update_self f n.1 (by rw [e]; exact hf)]; exact congrArg some e, n.2⟩
      · have q := H.N p (List.mem_append_right _ (.tail _ hp))
        exact ⟨other _ _ (ne.2 p hp) q.1, q.2⟩
  · have D := H.D
    rw [List.map_append, List.map_cons] at D ⊢
    exact D
theorem Led.more (H : Led g L m h news) {h' : Heap} {T : Addr} (k : ∀ b o, h.get? b = some o → h'.get? b = some o) (hT : h.get? T = none) (ho : h'.get? T = some o) : Led g L m h' ((T, o) :: news) := by
  refine ⟨H.F.kept k, news_more H.F H.N k hT ho, ?_⟩
  rw [List.map_cons]
  refine List.nodup_cons.mpr ⟨fun hm => ?_, H.D⟩
  obtain ⟨p, hp, e⟩ := List.mem_map.mp hm
  have e' : p.1 = T := e
  rw [← e', (H.N p hp).1] at hT; cases hT
theorem Led.push (H : Led g L m h news) (hf : o.isFreed = false) : Led g L m (h.push o) ((h.objs.size, o) :: news) :=
  H.more (fun b o e => Heap.get?_push_of_some _ e) (Heap.get?_none_of_le (Nat.le_refl _)) (Heap.get?_push_size _ hf)
theorem Led.less (H : Led g L m h (a' ++ news)) : Led g L m h news := ⟨H.F, fun p hp => H.N p (List.mem_append_right _ hp), by
  have D := H.D
  rw [List.map_append, List.nodup_append] at D
  exact D.2.1⟩
theorem Led.drop1 {p : Addr × Obj} (H : Led g L m h (p :: news)) : Led g L m h news := Led.less (a' := [p]) H
theorem Led.pick (H : Led g L m h news) (is : List Nat) {news' : List (Addr × Obj)} (hd : is.Nodup) (e : (is.map fun i => news[i]?) = news'.map some) : Led g L m h news' := by
  have hl : is.length = news'.length := by simpa using congrArg List.length e
  have at_ : ∀ (k : Nat) (hk : k < news'.length), news[is[k]'(hl ▸ hk)]? = some news'[k] := fun k hk => by
    have q := congrArg (fun l => l[k]?) e
    simpa [hk, hl] using q
  refine ⟨H.F, fun p hp => ?_, ?_⟩
  · obtain ⟨k, hk, rfl⟩ := List.getElem_of_mem hp
    exact H.N _ (List.mem_of_getElem? (at_ k hk))
  · refine List.pairwise_iff_getElem.mpr fun i j hi hj hij ev => ?_
    rw [List.length_map] at hi hj
    rw [List.getElem_map, List.getElem_map] at ev
    obtain ⟨ai, ei⟩ := List.getElem?_eq_some_iff.mp (at_ i hi)
    obtain ⟨aj, ej⟩ := List.getElem?_eq_some_iff.mp (at_ j hj)
    have D := H.D
    have ne : is[i]'(hl ▸ hi) ≠ is[j]'(hl ▸ hj) := List.pairwise_iff_getElem.mp hd i j _ _ hij
    refine ne ((List.getElem_inj (h₀ := by simpa using ai) (h₁ := by simpa using aj) D).mp ?_)
    rw [List.getElem_map, List.getElem_map, ei, ej]; exact ev
end
section
variable {M : Model} {A : Around} {E : Value → Shared → Prop} {g h : Heap} {gs : Array GenState} {d : Drawn} {t : Nat} {os : OsState} {L : Addr} {m : Str → Option Value} {pre post news : List (Addr × Obj)} {a : Addr} {o : Obj}
end
noncomputable abbrev dobj (l : List DictEntry) (n : Nat) : Obj := { cls := .type "dict", data := .dict l.toArray n }
section
variable {prog : Program} {w : World} {A : Around} {E : Value → Shared → Prop} {g h : Heap} {gs : Array GenState} {d : Drawn} {t : Nat} {os : OsState} {L : Addr} {m : Str → Option Value} {pre post news : List (Addr × Obj)} {a : Addr} {o : Obj} {l : List DictEntry} {n : Nat}
end
end Mine
end
section
open PySem PySem.W PyProof.Rows
namespace Mine
structure GS where
  led : List (Addr × Obj)
  tk : Tok
  vars : List Addr
  script : List Nat
  eqs : List (Addr × Addr)
  ok : Bool
inductive Vw (α : Type) where
  | go (t : Sem α)
  | fresh (k : Tok → Sem α)
  | ask (k : Setting → Sem α)
  | load (a : Addr) (k : Obj → Sem α)
  | update (a : Addr) (f : Obj → Obj) (k : Unit → Sem α)
  | alloc (o : Obj) (k : Addr → Sem α)
  | stop
noncomputable def view {α : Type} : Sem α → Vw α
  | .rule _ k => .go (k ())
  | .at _ k => .go (k ())
  | .point _ k => .go (k ())
  | .fresh k => .fresh k
  | .ask k => .ask k
  | .load a _ k => .load a k
  | .update a _ f k => .update a f k
  | .alloc o k => .alloc o k
  | _ => .stop
noncomputable def goStep {α : Type} (kn : List (Addr × Obj)) (σ : Setting) (ih : Sem α → GS → Sem α × GS) (t : Sem α) (st : GS) : Sem α × GS :=
  match view t with
  | .go t' => ih t' st
  | .fresh k => ih (k st.tk) { st with tk := st.tk + 1 }
  | .ask k => ih (k σ) st
  | .load a k => match st.script with
    | [] => (t, st)
    | i :: r => match (kn ++ st.led)[i]? with
      | none => (t, st)
      | some x => ih (k x.2) { st with script := r, eqs := (a, x.1) :: st.eqs }
  | .update a f k => match st.script with
    | [] => (t, st)
    | i :: r => match st.led[i]? with
      | none => (t, st)
      | some x => ih (k ()) { st with script := r, eqs := (a, x.1) :: st.eqs, led := st.led.set i (x.1, f x.2), ok := st.ok && !(f x.2).isFreed }
  | .alloc o k => match st.vars with
    | [] => (t, st)
    | D :: r => ih (k D) { st with vars := r, led := (D, o) :: st.led, ok := st.ok && !o.isFreed }
  | .stop => (t, st)
noncomputable def go {α : Type} (kn : List (Addr × Obj)) (σ : Setting) (n : Nat) : Sem α → GS → Sem α × GS :=
  Nat.rec (motive := fun _ => Sem α → GS → Sem α × GS) (fun t st => (t, st)) (fun _ ih t st => goStep kn σ ih t st) n
theorem go_succ {α : Type} {kn : List (Addr × Obj)} {σ : Setting} (n : Nat) (t : Sem α) (st : GS) : go kn σ (n + 1) t st = goStep kn σ (go kn σ n) t st := rfl
structure GoKeeps (st st' : GS) : Prop where
  eqs : ∀ e ∈ st.eqs, e ∈ st'.eqs
  ok : st'.ok = true → st.ok = true
theorem GoKeeps.refl (st : GS) : GoKeeps st st := ⟨fun _ h => h, fun h => h⟩
theorem go_keeps {α : Type} {kn : List (Addr × Obj)} {σ : Setting} : ∀ (n : Nat) (t : Sem α) (st : GS), GoKeeps st (go kn σ n t st).2
  | 0, t, st => GoKeeps.refl st
  | n + 1, t, st => by
    rw [go_succ]
    unfold goStep
    cases view t with
    | go t' => exact go_keeps n _ st
    | fresh k => exact ⟨(go_keeps n (k st.tk) { st with tk := st.tk + 1 }).eqs, (go_keeps n (k st.tk) { st with tk := st.tk + 1 }).ok⟩
    | ask k => exact go_keeps n _ st
    | load a k =>
      cases hs : st.script with
      | nil => exact GoKeeps.refl st
      | cons i r =>
        dsimp only
        cases (kn ++ st.led)[i]? with
        | none => exact GoKeeps.refl st
        | some x => exact ⟨fun e h => (go_keeps n _ _).eqs e (.tail _ h), (go_keeps n _ _).ok⟩
    | update a f k =>
      cases hs : st.script with
      | nil => exact GoKeeps.refl st
      | cons i r =>
        dsimp only
        cases st.led[i]? with
        | none => exact GoKeeps.refl st
        | some x => exact ⟨fun e h => (go_keeps n _ _).eqs e (.tail _ h), fun h => (Bool.and_eq_true_iff.mp ((go_keeps n _ _).ok h)).1⟩
    | alloc o k =>
      cases hs : st.vars with
      | nil => exact GoKeeps.refl st
      | cons D r => exact ⟨(go_keeps n (k D) { st with vars := r, led := (D, o) :: st.led, ok := st.ok && !o.isFreed }).eqs, fun h => (Bool.and_eq_true_iff.mp ((go_keeps n (k D) { st with vars := r, led := (D, o) :: st.led, ok := st.ok && !o.isFreed }).ok h)).1⟩
    | stop => exact GoKeeps.refl st
section
variable {α : Type} {prog : Program} {w : World} {A : Around} {E : Value → Shared → Prop} {g : Heap} {gs : Array GenState} {d : Drawn} {os : OsState} {L : Addr} {m : Str → Option Value} {Q : α → Shared → Prop}
noncomputable def Vw.Wp (prog : Program) (w : World) (A : Around) (Q : α → Shared → Prop) (E : Value → Shared → Prop) (s : Shared) : Vw α → Prop
  | .go t => wpAny (model prog w) A t Q E s
  | .fresh k => wpAny (model prog w) A (k s.toks) Q E { s with toks := s.toks + 1 }
  | .ask k => wpAny (model prog w) A (k ⟨prog, w.params⟩) Q E s
  | .load a k => ∃ o, s.heap.get? a = some o ∧ wpAny (model prog w) A (k o) Q E s
  | .update a f k => (s.heap.get? a).isSome ∧ wpAny (model prog w) A (k ()) Q E { s with heap := s.heap.update a f }
  | .alloc o k => wpAny (model prog w) A (k s.heap.objs.size) Q E { s with heap := s.heap.push o }
  | .stop => False
theorem view_wp {t : Sem α} {s : Shared} (h : (view t).Wp prog w A Q E s) : wpAny (model prog w) A t Q E s := by
  cases t with
  | rule tag k => exact fun Γ p hΓ => by rw [Sem.wp_rule]; exact h Γ p hΓ
  | «at» pos k => exact fun Γ p hΓ => by rw [Sem.wp_at]; exact h Γ pos hΓ
  | point l k => exact fun Γ p hΓ => by rw [Sem.wp_point]; exact h Γ p hΓ
  | fresh k => exact fun Γ p hΓ => by rw [Sem.wp_fresh]; exact h Γ p hΓ
  | ask k => exact fun Γ p hΓ => by rw [Sem.wp_ask]; exact h Γ p hΓ
  | load a part k => exact fun Γ p hΓ => by rw [Sem.wp_load]; exact h.elim fun o ho => ⟨o, ho.1, ho.2 Γ p hΓ⟩
  | update a part f k => exact fun Γ p hΓ => by rw [Sem.wp_update]; exact ⟨h.1, h.2 Γ p hΓ⟩
  | alloc o k => exact fun Γ p hΓ => by rw [Sem.wp_alloc]; exact h Γ p hΓ
  | _ => exact False.elim h
structure GoEnd (prog : Program) (w : World) (A : Around) (Q : α → Shared → Prop) (E : Value → Shared → Prop) (g : Heap) (L : Addr) (m : Str → Option Value) (gs : Array GenState) (d : Drawn) (os : OsState) (r : Sem α × GS) : Prop where
  ok : r.2.ok = true
  eqs : ∀ e ∈ r.2.eqs, e.1 = e.2
  rest : ∀ h', Led g L m h' r.2.led → wpAny (model prog w) A r.1 Q E ⟨h', gs, d, r.2.tk, os⟩
theorem split_at {l : List (Addr × Obj)} {i : Nat} {x : Addr × Obj} (h : l[i]? = some x) : l = l.take i ++ x :: l.drop (i + 1) ∧ ∀ y, l.set i y = l.take i ++ y :: l.drop (i + 1) := by
  have hi : i < l.length := (List.getElem?_eq_some_iff.mp h).1
  have hx : l[i] = x := (List.getElem?_eq_some_iff.mp h).2
  refine ⟨?_, fun y => ?_⟩
  · rw [← hx, List.getElem_cons_drop, List.take_append_drop]
  · rw [List.set_eq_take_append_cons_drop, if_pos hi]
theorem go_sound {kn : List (Addr × Obj)} (hkn : ∀ p ∈ kn, g.get? p.1 = some p.2) {lo : Nat} (hlo : lo ≤ g.objs.size) : ∀ (n c : Nat) (t : Sem α) (st : GS) (h : Heap), Led g L m h st.led →
    (∀ vars, vars.length = c → (∀ v ∈ vars, ∃ x, v = x + lo) → GoEnd prog w A Q E g L m gs d os (go kn ⟨prog, w.params⟩ n t { st with vars := vars })) → wpAny (model prog w) A t Q E ⟨h, gs, d, st.tk, os⟩
  | 0, c, t, st, h, H, k => (k (List.replicate c (0 + lo)) (List.length_replicate ..) (fun v hv => ⟨0, (List.mem_replicate.mp hv).2⟩)).rest h H
  | n + 1, c, t, ⟨led, tk, vs, script, eqs, ok⟩, h, H, k => by
    dsimp only at H k ⊢
    have any := k (List.replicate c (0 + lo)) (List.length_replicate ..) (fun v hv => ⟨0, (List.mem_replicate.mp hv).2⟩)
    have stop : (∀ vars, vars.length = c → go kn ⟨prog, w.params⟩ (n + 1) t ⟨led, tk, vars, script, eqs, ok⟩ = (t, ⟨led, tk, vars, script, eqs, ok⟩)) → wpAny (model prog w) A t Q E ⟨h, gs, d, tk, os⟩ := fun e => by
      have r := any.rest
      rw [e _ (List.length_replicate ..)] at r
      exact r h H
    have via : ∀ {v : Vw α}, view t = v → v.Wp prog w A Q E ⟨h, gs, d, tk, os⟩ → wpAny (model prog w) A t Q E ⟨h, gs, d, tk, os⟩ := fun e h' => view_wp (e ▸ h')
    have step : ∀ vars, go kn ⟨prog, w.params⟩ (n + 1) t ⟨led, tk, vars, script, eqs, ok⟩ = goStep kn ⟨prog, w.params⟩ (go kn ⟨prog, w.params⟩ n) t ⟨led, tk, vars, script, eqs, ok⟩ := fun _ => rfl
    unfold goStep at step
    cases hv : view t with
    | go t' =>
      simp only [hv] at step
      exact via hv (go_sound hkn hlo n c t' ⟨led, tk, vs, script, eqs, ok⟩ h H fun vars h1 h2 => step vars ▸ k vars h1 h2)
    | fresh k' =>
      simp only [hv] at step
      exact via hv (go_sound hkn hlo n c (k' tk) ⟨led, tk + 1, vs, script, eqs, ok⟩ h H fun vars h1 h2 => step vars ▸ k vars h1 h2)
    | ask k' =>
      simp only [hv] at step
      exact via hv (go_sound hkn hlo n c (k' ⟨prog, w.params⟩) ⟨led, tk, vs, script, eqs, ok⟩ h H fun vars h1 h2 => step vars ▸ k vars h1 h2)
    | load a k' =>
      cases script with
      | nil => exact stop fun vars _ => by rw [step]; simp only [hv]
      | cons i r =>
        cases hx : (kn ++ led)[i]? with
        | none => exact stop fun vars _ => by rw [step]; simp only [hv, hx]
        | some x =>
          simp only [hv, hx] at step
          have ea : a = x.1 := by
            have q := any.eqs
            rw [step] at q
            exact q (a, x.1) ((go_keeps n _ _).eqs _ (.head _))
          have ho : h.get? x.1 = some x.2 := by
            rcases List.mem_append.mp (List.mem_of_getElem? hx) with hm | hm
            · exact H.F.keep _ _ (hkn x hm)
            · exact (H.N x hm).1
          exact via hv ⟨x.2, by rw [ea]; exact ho, go_sound hkn hlo n c (k' x.2) ⟨led, tk, vs, r, (a, x.1) :: eqs, ok⟩ h H fun vars h1 h2 => step vars ▸ k vars h1 h2⟩
    | update a f k' =>
      cases script with
      | nil => exact stop fun vars _ => by rw [step]; simp only [hv]
      | cons i r =>
        cases hx : led[i]? with
        | none => exact stop fun vars _ => by rw [step]; simp only [hv, hx]
        | some x =>
          simp only [hv, hx] at step
          have ea : a = x.1 := by
            have q := any.eqs
            rw [step] at q
            exact q (a, x.1) ((go_keeps n _ _).eqs _ (.head _))
          have ho : (f x.2).isFreed = false := by
            have q := any.ok
            rw [step] at q
            have q := (go_keeps n _ _).ok q
            simpa using (Bool.and_eq_true_iff.mp q).2
          have hm : x ∈ led := List.mem_of_getElem? hx
          have sp := split_at hx
          have H' : Led g L m (h.update x.1 f) (led.set i (x.1, f x.2)) := by
            rw [sp.2]
            have H2 := H
            rw [sp.1] at H2
            exact H2.upd (a := x.1) (o := x.2) rfl ho
          refine via hv ⟨by rw [ea]; show (h.get? x.1).isSome = true; rw [(H.N x hm).1]; rfl, ?_⟩
          rw [ea]
          exact go_sound hkn hlo n c (k' ()) ⟨led.set i (x.1, f x.2), tk, vs, r, (a, x.1) :: eqs, ok && !(f x.2).isFreed⟩ _ H' fun vars h1 h2 => step vars ▸ k vars h1 h2
    | alloc o k' =>
      cases c with
      | zero => exact stop fun vars hv' => by rw [step, List.length_eq_zero_iff.mp hv']; simp only [hv]
      | succ c =>
        simp only [hv] at step
        have ho : o.isFreed = false := by
          have q := (k ((0 + lo) :: List.replicate c (0 + lo)) (by simp) (fun v hv => ⟨0, by rcases List.mem_cons.mp hv with rfl | hv; rfl; exact (List.mem_replicate.mp hv).2⟩)).ok
          rw [step] at q
          have q := (go_keeps n _ _).ok q
          simpa using (Bool.and_eq_true_iff.mp q).2
        have hsz : lo ≤ h.objs.size := Nat.le_trans hlo (Nat.le_trans H.F.above (Nat.le_of_lt H.F.ns.lt))
        exact via hv (go_sound hkn hlo n c (k' h.objs.size) ⟨(h.objs.size, o) :: led, tk, vs, script, eqs, ok && !o.isFreed⟩ _ (H.push ho) fun vars h1 h2 => by
          have q := k (h.objs.size :: vars) (by simp [h1]) (fun v hv' => by rcases List.mem_cons.mp hv' with rfl | hv'; exact ⟨h.objs.size - lo, (Nat.sub_add_cancel hsz).symm⟩; exact h2 v hv')
          rw [step] at q
          exact q)
    | stop => exact stop fun vars _ => by rw [step]; simp only [hv]
theorem go_use {kn : List (Addr × Obj)} (hkn : ∀ p ∈ kn, g.get? p.1 = some p.2) {lo : Nat} (hlo : lo ≤ g.objs.size) (n c : Nat) (script : List Nat) {t : Sem α} {tk : Tok} {h : Heap} {led : List (Addr × Obj)} (H : Led g L m h led)
    (k : ∀ vars, vars.length = c → (∀ v ∈ vars, ∃ x, v = x + lo) → GoEnd prog w A Q E g L m gs d os (go kn ⟨prog, w.params⟩ n t ⟨led, tk, vars, script, [], true⟩)) : wpAny (model prog w) A t Q E ⟨h, gs, d, tk, os⟩ :=
  go_sound hkn hlo n c t ⟨led, tk, [], script, [], true⟩ h H k
theorem kn0 {g : Heap} : ∀ p ∈ ([] : List (Addr × Obj)), g.get? p.1 = some p.2 := fun _ h => absurd h List.not_mem_nil
theorem go_end {r : Sem α × GS} {as : List Addr} {led : List (Addr × Obj)} {tk : Tok} {t : Sem α} (h1 : r.2.ok = true) (h2 : r.2.eqs = as.map fun a => (a, a)) (h3 : r.2.led = led) (h4 : r.2.tk = tk) (h5 : r.1 = t)
    (k : ∀ h', Led g L m h' led → wpAny (model prog w) A t Q E ⟨h', gs, d, tk, os⟩) : GoEnd prog w A Q E g L m gs d os r := by
  subst h3 h4 h5
  refine ⟨h1, fun e he => ?_, k⟩
  rw [h2] at he
  obtain ⟨a, _, rfl⟩ := List.mem_map.mp he
  rfl
noncomputable def callC {α : Type} : Sem α → Option Code
  | .call c none _ _ _ => some c
  | _ => none
noncomputable def callK {α : Type} : Sem α → Result → Sem α
  | .call _ _ _ _ k, r => k r
  | t, _ => t
theorem wpAny_callRaw {c : Code} {gd : Bool} {lv : List Value} {k : Result → Sem α} {s : Shared} (hc : codeAny (model prog w) A c (fun r s' => wpAny (model prog w) A (k r) Q E s') s) : wpAny (model prog w) A (.call c none gd lv k) Q E s := fun Γ p hΓ => by
  rw [Sem.wp_call]
  obtain ⟨r, s', h1, h2⟩ := hc _ p rfl (hΓ.enter c none p (by intro x; cases x))
  exact ⟨r, s', h1, h2 Γ p hΓ⟩
theorem callC_inv {t : Sem α} {c : Code} (h : callC t = some c) : ∃ gd lv k, t = .call c none gd lv k := by
  cases t with
  | call c' hd gd lv k =>
    cases hd with
    | none => cases h; exact ⟨gd, lv, k, rfl⟩
    | some v => cases h
  | _ => cases h
theorem go_call {r : Sem α × GS} {as : List Addr} {led : List (Addr × Obj)} {tk : Tok} {c : Code} (h1 : r.2.ok = true) (h2 : r.2.eqs = as.map fun a => (a, a)) (h3 : r.2.led = led) (h4 : r.2.tk = tk) (h5 : callC r.1 = some c)
    (k : ∀ h', Led g L m h' led → codeAny (model prog w) A c (fun x s' => wpAny (model prog w) A (callK r.1 x) Q E s') ⟨h', gs, d, tk, os⟩) : GoEnd prog w A Q E g L m gs d os r := by
  refine go_end h1 h2 h3 h4 rfl fun h' H' => ?_
  have k' := k h' H'
  obtain ⟨gd, lv, k2, e⟩ := callC_inv h5
  rw [e] at k' ⊢
  exact wpAny_callRaw k'
theorem go_stop {r : Sem α × GS} {as : List Addr} {led : List (Addr × Obj)} {tk : Tok} (h1 : r.2.ok = true) (h2 : r.2.eqs = as.map fun a => (a, a)) (h3 : r.2.led = led) (h4 : r.2.tk = tk)
    (k : ∀ h', Led g L m h' led → wpAny (model prog w) A r.1 Q E ⟨h', gs, d, tk, os⟩) : GoEnd prog w A Q E g L m gs d os r := go_end h1 h2 h3 h4 rfl k
theorem go_end1 {r : Sem α × GS} {as : List Addr} {led : List (Addr × Obj)} {tk : Tok} {t : Sem α} (e : r = (t, ⟨led, tk, [], [], as.map fun a => (a, a), true⟩))
    (k : ∀ h', Led g L m h' led → wpAny (model prog w) A t Q E ⟨h', gs, d, tk, os⟩) : GoEnd prog w A Q E g L m gs d os r := by
  rw [e]; exact go_end rfl rfl rfl rfl rfl k
theorem go_call1 {r : Sem α × GS} {as : List Addr} {led : List (Addr × Obj)} {tk : Tok} {c : Code} (e : (callC r.1, r.2) = (some c, ⟨led, tk, [], [], as.map fun a => (a, a), true⟩))
    (k : ∀ h', Led g L m h' led → codeAny (model prog w) A c (fun x s' => wpAny (model prog w) A (callK r.1 x) Q E s') ⟨h', gs, d, tk, os⟩) : GoEnd prog w A Q E g L m gs d os r := by
  obtain ⟨e1, e2⟩ := Prod.mk.inj e
  exact go_call (congrArg GS.ok e2) (congrArg GS.eqs e2) (congrArg GS.led e2) (congrArg GS.tk e2) e1 k
theorem go_stop1 {r : Sem α × GS} {as : List Addr} {led : List (Addr × Obj)} {tk : Tok} (e2 : r.2 = ⟨led, tk, [], [], as.map fun a => (a, a), true⟩)
    (k : ∀ h', Led g L m h' led → wpAny (model prog w) A r.1 Q E ⟨h', gs, d, tk, os⟩) : GoEnd prog w A Q E g L m gs d os r :=
  go_stop (congrArg GS.ok e2) (congrArg GS.eqs e2) (congrArg GS.led e2) (congrArg GS.tk e2) k
theorem go_endL {r : Sem α × GS} {tk : Tok} {t : Sem α} (e : (r.1, r.2.ok, r.2.tk, r.2.eqs.map Prod.fst) = (t, true, tk, r.2.eqs.map Prod.snd))
    (k : ∀ h', Led g L m h' r.2.led → wpAny (model prog w) A t Q E ⟨h', gs, d, tk, os⟩) : GoEnd prog w A Q E g L m gs d os r := by
  obtain ⟨e1, e'⟩ := Prod.mk.inj e
  obtain ⟨e2, e''⟩ := Prod.mk.inj e'
  obtain ⟨e3, e4⟩ := Prod.mk.inj e''
  subst e1 e3
  refine ⟨e2, fun x hx => ?_, k⟩
  obtain ⟨i, hi, rfl⟩ := List.getElem_of_mem hx
  have q := congrArg (fun l => l[i]?) e4
  simpa [hi] using q
theorem go_callN {r : Sem α × GS} {as : List Addr} {led : List (Addr × Obj)} {tk : Tok} {c : Code} (K : Result → Sem α) (e : (callC r.1, r.2) = (some c, ⟨led, tk, [], [], as.map fun a => (a, a), true⟩)) (eK : callK r.1 = K)
    (k : ∀ h', Led g L m h' led → codeAny (model prog w) A c (fun x s' => wpAny (model prog w) A (K x) Q E s') ⟨h', gs, d, tk, os⟩) : GoEnd prog w A Q E g L m gs d os r := go_call1 e (eK ▸ k)
theorem go_stopN {r : Sem α × GS} {as : List Addr} {led : List (Addr × Obj)} {tk : Tok} (t : Sem α) (e2 : r.2 = ⟨led, tk, [], [], as.map fun a => (a, a), true⟩) (et : r.1 = t)
    (k : ∀ h', Led g L m h' led → wpAny (model prog w) A t Q E ⟨h', gs, d, tk, os⟩) : GoEnd prog w A Q E g L m gs d os r := go_stop1 e2 (et ▸ k)
end
theorem vars0 {vars : List Addr} (hv : vars.length = 0) : vars = [] := List.length_eq_zero_iff.mp hv
theorem varsS {n : Nat} {vars : List Addr} (hv : vars.length = n + 1) (hx : ∀ v ∈ vars, ∃ x, v = x + 8) : ∃ (a : Nat) (r : List Addr), vars = (a + 8) :: r ∧ r.length = n ∧ ∀ v ∈ r, ∃ x, v = x + 8 := by
  cases vars with
  | nil => cases hv
  | cons v r =>
    obtain ⟨x, rfl⟩ := hx v (.head _)
    exact ⟨x, r, rfl, Nat.succ.inj hv, fun u hu => hx u (.tail _ hu)⟩
theorem vars1 {vars : List Addr} (hv : vars.length = 1) (hx : ∀ v ∈ vars, ∃ x, v = x + 8) : ∃ a : Nat, vars = [a + 8] := by
  obtain ⟨a, r, rfl, h, _⟩ := varsS hv hx
  exact ⟨a, by rw [List.length_eq_zero_iff.mp h]⟩
theorem vars2 {vars : List Addr} (hv : vars.length = 2) (hx : ∀ v ∈ vars, ∃ x, v = x + 8) : ∃ a b : Nat, vars = [a + 8, b + 8] := by
  obtain ⟨a, r, rfl, h, h'⟩ := varsS hv hx
  obtain ⟨b, rfl⟩ := vars1 h h'
  exact ⟨a, b, rfl⟩
theorem vars3 {vars : List Addr} (hv : vars.length = 3) (hx : ∀ v ∈ vars, ∃ x, v = x + 8) : ∃ a b c : Nat, vars = [a + 8, b + 8, c + 8] := by
  obtain ⟨a, r, rfl, h, h'⟩ := varsS hv hx
  obtain ⟨b, c, rfl⟩ := vars2 h h'
  exact ⟨a, b, c, rfl⟩
theorem varsF {n : Nat} {vars : List Addr} (hv : vars.length = n) (hx : ∀ v ∈ vars, ∃ x, v = x + 8) : ∃ f : Nat → Nat, vars = (List.range n).map fun i => f i + 8 := by
  refine ⟨fun i => vars.getD i 0 - 8, List.ext_getElem (by simp [hv]) fun i h1 h2 => ?_⟩
  obtain ⟨x, e⟩ := hx _ (List.getElem_mem h1)
  simp [h1, e]
theorem vars4 {vars : List Addr} (hv : vars.length = 4) (hx : ∀ v ∈ vars, ∃ x, v = x + 8) : ∃ a b c d : Nat, vars = [a + 8, b + 8, c + 8, d + 8] := by
  obtain ⟨a, r, rfl, h, h'⟩ := varsS hv hx
  obtain ⟨b, c, d, rfl⟩ := vars3 h h'
  exact ⟨a, b, c, d, rfl⟩
end Mine
end
section
open PySem PySem.W PyProof.Rows
namespace Mine
section
variable {prog : Program} {w : World} {A : Around} {E : Value → Shared → Prop} {g h : Heap} {gs : Array GenState} {d : Drawn} {t : Nat} {os : OsState} {L : Addr} {m : Str → Option Value} {rest : List (Addr × Obj)}
theorem iadd_led {D l : Addr} {v : Value} {Q : PySem.Fin → Shared → Prop} (H : Led g L m h ((D, ⟨.type "list", none, .seq (List.toArray []) 0, List.toArray []⟩) :: rest)) (hm : (l, (⟨.type "list", none, .seq (List.toArray [v]) 0, List.toArray []⟩ : Obj)) ∈ rest)
    (hq : ∀ h', Led g L m h' ((D, ⟨.type "list", none, .seq (List.toArray [v]) 1, List.toArray []⟩) :: rest) → Q (.done (.ret (.ref D))) ⟨h', gs, d, t, os⟩) :
    wpAny (model prog w) A (Builtin.«list.__iadd__» ⟨[.ref D, .ref l], []⟩) Q E ⟨h, gs, d, t, os⟩ := by
  show wpAny _ _ (Builtin.List.listExtendWith (.ref D) (.ref l) (.ref D)) _ _ _
  have hD := H.get (.head _)
  have hl := H.get (.tail _ hm)
  unfold Builtin.List.listExtendWith
  refine wpAny_bind (wpAny_typeOf (T := "list") ⟨_, hl, rfl⟩ ?_)
  have ht : (Value.type "list" == Value.type "list") = true := by rfl
  rw [if_pos (by rw [ht]; simp)]
  refine wpAny_bind (listItems_at hl rfl ?_)
  refine wpAny_bind (listItems_at hD rfl ?_)
  rw [if_neg (by simp)]
  refine wpAny_bind (listUpdate_at hD rfl ?_ (Nat.zero_le _) (Nat.le_of_ble_eq_true rfl))
  refine wpAny_pure (hq _ ?_)
  exact Led.upd (pre := []) H (by rfl) rfl
theorem isSub_self {C : Addr} {oC : Obj} {cd : ClassData} {tl : List Value} {Q : Bool → Shared → Prop} (ho : h.get? C = some oC) (hd : oC.data = .cls cd) (hm : cd.mro = .ref C :: tl) (hq : Q true ⟨h, gs, d, t, os⟩) : wpAny (model prog w) A (isSubtype (.ref C) (.ref C)) Q E ⟨h, gs, d, t, os⟩ := by
  unfold isSubtype mroOf classData
  refine wpAny_bind (wpAny_bind (wpAny_bind (wpAny_load ho ?_)))
  rw [hd]
  refine wpAny_pure (wpAny_pure ?_)
  rw [hm]
  dsimp only
  rw [if_neg (by simp)]
  first
    | exact wpAny_pure (by rw [show (Value.ref C :: tl).contains (Value.ref C) = true from by simp]; exact hq)
    | exact wpAny_bind (wpAny_pure (wpAny_pure (by rw [show (Value.ref C :: tl).contains (Value.ref C) = true from by simp]; exact hq)))
theorem isInst_self {C I : Addr} {oC oI : Obj} {cd : ClassData} {tl : List Value} {Q : Bool → Shared → Prop} (hI : h.get? I = some oI) (hc : oI.cls = .ref C) (ho : h.get? C = some oC) (hd : oC.data = .cls cd) (hm : cd.mro = .ref C :: tl) (hq : Q true ⟨h, gs, d, t, os⟩) : wpAny (model prog w) A (isInstance (.ref I) (.ref C)) Q E ⟨h, gs, d, t, os⟩ := by
  unfold isInstance typeOf
  refine wpAny_bind (wpAny_bind (wpAny_load hI (wpAny_pure ?_)))
  rw [hc]
  exact isSub_self ho hd hm hq
theorem descr_check {M C I : Addr} {oM oC oI : Obj} {fs : Array Value} {n : Str} {tn : Tok} {cd : ClassData} {tl : List Value} {Q : Unit → Shared → Prop} (hM : h.get? M = some oM) (hf : oM.data = .fields fs) (f0 : fs[0]? = some (.str n tn)) (f1 : fs[1]? = some (.ref C))
    (hI : h.get? I = some oI) (hc : oI.cls = .ref C) (ho : h.get? C = some oC) (hd : oC.data = .cls cd) (hm : cd.mro = .ref C :: tl) (hq : Q () ⟨h, gs, d, t, os⟩) : wpAny (model prog w) A (Builtin.Getset_descriptor.descrCheckInstance (.ref M) (.ref I)) Q E ⟨h, gs, d, t, os⟩ := by
  unfold Builtin.Getset_descriptor.descrCheckInstance Builtin.Getset_descriptor.descrNameAndClass
  refine wpAny_bind (wpAny_bind (wpAny_field hM hf f0 ?_))
  refine wpAny_bind (wpAny_field hM hf f1 (wpAny_pure ?_))
  refine wpAny_bind (isInst_self hI hc ho hd hm ?_)
  exact wpAny_pure hq
theorem super_init_led {S C : Addr} {oC : Obj} {cd : ClassData} {tl : List Value} {Q : PySem.Fin → Shared → Prop} (H : Led g L m h ((S, ⟨.type "super", none, .fields (List.toArray [.none, .none, .none]), List.toArray []⟩) :: rest)) (hC : (C, oC) ∈ rest) (hd : oC.data = .cls cd) (hm : cd.mro = .ref C :: tl)
    (hq : ∀ h', Led g L m h' ((S, ⟨.type "super", none, .fields (List.toArray [.ref C, .ref C, .ref C]), List.toArray []⟩) :: rest) → Q (.done (.ret .none)) ⟨h', gs, d, t, os⟩) :
    wpAny (model prog w) A (Builtin.«super.__init__» ⟨[.ref S, .ref C, .ref C], []⟩) Q E ⟨h, gs, d, t, os⟩ := by
  have hS := H.get (.head _)
  have hC' := H.get (.tail _ hC)
  unfold Builtin.«super.__init__» noKeywords
  repeat (first | (with_reducible refine ks_wpAny_isType_cls hC' hd ?_) | (with_reducible refine isSub_self hC' hd hm ?_) | wp_step)
  all_goals exact hq _ (Led.upd (pre := []) (Led.upd (pre := []) (Led.upd (pre := []) (o' := ⟨.type "super", none, .fields (List.toArray [.ref C, .none, .none]), List.toArray []⟩) H rfl rfl) (o' := ⟨.type "super", none, .fields (List.toArray [.ref C, .ref C, .none]), List.toArray []⟩) rfl rfl) rfl rfl)
theorem cm_isub : classOwn (.type "object") (Str.ofString "__init_subclass__") = pure (some (.builtin "object.__init_subclass__")) := by kernel_rfl
theorem cm_isubT : typeOf (.builtin "object.__init_subclass__") = pure (.type "classmethod_descriptor") := by kernel_rfl
theorem cm_cmget : typeLookup (.type "classmethod_descriptor") "__get__" = pure (some (.builtin "classmethod_descriptor.__get__")) := by rw [typeLookup_type, builtinLookup_eq_fast]; kernel_rfl
theorem super_ga_led {S C : Addr} {oC : Obj} {cd : ClassData} {tk : Tok} {Q : PySem.Fin → Shared → Prop} (H : Led g L m h ((S, ⟨.type "super", none, .fields (List.toArray [.ref C, .ref C, .ref C]), List.toArray []⟩) :: rest)) (hC : (C, oC) ∈ rest) (hd : oC.data = .cls cd) (hm : cd.mro = [.ref C, .type "object"])
    (ho : Looks (model prog w) h (opaqueClassAbove (.ref C)) none)
    (hq : codeAny (model prog w) A (.call (.builtin "classmethod_descriptor.__get__") ⟨[.builtin "object.__init_subclass__", .none, .ref C], []⟩) (fun r s' => match r with | .ok (.ret v) => Q (.done (.ret v)) s' | .ok _ => False | .error e => E e s') ⟨h, gs, d, t, os⟩) :
    wpAny (model prog w) A (Builtin.«super.__getattribute__» ⟨[.ref S, .str (Str.ofString "__init_subclass__") tk], []⟩) Q E ⟨h, gs, d, t, os⟩ := by
  have hS := H.get (.head _)
  have hC' := H.get (.tail _ hC)
  have e1 := cm_isub
  have e2 := cm_isubT
  have e3 := cm_cmget
  have hdt : ({ cls := .type "super", dict := none, data := .fields (List.toArray [.ref C, .ref C, .ref C]), slots := List.toArray [] } : Obj).data = .fields #[.ref C, .ref C, .ref C] := rfl
  have f0 : (#[.ref C, .ref C, .ref C] : Array Value)[0]? = some (.ref C) := rfl
  have f1 : (#[.ref C, .ref C, .ref C] : Array Value)[1]? = some (.ref C) := rfl
  have f2 : (#[.ref C, .ref C, .ref C] : Array Value)[2]? = some (.ref C) := rfl
  have hmro : ∀ {Q' : List Value → Shared → Prop} {E' : Value → Shared → Prop} {A' : Around}, Q' [.ref C, .type "object"] ⟨h, gs, d, t, os⟩ → wpAny (model prog w) A' (mroOf (.ref C)) Q' E' ⟨h, gs, d, t, os⟩ := fun hq' => by
    unfold mroOf classData
    refine wpAny_bind (wpAny_bind (wpAny_load hC' ?_))
    rw [hd]
    refine wpAny_pure (wpAny_pure ?_)
    rw [hm]; exact hq'
  have hdrop : (([.ref C, .type "object"] : List Value).dropWhile (· != .ref C)).drop 1 = [.type "object"] := by simp [List.dropWhile]
  have hbeq : (Value.ref C == Value.ref C) = true := by simp
  unfold Builtin.«super.__getattribute__»
  repeat (first
    | (with_reducible refine wpAny_field hS hdt f0 ?_) | (with_reducible refine wpAny_field hS hdt f1 ?_) | (with_reducible refine wpAny_field hS hdt f2 ?_)
    | (with_reducible refine ks_wpAny_notOpaque ho ?_)
    | (with_reducible refine hmro ?_; rw [hdrop])
    | (rw [List.forIn_cons])
    | (with_reducible refine wpAny_call ?_)
    | (rw [if_pos hbeq])
    | wp_step
    | dsimp only)
  refine codeAny_mono hq fun r s' hr => ?_
  cases r with
  | error e => exact hr
  | ok f =>
    cases f with
    | ret v => exact wpAny_bind (wpAny_pure (wpAny_pure (wpAny_pure (wpAny_pure hr))))
    | _ => exact hr.elim
end
section
variable {α : Type} {prog : Program} {w : World} {A : Around} {E : Value → Shared → Prop} {Q : α → Shared → Prop} {s : Shared}
set_option cleanup.letToHave false
theorem code_let {c : Code} {R : Result → Shared → Prop} (h : let R' := R; codeAny (model prog w) A c R' s) : codeAny (model prog w) A c R s := h
end
end Mine
end
section
open PySem PySem.W PyProof.Rows
namespace Mine
theorem cm_entry_cmget : entryFor table "classmethod_descriptor.__get__" = some Builtin.«classmethod_descriptor.__get__» := entryFor_of_tree (by kernel_rfl)
theorem cm_entry_isub : entryFor table "object.__init_subclass__" = some Builtin.«object.__init_subclass__» := entryFor_of_tree (by kernel_rfl)
theorem cm_entry_tnew : entryFor table "type.__new__" = some Builtin.«type.__new__» := entryFor_of_tree (by kernel_rfl)
theorem cm_entry_tinit : entryFor table "type.__init__" = some Builtin.«type.__init__» := entryFor_of_tree (by kernel_rfl)
theorem cm_entry_tprep : entryFor table "type.__prepare__" = some Builtin.«type.__prepare__» := entryFor_of_tree (by kernel_rfl)
theorem cm_entry_tga : entryFor table "type.__getattribute__" = some Builtin.«type.__getattribute__» := entryFor_of_tree (by kernel_rfl)
theorem cm_entry_tcall : entryFor table "type.__call__" = some Builtin.«type.__call__» := entryFor_of_tree (by kernel_rfl)
theorem cm_entry_onew : entryFor table "object.__new__" = some Builtin.«object.__new__» := entryFor_of_tree (by kernel_rfl)
theorem cm_entry_osetattr : entryFor table "object.__setattr__" = some Builtin.«object.__setattr__» := entryFor_of_tree (by kernel_rfl)
theorem cm_entry_mdset : entryFor table "member_descriptor.__set__" = some Builtin.«member_descriptor.__set__» := entryFor_of_tree (by kernel_rfl)
theorem cm_entry_slotset : entryFor table "proto.slot#set" = some Builtin.«proto.slot#set» := entryFor_of_tree (by kernel_rfl)
theorem cm_entry_slot : entryFor table "proto.slot" = some Builtin.«proto.slot» := entryFor_of_tree (by kernel_rfl)
theorem cm_entry_mdget : entryFor table "member_descriptor.__get__" = some Builtin.«member_descriptor.__get__» := entryFor_of_tree (by kernel_rfl)
end Mine
end
section
open PySem PySem.W PyProof.Rows
namespace Mine
noncomputable abbrev tupN (vs : List Value) : Obj := { cls := .type "tuple", data := .seq vs.toArray 0 }
noncomputable abbrev en (n : Str) (hh : Int) (t : Tok) (v : Value) : DictEntry := ⟨hh, .str n t, v⟩
noncomputable def nh (w : World) (s : Str) : Int := if s.cps.isEmpty = true then 0 else reduceHash (w.params.strHash s.cps)
noncomputable abbrev clsK (C N BT : Addr) (t0 tq : Tok) : Obj := { cls := .type "type", data := .cls { name := Str.ofString "K", bases := [.type "object"], mro := [.ref C, .type "object"], ns := N, qualname := Str.ofString "cmp_to_key.<locals>.K", hasDict := false, slotNames := [Str.ofString "obj"] }, slots := #[some (.ref BT), none, some (.str (Str.ofString "K") t0), some (.str (Str.ofString "cmp_to_key.<locals>.K") tq), some (.builtin "object.__new__"), some (.bool false)] }
noncomputable abbrev eA (h3 h4 h5 h6 h7 h8 h9 h10 h11 h12 : Int) (t3 t4 t5 t6 t7 t8 t9 t10 t11 t12 tl : Tok) (SL ST f0 f1 f2 f3 f4 f5 : Nat) (r : List DictEntry) : List DictEntry:=⟨h3,(.str (Str.ofString "__firstlineno__") t3),(.int 175 tl)⟩::⟨h4,(.str (Str.ofString "__slots__") t4),(.ref (SL + 8))⟩::⟨h5,(.str (Str.ofString "__init__") t5),(.ref (f0 + 8))⟩::⟨h6,(.str (Str.ofString "__lt__") t6),(.ref (f1 + 8))⟩::⟨h7,(.str (Str.ofString "__gt__") t7),(.ref (f2 + 8))⟩::⟨h8,(.str (Str.ofString "__eq__") t8),(.ref (f3 + 8))⟩::⟨h9,(.str (Str.ofString "__le__") t9),(.ref (f4 + 8))⟩::⟨h10,(.str (Str.ofString "__ge__") t10),(.ref (f5 + 8))⟩::⟨h11,(.str (Str.ofString "__hash__") t11),.none⟩::⟨h12,(.str (Str.ofString "__static_attributes__") t12),(.ref (ST + 8))⟩::r
noncomputable abbrev eB (BT SL ST : Nat) (ts tst : Tok) (f0 f1 f2 f3 f4 f5 : Nat) (F0 F1 F2 F3 F4 F5 : FuncData) : List (Addr × Obj):=[((BT + 8),⟨(.type "tuple"),none,.seq (List.toArray [(.type "object")]) 0,List.toArray []⟩),((SL + 8),⟨(.type "list"),none,.seq (List.toArray [(.str (Str.ofString "obj") ts)]) 0,List.toArray []⟩),((ST + 8),⟨(.type "tuple"),none,.seq (List.toArray [(.str (Str.ofString "obj") tst)]) 0,List.toArray []⟩),((f0 + 8),⟨(.type "function"),none,Data.func F0,List.toArray []⟩),((f1 + 8),⟨(.type "function"),none,Data.func F1,List.toArray []⟩),((f2 + 8),⟨(.type "function"),none,Data.func F2,List.toArray []⟩),((f3 + 8),⟨(.type "function"),none,Data.func F3,List.toArray []⟩),((f4 + 8),⟨(.type "function"),none,Data.func F4,List.toArray []⟩),((f5 + 8),⟨(.type "function"),none,Data.func F5,List.toArray []⟩)]
theorem stuck_bind {α β : Type} {prog : Program} {w : World} {A : Around} {E : Value → Shared → Prop} {X : Sem α} {K : α → Sem β} {Q : β → Shared → Prop} {s : Shared} (h : wpAny (model prog w) A X (fun a s' => wpAny (model prog w) A (K a) Q E s') E s) : wpAny (model prog w) A (Sem.bind X K) Q E s := wpAny_bind h
set_option cleanup.letToHave false in
theorem go_let {α : Type} {prog : Program} {w : World} {A : Around} {E : Value → Shared → Prop} {t : Sem α} {Q : α → Shared → Prop} {s : Shared} (h : let T := t; wpAny (model prog w) A T Q E s) : wpAny (model prog w) A t Q E s := h
section
variable {prog : Program} {w : World} {A : Around} {E : Value → Shared → Prop} {g h : Heap} {gs : Array GenState} {d : Drawn} {t : Nat} {os : OsState} {L : Addr} {m : Str → Option Value} {news : List (Addr × Obj)}
theorem type_new {BT NS SL ST f0 f1 f2 f3 f4 f5 : Nat} {n : Nat} {t0 ts tst : Tok} {h1 h2 h3 h4 h5 h6 h7 h8 h9 h10 h11 h12 : Int} {t1 t2 t3 t4 t5 t6 t7 t8 t9 t10 t11 t12 : Tok} {tm tq tl : Tok} {F0 F1 F2 F3 F4 F5 : FuncData} {Q : Fin → Shared → Prop}
    (H : Led g L m h (((NS + 8), dobj [en (Str.ofString "__module__") h1 t1 (.str (Str.ofString "cpy313.functools") tm), en (Str.ofString "__qualname__") h2 t2 (.str (Str.ofString "cmp_to_key.<locals>.K") tq), en (Str.ofString "__firstlineno__") h3 t3 (.int 175 tl), en (Str.ofString "__slots__") h4 t4 (.ref (SL + 8)), en (Str.ofString "__init__") h5 t5 (.ref (f0 + 8)), en (Str.ofString "__lt__") h6 t6 (.ref (f1 + 8)), en (Str.ofString "__gt__") h7 t7 (.ref (f2 + 8)), en (Str.ofString "__eq__") h8 t8 (.ref (f3 + 8)), en (Str.ofString "__le__") h9 t9 (.ref (f4 + 8)), en (Str.ofString "__ge__") h10 t10 (.ref (f5 + 8)), en (Str.ofString "__hash__") h11 t11 .none, en (Str.ofString "__static_attributes__") h12 t12 (.ref (ST + 8))] n) :: ((BT + 8), tupN [.type "object"]) :: ((SL + 8), listOf #[.str (Str.ofString "obj") ts] 0) :: ((ST + 8), tupN [.str (Str.ofString "obj") tst]) :: ((f0 + 8), ⟨.type "function", none, .func F0, #[]⟩) :: ((f1 + 8), ⟨.type "function", none, .func F1, #[]⟩) :: ((f2 + 8), ⟨.type "function", none, .func F2, #[]⟩) :: ((f3 + 8), ⟨.type "function", none, .func F3, #[]⟩) :: ((f4 + 8), ⟨.type "function", none, .func F4, #[]⟩) :: ((f5 + 8), ⟨.type "function", none, .func F5, #[]⟩) :: news))
    (hlo : 8 ≤ g.objs.size) {K : Frag} (X : K.In g) (hop : nsIn K cStatics "thirdparty.any" = some none) (hq : ∀ (h' : Heap) (D1 D2 D3 D4 D5 D6 : Nat), Led g L m h' ((((D6 + 8), ⟨(.type "builtin_function_or_method"), none, .fields (List.toArray [(.builtin "object.__init_subclass__"), (.ref (D3 + 8))]), List.toArray []⟩) :: ((D5 + 8), ⟨(.type "super"), none, .fields (List.toArray [(.ref (D3 + 8)), (.ref (D3 + 8)), (.ref (D3 + 8))]), List.toArray []⟩) :: ((D4 + 8), ⟨(.type "member_descriptor"), none, .fields (List.toArray [(.str (Str.ofString "obj") t), (.ref (D3 + 8)), (.builtin "proto.slot"), (.builtin "proto.slot#set"), (.int 0 0)]), List.toArray []⟩) :: ((D3 + 8), clsK (D3 + 8) (D2 + 8) (BT + 8) t0 tq) :: ((D2 + 8), ⟨(.type "dict"), none, .dict (List.toArray (⟨h1, (.str (Str.ofString "__module__") t1), (.str (Str.ofString "cpy313.functools") tm)⟩ :: eA h3 h4 h5 h6 h7 h8 h9 h10 h11 h12 t3 t4 t5 t6 t7 t8 t9 t10 t11 t12 tl SL ST f0 f1 f2 f3 f4 f5 [⟨nh w (Str.ofString "obj"), (.str (Str.ofString "obj") (t + 1)), (.ref (D4 + 8))⟩, ⟨nh w (Str.ofString "__doc__"), (.str (Str.ofString "__doc__") (t + 2)), .none⟩])) 3, List.toArray []⟩) :: ((D1 + 8), ⟨(.type "list"), none, .seq (List.toArray [(.str (Str.ofString "obj") ts)]) 1, List.toArray []⟩) :: ((NS + 8), ⟨(.type "dict"), none, .dict (List.toArray (⟨h1, (.str (Str.ofString "__module__") t1), (.str (Str.ofString "cpy313.functools") tm)⟩ :: ⟨h2, (.str (Str.ofString "__qualname__") t2), (.str (Str.ofString "cmp_to_key.<locals>.K") tq)⟩ :: eA h3 h4 h5 h6 h7 h8 h9 h10 h11 h12 t3 t4 t5 t6 t7 t8 t9 t10 t11 t12 tl SL ST f0 f1 f2 f3 f4 f5 [])) n, List.toArray []⟩) :: eB BT SL ST ts tst f0 f1 f2 f3 f4 f5 F0 F1 F2 F3 F4 F5) ++ news) → Q (.done (.ret (.ref (D3 + 8)))) ⟨h', gs, d, t + 4, os⟩) :
    wpAny (model prog w) A (Builtin.«type.__new__» ⟨[.type "type", .str (Str.ofString "K") t0, .ref (BT + 8), .ref (NS + 8)], []⟩) Q E ⟨h, gs, d, t, os⟩ := by
  let EA : List DictEntry → List DictEntry := eA h3 h4 h5 h6 h7 h8 h9 h10 h11 h12 t3 t4 t5 t6 t7 t8 t9 t10 t11 t12 tl SL ST f0 f1 f2 f3 f4 f5
  let EB : List (Addr × Obj) := eB BT SL ST ts tst f0 f1 f2 f3 f4 f5 F0 F1 F2 F3 F4 F5
  let EC : List DictEntry → List DictEntry := fun r => ⟨h1, (.str (Str.ofString "__module__") t1), (.str (Str.ofString "cpy313.functools") tm)⟩ :: ⟨h2, (.str (Str.ofString "__qualname__") t2), (.str (Str.ofString "cmp_to_key.<locals>.K") tq)⟩ :: EA r
  refine go_let ?_
  intro T1_
  refine go_use kn0 hlo 3000 0 [1,0,1,0,0,2] H fun vars hv hx => ?_
  obtain rfl := vars0 hv
  refine go_call1 (as := [(SL + 8), (NS + 8), (NS + 8), (BT + 8), (NS + 8), (BT + 8)]) (led := (((NS + 8), ⟨(.type "dict"), none, .dict (List.toArray (EC [])) n, List.toArray []⟩) :: EB) ++ news) (tk := t) (c := .builtin "proto.collect" ⟨[(.ref (SL + 8))], []⟩) (by kernel_rfl) fun h H => ?_
  refine codeAny_builtin PySem.F.entry_proto_collect ?_
  refine go_let ?_
  intro T2_
  refine go_use kn0 hlo 3000 1 [] H fun vars hv hx => ?_
  obtain ⟨D1, rfl⟩ := vars1 hv hx
  refine go_end1 (as := []) (led := (((D1 + 8), ⟨(.type "list"), none, .seq (List.toArray []) 0, List.toArray []⟩) :: ((NS + 8), ⟨(.type "dict"), none, .dict (List.toArray (EC [])) n, List.toArray []⟩) :: EB) ++ news) (tk := t) (t := pure (.again (.builtin "list.__iadd__" ⟨[.ref (D1 + 8), .ref (SL + 8)], []⟩))) (by kernel_rfl) fun h H => ?_
  refine wpAny_pure ⟨Code.quiet_builtin _ (by decide +kernel), codeAny_builtin entry_list_iadd' ?_⟩
  refine iadd_led H (.tail _ (.tail _ (.head _))) fun h H => ?_
  dsimp only
  refine go_let ?_
  intro T3_
  refine go_use kn0 hlo 16 2 [0,0,0,0,0,0,0,1,1,1,1,1,1,1] H fun vars hv hx => ?_
  obtain ⟨D2, D3, rfl⟩ := vars2 hv hx
  refine go_stop1 (as := [(D2 + 8), (D2 + 8), (D2 + 8), (D2 + 8), (D2 + 8), (D2 + 8), (D2 + 8), (D3 + 8), (D3 + 8), (D3 + 8), (D2 + 8), (D2 + 8), (D2 + 8), (D1 + 8)]) (led := (((D3 + 8), ⟨(.type "type"), none, Data.cls { name := Str.ofString "K", bases := [Value.type "object"], mro := [], ns := D2 + 8, qualname := Str.ofString "cmp_to_key.<locals>.K" }, List.toArray [some (.ref (BT + 8)), none, some (.str (Str.ofString "K") t0), some (.str (Str.ofString "cmp_to_key.<locals>.K") tq)]⟩) :: ((D2 + 8), ⟨(.type "dict"), none, .dict (List.toArray (⟨h1, (.str (Str.ofString "__module__") t1), (.str (Str.ofString "cpy313.functools") tm)⟩ :: EA [])) 1, List.toArray []⟩) :: ((D1 + 8), ⟨(.type "list"), none, .seq (List.toArray [(.str (Str.ofString "obj") ts)]) 1, List.toArray []⟩) :: ((NS + 8), ⟨(.type "dict"), none, .dict (List.toArray (EC [])) n, List.toArray []⟩) :: EB) ++ news) (tk := t) (by kernel_rfl) fun h H => ?_
  with_unfolding_all refine stuck_bind (X := List.anyM _ (List.filter _ _)) ?_
  rw [show List.filter (fun x => x != Value.ref (D3 + 8)) (Value.ref (D3 + 8) :: (fun x => Value.type "object" :: x) []) = [Value.type "object"] from by simp]
  refine wpAny_of_eq (a := false) (by kernel_rfl) ?_
  refine go_let ?_
  intro T4_
  refine go_use kn0 hlo 3000 1 [0,0,0,0,0,0,0,1,1,2,2,2,1,1,1,1,2,2,2,2,2,2,2,6,8,9,10,11,12,13,7,0] H fun vars hv hx => ?_
  obtain ⟨D4, rfl⟩ := vars1 hv hx
  let LL : List (Addr × Obj) := ((D4 + 8), ⟨(.type "member_descriptor"), none, .fields (List.toArray [(.str (Str.ofString "obj") t), (.ref (D3 + 8)), (.builtin "proto.slot"), (.builtin "proto.slot#set"), (.int 0 0)]), List.toArray []⟩) :: ((D3 + 8), clsK (D3 + 8) (D2 + 8) (BT + 8) t0 tq) :: ((D2 + 8), ⟨(.type "dict"), none, .dict (List.toArray (⟨h1, (.str (Str.ofString "__module__") t1), (.str (Str.ofString "cpy313.functools") tm)⟩ :: EA [⟨nh w (Str.ofString "obj"), (.str (Str.ofString "obj") (t + 1)), (.ref (D4 + 8))⟩, ⟨nh w (Str.ofString "__doc__"), (.str (Str.ofString "__doc__") (t + 2)), .none⟩])) 3, List.toArray []⟩) :: ((D1 + 8), ⟨(.type "list"), none, .seq (List.toArray [(.str (Str.ofString "obj") ts)]) 1, List.toArray []⟩) :: ((NS + 8), ⟨(.type "dict"), none, .dict (List.toArray (EC [])) n, List.toArray []⟩) :: EB
  refine go_call1 (as := [(D4 + 8), (ST + 8), (f5 + 8), (f4 + 8), (f3 + 8), (f2 + 8), (f1 + 8), (f0 + 8), (SL + 8), (D2 + 8), (D2 + 8), (D2 + 8), (D2 + 8), (D2 + 8), (D2 + 8), (D2 + 8), (D3 + 8), (D3 + 8), (D3 + 8), (D3 + 8), (D2 + 8), (D2 + 8), (D2 + 8), (D2 + 8), (D2 + 8), (D3 + 8), (D3 + 8), (D3 + 8), (D3 + 8), (D3 + 8), (D3 + 8), (D3 + 8)]) (led := (LL) ++ news) (tk := (t + 3)) (c := .call (.type "super") ⟨[(.ref (D3 + 8)), (.ref (D3 + 8))], []⟩) (by kernel_rfl) fun h H => ?_
  refine codeAny_of_tree ?_
  show wpAny _ _ (callAny (.type "super") _) _ _ _
  refine wpAny_pure ⟨Code.quiet_builtin _ (by decide +kernel), codeAny_builtin PySem.F.entry_type_call ?_⟩
  refine go_let ?_
  intro T5_
  refine go_use kn0 hlo 3000 0 [1] H fun vars hv hx => ?_
  obtain rfl := vars0 hv
  refine go_call1 (as := [(D3 + 8)]) (led := (LL) ++ news) (tk := (t + 3)) (c := .call (.builtin "super.__new__") ⟨[(.type "super"), (.ref (D3 + 8)), (.ref (D3 + 8))], []⟩) (by kernel_rfl) fun h H => ?_
  refine codeAny_of_tree ?_
  show wpAny _ _ (do checkBuiltinCall "super.__new__" ⟨[.type "super", .ref (D3 + 8), .ref (D3 + 8)], []⟩; again (.builtin "super.__new__" ⟨[.type "super", .ref (D3 + 8), .ref (D3 + 8)], []⟩)) _ _ _
  refine wpAny_bind (wpAny_of_eq (PySem.F.ks_newCall_super _ _) (wpAny_pure ⟨plainId_quiet PySem.F.ks_plain_super_new _, codeAny_builtin PySem.F.ks_entry_super_new ?_⟩))
  refine go_let ?_
  intro T6_
  refine go_use kn0 hlo 3000 1 [] H fun vars hv hx => ?_
  obtain ⟨D5, rfl⟩ := vars1 hv hx
  refine go_end1 (as := []) (led := (((D5 + 8), ⟨(.type "super"), none, .fields (List.toArray [.none, .none, .none]), List.toArray []⟩) :: LL) ++ news) (tk := (t + 3)) (t := pure (.done (.ret (.ref (D5 + 8))))) (by kernel_rfl) fun h H => ?_
  refine wpAny_pure ?_
  dsimp only
  refine go_let ?_
  intro T7_
  refine go_use kn0 hlo 3000 0 [0,0] H fun vars hv hx => ?_
  obtain rfl := vars0 hv
  refine go_call1 (as := [(D5 + 8), (D5 + 8)]) (led := (((D5 + 8), ⟨(.type "super"), none, .fields (List.toArray [.none, .none, .none]), List.toArray []⟩) :: LL) ++ news) (tk := (t + 3)) (c := .call (.builtin "super.__init__") ⟨[(.ref (D5 + 8)), (.ref (D3 + 8)), (.ref (D3 + 8))], []⟩) (by kernel_rfl) fun h H => ?_
  refine codeAny_of_tree ?_
  show wpAny _ _ (callAny (.builtin "super.__init__") _) _ _ _
  refine go_let ?_
  intro T8_
  refine go_use kn0 hlo 3000 0 [0] H fun vars hv hx => ?_
  obtain rfl := vars0 hv
  refine go_end1 (as := [(D5 + 8)]) (led := (((D5 + 8), ⟨(.type "super"), none, .fields (List.toArray [.none, .none, .none]), List.toArray []⟩) :: LL) ++ news) (tk := (t + 3)) (t := pure (.again (.builtin "super.__init__" ⟨[.ref (D5 + 8), .ref (D3 + 8), .ref (D3 + 8)], []⟩))) (by kernel_rfl) fun h H => ?_
  refine wpAny_pure ⟨Code.quiet_builtin _ (by decide +kernel), codeAny_builtin PySem.F.ks_entry_super_init ?_⟩
  refine super_init_led H (.tail _ (.head _)) rfl rfl fun h H => ?_
  dsimp only
  refine go_let ?_
  intro T9_
  refine go_use kn0 hlo 3000 0 [] H fun vars hv hx => ?_
  obtain rfl := vars0 hv
  refine go_end1 (as := []) (led := (((D5 + 8), ⟨(.type "super"), none, .fields (List.toArray [(.ref (D3 + 8)), (.ref (D3 + 8)), (.ref (D3 + 8))]), List.toArray []⟩) :: LL) ++ news) (tk := (t + 3)) (t := pure (.done (.ret (.ref (D5 + 8))))) (by kernel_rfl) fun h H => ?_
  refine wpAny_pure ?_
  dsimp only
  refine go_let ?_
  intro T10_
  refine go_use kn0 hlo 3000 0 [0] H fun vars hv hx => ?_
  obtain rfl := vars0 hv
  refine go_call1 (as := [(D5 + 8)]) (led := (((D5 + 8), ⟨(.type "super"), none, .fields (List.toArray [(.ref (D3 + 8)), (.ref (D3 + 8)), (.ref (D3 + 8))]), List.toArray []⟩) :: LL) ++ news) (tk := (t + 4)) (c := .call (.builtin "super.__getattribute__") ⟨[(.ref (D5 + 8)), (.str (Str.ofString "__init_subclass__") (t + 3))], []⟩) (by kernel_rfl) fun h H => ?_
  refine codeAny_of_tree ?_
  show wpAny _ _ (callAny (.builtin "super.__getattribute__") _) _ _ _
  refine go_let ?_
  intro T11_
  refine go_use kn0 hlo 3000 0 [0] H fun vars hv hx => ?_
  obtain rfl := vars0 hv
  refine go_end1 (as := [(D5 + 8)]) (led := (((D5 + 8), ⟨(.type "super"), none, .fields (List.toArray [(.ref (D3 + 8)), (.ref (D3 + 8)), (.ref (D3 + 8))]), List.toArray []⟩) :: LL) ++ news) (tk := (t + 4)) (t := pure (.again (.builtin "super.__getattribute__" ⟨[.ref (D5 + 8), .str (Str.ofString "__init_subclass__") (t + 3)], []⟩))) (by kernel_rfl) fun h H => ?_
  refine wpAny_pure ⟨Code.quiet_builtin _ (by decide +kernel), codeAny_builtin PySem.F.ks_entry_super_ga ?_⟩
  refine super_ga_led H (.tail _ (.head _)) rfl rfl (looks_opaque (X.keeps H.F.keep) hop) ?_
  refine codeAny_of_tree ?_
  show wpAny _ _ (callAny (.builtin "classmethod_descriptor.__get__") _) _ _ _
  refine go_let ?_
  intro T12_
  refine go_use kn0 hlo 3000 0 [] H fun vars hv hx => ?_
  obtain rfl := vars0 hv
  refine go_end1 (as := []) (led := (((D5 + 8), ⟨(.type "super"), none, .fields (List.toArray [(.ref (D3 + 8)), (.ref (D3 + 8)), (.ref (D3 + 8))]), List.toArray []⟩) :: LL) ++ news) (tk := (t + 4)) (t := pure (.again (.builtin "classmethod_descriptor.__get__" ⟨[.builtin "object.__init_subclass__", .none, .ref (D3 + 8)], []⟩))) (by kernel_rfl) fun h H => ?_
  refine wpAny_pure ⟨Code.quiet_builtin _ (by decide +kernel), codeAny_builtin cm_entry_cmget ?_⟩
  refine go_let ?_
  intro T13_
  refine go_use kn0 hlo 3000 1 [2,2] H fun vars hv hx => ?_
  obtain ⟨D6, rfl⟩ := vars1 hv hx
  refine go_end1 (as := [(D3 + 8), (D3 + 8)]) (led := (((D6 + 8), ⟨(.type "builtin_function_or_method"), none, .fields (List.toArray [(.builtin "object.__init_subclass__"), (.ref (D3 + 8))]), List.toArray []⟩) :: ((D5 + 8), ⟨(.type "super"), none, .fields (List.toArray [(.ref (D3 + 8)), (.ref (D3 + 8)), (.ref (D3 + 8))]), List.toArray []⟩) :: LL) ++ news) (tk := (t + 4)) (t := pure (.done (.ret (.ref (D6 + 8))))) (by kernel_rfl) fun h H => ?_
  refine wpAny_pure ?_
  dsimp only
  refine go_let ?_
  intro T14_
  refine go_use kn0 hlo 3000 0 [] H fun vars hv hx => ?_
  obtain rfl := vars0 hv
  refine go_call1 (as := []) (led := (((D6 + 8), ⟨(.type "builtin_function_or_method"), none, .fields (List.toArray [(.builtin "object.__init_subclass__"), (.ref (D3 + 8))]), List.toArray []⟩) :: ((D5 + 8), ⟨(.type "super"), none, .fields (List.toArray [(.ref (D3 + 8)), (.ref (D3 + 8)), (.ref (D3 + 8))]), List.toArray []⟩) :: LL) ++ news) (tk := (t + 4)) (c := .call (.ref (D6 + 8)) ⟨[], []⟩) (by kernel_rfl) fun h H => ?_
  refine codeAny_of_tree ?_
  show wpAny _ _ (callAny (.ref (D6 + 8)) _) _ _ _
  refine go_let ?_
  intro T15_
  refine go_use kn0 hlo 3000 0 [0,3,3,3,3] H fun vars hv hx => ?_
  obtain rfl := vars0 hv
  refine go_end1 (as := [(D3 + 8), (D3 + 8), (D3 + 8), (D3 + 8), (D6 + 8)]) (led := (((D6 + 8), ⟨(.type "builtin_function_or_method"), none, .fields (List.toArray [(.builtin "object.__init_subclass__"), (.ref (D3 + 8))]), List.toArray []⟩) :: ((D5 + 8), ⟨(.type "super"), none, .fields (List.toArray [(.ref (D3 + 8)), (.ref (D3 + 8)), (.ref (D3 + 8))]), List.toArray []⟩) :: LL) ++ news) (tk := (t + 4)) (t := pure (.again (.builtin "object.__init_subclass__" ⟨[.ref (D3 + 8)], []⟩))) (by kernel_rfl) fun h H => ?_
  refine wpAny_pure ⟨Code.quiet_builtin _ (by decide +kernel), codeAny_builtin cm_entry_isub ?_⟩
  show wpAny _ _ (pure (PySem.Fin.done (.ret .none)) : Sem PySem.Fin) _ _ _
  refine wpAny_pure ?_
  dsimp only
  refine go_let ?_
  intro T16_
  refine go_use kn0 hlo 3000 0 [] H fun vars hv hx => ?_
  obtain rfl := vars0 hv
  refine go_end1 (as := []) (led := (((D6 + 8), ⟨(.type "builtin_function_or_method"), none, .fields (List.toArray [(.builtin "object.__init_subclass__"), (.ref (D3 + 8))]), List.toArray []⟩) :: ((D5 + 8), ⟨(.type "super"), none, .fields (List.toArray [(.ref (D3 + 8)), (.ref (D3 + 8)), (.ref (D3 + 8))]), List.toArray []⟩) :: LL) ++ news) (tk := (t + 4)) (t := pure (.done (.ret (.ref (D3 + 8))))) (by kernel_rfl) fun h H => ?_
  exact wpAny_pure (hq _ _ _ _ _ _ _ H)
end
end Mine
end
section
open PySem PySem.W PySem.Calls PyProof.Rows
namespace Mine
noncomputable abbrev pQ : Program := PySem.Challenge.rw_kt0042_01.row.prog
noncomputable abbrev envK (l : Nat) : Env := envOfC (Str.ofString "cmp_to_key") { kind := ScopeKind.function, names := [(Str.ofString "mycmp", NameKind.cell), (Str.ofString "K", NameKind.local), (Str.ofString "object", NameKind.globalImplicit)], isGenerator := false, isCoroutine := false } (l + 8) 198 (Value.ref 197)
noncomputable def clsStmt (P : Params) : Stmt := match (o198 P).data with
  | .func f => match f.body with
    | .stmts (s :: _) => s
    | _ => .Pass default
  | _ => .Pass default
noncomputable def knK (w : World) : List (Addr × Obj) := [(0, ob0 w.params), (2, ob2 w.params), (3, ob3 w.params), (4, ob4 w.params), (197, ob197 w.params)]
noncomputable def runK {α : Type} (w : World) (t : Sem α) (led : List (Addr × Obj)) (tk : Tok) (vars : List Addr) (script : List Nat) : Sem α × GS := go (knK w) ⟨pQ, w.params⟩ 3000 t ⟨led, tk, vars, script, [], true⟩
noncomputable abbrev dictE : Obj := ⟨.type "dict", none, .dict (List.toArray []) 0, List.toArray []⟩
noncomputable abbrev bfm (b : String) (v : Value) : Obj := ⟨.type "builtin_function_or_method", none, .fields (List.toArray [.builtin b, v]), List.toArray []⟩
noncomputable abbrev tabE : Obj := ⟨.none, none, .fields (List.toArray []), List.toArray []⟩
noncomputable abbrev ledA (l : Nat) (o1 : Obj) : List (Addr × Obj) := [(l + 9, o1), (193, tabE)]
noncomputable abbrev ledB (l : Nat) (o1 : Obj) (D1 : Nat) : List (Addr × Obj) := (D1 + 8, tupN [.type "object"]) :: ledA l o1
noncomputable abbrev ledC (l : Nat) (o1 : Obj) (D1 D2 : Nat) : List (Addr × Obj) := (D2 + 8, bfm "type.__prepare__" (.type "type")) :: ledB l o1 D1
noncomputable def T1 (w : World) (l : Nat) (o1 : Obj) (tk0 D1 : Nat) : Result → Sem Flow := callK (runK w (exec (clsStmt w.params) (envK l)) (ledA l o1) tk0 [D1 + 8] [0,2,0]).1
noncomputable def T2 (w : World) (l : Nat) (o1 : Obj) (tk0 D1 D2 : Nat) : Result → Sem Flow := callK (runK w (T1 w l o1 tk0 D1 (.ok (.ret (.ref (D2 + 8))))) (ledC l o1 D1 D2) (tk0 + 2) [] []).1
section
variable {w : World} {A : Around} {E : Value → Shared → Prop} {Q : Flow → Shared → Prop} {g h : Heap} {gs : Array GenState} {d : Drawn} {os : OsState} {m : Str → Option Value} {l tk0 : Nat} {o1 : Obj}
set_option cleanup.letToHave false in
theorem seg_prep (hkn : ∀ p ∈ knK w, g.get? p.1 = some p.2) (hlo : 8 ≤ g.objs.size) (H : Led g (l + 8) m h (ledA l o1))
    (hq : ∀ (D1 D2 D3 : Nat) h', Led g (l + 8) m h' ((D3 + 8, dictE) :: ledC l o1 D1 D2) → wpAny (model pQ w) A (T2 w l o1 tk0 D1 D2 (.ok (.ret (.ref (D3 + 8))))) Q E ⟨h', gs, d, tk0 + 2, os⟩) :
    wpAny (model pQ w) A (exec (clsStmt w.params) (envK l)) Q E ⟨h, gs, d, tk0, os⟩ := by
  refine go_use hkn hlo 3000 1 [0,2,0] H fun vars hv hx => ?_
  obtain ⟨D1, rfl⟩ := vars1 hv hx
  refine go_callN (as := [0,3,0]) (led := ledB l o1 D1) (tk := tk0 + 2) (c := .call (.builtin "type.__getattribute__") ⟨[(.type "type"), (.str (Str.ofString "__prepare__") (tk0 + 1))], []⟩) (T1 w l o1 tk0 D1) (by kernel_rfl) (by kernel_rfl) fun h H => ?_
  refine codeAny_call_builtin_code (Code.quiet_builtin _ (by decide +kernel)) (wpAny_of_eq (show checkBuiltinCall "type.__getattribute__" _ = pure () by kernel_rfl) (codeAny_builtin cm_entry_tga ?_))
  refine go_let ?_
  intro T
  refine go_use hkn hlo 3000 0 [] H fun vars hv hx => ?_
  obtain rfl := vars0 hv
  refine go_call1 (as := []) (led := ledB l o1 D1) (tk := tk0 + 2) (c := .call (.builtin "classmethod_descriptor.__get__") ⟨[(.builtin "type.__prepare__"), .none, (.type "type")], []⟩) (by kernel_rfl) fun h H => ?_
  refine codeAny_call_builtin_code (Code.quiet_builtin _ (by decide +kernel)) (wpAny_of_eq (show checkBuiltinCall "classmethod_descriptor.__get__" _ = pure () by kernel_rfl) (codeAny_builtin cm_entry_cmget ?_))
  refine go_use hkn hlo 3000 1 [] H fun vars hv hx => ?_
  obtain ⟨D2, rfl⟩ := vars1 hv hx
  refine go_end1 (as := []) (led := ledC l o1 D1 D2) (tk := tk0 + 2) (t := pure (.done (.ret (.ref (D2 + 8))))) (by kernel_rfl) fun h H => ?_
  refine wpAny_pure ?_
  dsimp only
  refine go_use hkn hlo 3000 0 [] H fun vars hv hx => ?_
  obtain rfl := vars0 hv
  refine go_end1 (as := []) (led := ledC l o1 D1 D2) (tk := tk0 + 2) (t := pure (.done (.ret (.ref (D2 + 8))))) (by kernel_rfl) fun h H => ?_
  clear T
  refine wpAny_pure ?_
  dsimp only
  refine go_use hkn hlo 3000 0 [] H fun vars hv hx => ?_
  obtain rfl := vars0 hv
  refine go_callN (as := []) (led := ledC l o1 D1 D2) (tk := tk0 + 2) (c := .call (.ref (D2 + 8)) ⟨[(.str (Str.ofString "K") tk0), (.ref (D1 + 8))], []⟩) (T2 w l o1 tk0 D1 D2) (by kernel_rfl) (by kernel_rfl) fun h H => ?_
  refine codeAny_of_tree ?_
  show wpAny _ _ (callAny (.ref (D2 + 8)) _) _ _ _
  refine go_use hkn hlo 3000 0 [5] H fun vars hv hx => ?_
  obtain rfl := vars0 hv
  refine go_end1 (as := [(D2 + 8)]) (led := ledC l o1 D1 D2) (tk := tk0 + 2) (t := pure (.again (.builtin "type.__prepare__" ⟨[.type "type", .str (Str.ofString "K") tk0, .ref (D1 + 8)], []⟩))) (by kernel_rfl) fun h H => ?_
  refine wpAny_pure ⟨Code.quiet_builtin _ (by decide +kernel), codeAny_builtin cm_entry_tprep ?_⟩
  refine go_use hkn hlo 3000 1 [] H fun vars hv hx => ?_
  obtain ⟨D3, rfl⟩ := vars1 hv hx
  refine go_end1 (as := []) (led := (D3 + 8, dictE) :: ledC l o1 D1 D2) (tk := tk0 + 2) (t := pure (.done (.ret (.ref (D3 + 8))))) (by kernel_rfl) fun h H => ?_
  refine wpAny_pure ?_
  dsimp only
  exact hq D1 D2 D3 _ H
end
end Mine
end
section
open PySem PySem.W PySem.Calls PyProof.Rows
namespace Mine
noncomputable abbrev strV (s : String) (t : Tok) : Value := .str (Str.ofString s) t
noncomputable abbrev codeK (tk0 D4 D5 : Nat) : Obj := ⟨.type "code", none, .fields (List.toArray [strV "K" (tk0 + 2), strV "cmp_to_key.<locals>.K" (tk0 + 3), strV "/claim/cut.py" (tk0 + 4), .int 175 0, .int 0 0, .int 0 0, .int 0 0, .int 0 0, .ref (D4 + 8), .bool true, .int 181 0, .ref (D5 + 8), .none, .none, .none, .none, .int (Int.ofNat (tk0 + 6)) 0, .int 175 0, strV "/claim/cut.py" (tk0 + 7)]), List.toArray []⟩
noncomputable abbrev frameK (D3 D6 : Nat) : Obj := ⟨.type "frame", none, .plain, List.toArray [some (.ref (D6 + 8)), some (.ref 3), some (.ref (D3 + 8)), none, some (strV "law_kt0042_01" 506), none, some (.ref 0)]⟩
noncomputable abbrev tab1 (D6 : Nat) : Obj := ⟨.none, none, .fields (List.toArray [.int 175 0, .int 4 0, .ref (D6 + 8)]), List.toArray []⟩
noncomputable abbrev ledD (l : Nat) (o1 : Obj) (tk0 D1 D3 D4 D5 D6 D7 : Nat) (nsO tabO : Obj) : List (Addr × Obj) := [(D7 + 8, frameK D3 D6), (D6 + 8, codeK tk0 D4 D5), (D5 + 8, tabO), (D4 + 8, tupN [strV "mycmp" (tk0 + 5)]), (D3 + 8, nsO), (D1 + 8, tupN [.type "object"]), (l + 9, o1), (193, tab1 D6)]
noncomputable def S3 (w : World) (l : Nat) (o1 : Obj) (tk0 D1 D2 D3 D4 D5 D6 D7 : Nat) : Sem Flow := (runK w (T2 w l o1 tk0 D1 D2 (.ok (.ret (.ref (D3 + 8))))) ((D3 + 8, dictE) :: ledB l o1 D1) (tk0 + 2) [D4 + 8, D5 + 8, D6 + 8, D7 + 8] [5,4,8,11,6,11,2,3,2]).1
noncomputable def clsBody (P : Params) : List Stmt := match clsStmt P with
  | .ClassDef _ _ _ b .. => b
  | _ => []
noncomputable def clsScope (P : Params) : Scope := match clsStmt P with
  | .ClassDef _ _ _ _ _ _ s .. => s
  | _ => default
noncomputable abbrev envC (P : Params) (l D3 D6 D7 : Nat) : Env := { scope := clsScope P, locals := D3 + 8, globals := (envK l).globals, cells := [(Str.ofString "mycmp", l + 9)], qual := Str.ofString "cmp_to_key.<locals>.K.", code := .ref (D6 + 8), frame := some (D7 + 8) }
noncomputable abbrev ns3 (w : World) (tk0 : Nat) : List DictEntry := [en (Str.ofString "__module__") (nh w (Str.ofString "__module__")) (tk0 + 8) (strV "law_kt0042_01" 506), en (Str.ofString "__qualname__") (nh w (Str.ofString "__qualname__")) (tk0 + 10) (strV "cmp_to_key.<locals>.K" (tk0 + 9)), en (Str.ofString "__firstlineno__") (nh w (Str.ofString "__firstlineno__")) (tk0 + 12) (.int 175 (tk0 + 11))]
noncomputable abbrev bodyScript : List Nat := [9,9,4,10,10,5,7,8,14,9,14,2,3,2,17,17,12,15,16,22,17,22,2,3,2,25,25,20,23,24,30,25,30,2,3,2,33,33,28,31,32,38,33,38,2,3,2,41,41,36,39,40,46,41,46,2,3,2,49,49,44,47,48,54,49,54,2,3,2,57,57,52,57,57,52]
noncomputable def bodyR (w : World) (l : Nat) (o1 : Obj) (tk0 D1 D3 D4 D5 D6 D7 : Nat) (f : Nat → Nat) : Sem Flow × GS := runK w (execs (clsBody w.params) (envC w.params l D3 D6 D7)) (ledD l o1 tk0 D1 D3 D4 D5 D6 D7 (dobj (ns3 w tk0) 3) tabE) (tk0 + 13) ((List.range 48).map fun i => f i + 8) bodyScript
section
variable {w : World} {A : Around} {E : Value → Shared → Prop} {Q : Flow → Shared → Prop} {g h : Heap} {gs : Array GenState} {d : Drawn} {os : OsState} {m : Str → Option Value} {l tk0 D1 D2 D3 D4 D5 D6 D7 : Nat} {o1 : Obj}
theorem seg_frame (hkn : ∀ p ∈ knK w, g.get? p.1 = some p.2) (hlo : 8 ≤ g.objs.size) (H : Led g (l + 8) m h ((D3 + 8, dictE) :: ledB l o1 D1))
    (hq : ∀ (D4 D5 D6 D7 : Nat) h', Led g (l + 8) m h' (ledD l o1 tk0 D1 D3 D4 D5 D6 D7 dictE tabE) → wpAny (model pQ w) A (S3 w l o1 tk0 D1 D2 D3 D4 D5 D6 D7) Q E ⟨h', gs, d, tk0 + 8, os⟩) :
    wpAny (model pQ w) A (T2 w l o1 tk0 D1 D2 (.ok (.ret (.ref (D3 + 8))))) Q E ⟨h, gs, d, tk0 + 2, os⟩ := by
  refine go_use hkn hlo 3000 4 [5,4,8,11,6,11,2,3,2] H fun vars hv hx => ?_
  obtain ⟨D4, D5, D6, D7, rfl⟩ := vars4 hv hx
  refine go_stopN (as := [3,4,3,193,193,193,193,197, (D3 + 8)]) (led := ledD l o1 tk0 D1 D3 D4 D5 D6 D7 dictE tabE) (tk := tk0 + 8) (S3 w l o1 tk0 D1 D2 D3 D4 D5 D6 D7) (by kernel_rfl) (by kernel_rfl) fun h H => ?_
  exact hq D4 D5 D6 D7 _ H
theorem body_run {Q : Flow → Shared → Prop} (hkn : ∀ p ∈ knK w, g.get? p.1 = some p.2) (hlo : 8 ≤ g.objs.size) (H : Led g (l + 8) m h (ledD l o1 tk0 D1 D3 D4 D5 D6 D7 (dobj (ns3 w tk0) 3) tabE))
    (hq : ∀ f h', Led g (l + 8) m h' (bodyR w l o1 tk0 D1 D3 D4 D5 D6 D7 f).2.led → Q .next ⟨h', gs, d, tk0 + 71, os⟩) :
    wpAny (model pQ w) A (execs (clsBody w.params) (envC w.params l D3 D6 D7)) Q E ⟨h, gs, d, tk0 + 13, os⟩ := by
  refine go_use hkn hlo 3000 48 bodyScript H fun vars hv hx => ?_
  obtain ⟨f, rfl⟩ := varsF hv hx
  exact go_endL (t := pure .next) (by kernel_rfl) fun h' H' => wpAny_pure (hq f h' H')
end
end Mine
end
section
open PySem PySem.W PySem.Calls PyProof.Rows
namespace Mine
noncomputable def funcOf (o : Obj) : FuncData := match o.data with
  | .func f => f
  | _ => default
noncomputable def fnK (w : World) (l : Nat) (o1 : Obj) (tk0 D1 D3 D4 D5 D6 D7 : Nat) (f : Nat → Nat) (i : Nat) : FuncData := funcOf (((bodyR w l o1 tk0 D1 D3 D4 D5 D6 D7 f).2.led[i]?.map (·.2)).getD default)
noncomputable abbrev ns11 (w : World) (tk0 : Nat) (f : Nat → Nat) : List DictEntry := [en (Str.ofString "__module__") (nh w (Str.ofString "__module__")) (tk0 + 8) (strV "cpy313.functools" (tk0 + 13)), en (Str.ofString "__qualname__") (nh w (Str.ofString "__qualname__")) (tk0 + 10) (strV "cmp_to_key.<locals>.K" (tk0 + 9)), en (Str.ofString "__firstlineno__") (nh w (Str.ofString "__firstlineno__")) (tk0 + 12) (.int 175 (tk0 + 11)), en (Str.ofString "__slots__") (nh w (Str.ofString "__slots__")) (tk0 + 16) (.ref (f 0 + 8)), en (Str.ofString "__init__") (nh w (Str.ofString "__init__")) (tk0 + 24) (.ref (f 7 + 8)), en (Str.ofString "__lt__") (nh w (Str.ofString "__lt__")) (tk0 + 33) (.ref (f 15 + 8)), en (Str.ofString "__gt__") (nh w (Str.ofString "__gt__")) (tk0 + 42) (.ref (f 23 + 8)), en (Str.ofString "__eq__") (nh w (Str.ofString "__eq__")) (tk0 + 51) (.ref (f 31 + 8)), en (Str.ofString "__le__") (nh w (Str.ofString "__le__")) (tk0 + 60) (.ref (f 39 + 8)), en (Str.ofString "__ge__") (nh w (Str.ofString "__ge__")) (tk0 + 69) (.ref (f 47 + 8)), en (Str.ofString "__hash__") (nh w (Str.ofString "__hash__")) (tk0 + 70) .none]
noncomputable abbrev fnO (F : FuncData) : Obj := ⟨.type "function", none, .func F, #[]⟩
noncomputable abbrev fdI (f : Nat → Nat) : FuncData := { name := Str.ofString "__init__", qualname := Str.ofString "cmp_to_key.<locals>.K.__init__", params := ⟨[], [⟨Str.ofString "self", none, ⟨179,21,179,25⟩⟩, ⟨Str.ofString "obj", none, ⟨179,27,179,30⟩⟩], none, [], [], none, []⟩, body := .stmts [.Assign [.Attribute (.Name (Str.ofString "self") ⟨180,12,180,16⟩) (Str.ofString "obj") ⟨180,12,180,20⟩] (.Name (Str.ofString "obj") ⟨180,23,180,26⟩) ⟨180,12,180,26⟩], scope := ⟨.function, [(Str.ofString "self", .local), (Str.ofString "obj", .local)], false, false, []⟩, globals := 3, closure := [], defaults := .none, kwdefaults := .none, pyModule := strV "law_kt0042_01" 506, code := .ref (f 6 + 8) }
noncomputable abbrev fdL (l : Nat) (f : Nat → Nat) : FuncData := { name := Str.ofString "__lt__", qualname := Str.ofString "cmp_to_key.<locals>.K.__lt__", params := ⟨[], [⟨Str.ofString "self", none, ⟨182,19,182,23⟩⟩, ⟨Str.ofString "other", none, ⟨182,25,182,30⟩⟩], none, [], [], none, []⟩, body := .stmts [.Return (some (.Compare (.Call (.Name (Str.ofString "mycmp") ⟨183,19,183,24⟩) [.Attribute (.Name (Str.ofString "self") ⟨183,25,183,29⟩) (Str.ofString "obj") ⟨183,25,183,33⟩, .Attribute (.Name (Str.ofString "other") ⟨183,35,183,40⟩) (Str.ofString "obj") ⟨183,35,183,44⟩] [] ⟨183,19,183,45⟩) [.Lt] [.Constant (.int 0) 0 ⟨183,48,183,49⟩] ⟨183,19,183,49⟩)) ⟨183,12,183,49⟩], scope := ⟨.function, [(Str.ofString "self", .local), (Str.ofString "other", .local), (Str.ofString "mycmp", .free)], false, false, []⟩, globals := 3, closure := [(Str.ofString "mycmp", l + 9)], defaults := .none, kwdefaults := .none, pyModule := strV "law_kt0042_01" 506, code := .ref (f 14 + 8), closureTuple := .ref (f 8 + 8) }
noncomputable abbrev cdO (n : String) (tk line c0 c1 c2 c3 c4 ti : Nat) : Obj := ⟨.type "code", none, .fields (List.toArray [strV n tk, strV ("cmp_to_key.<locals>.K." ++ n) (tk + 1), strV "/claim/cut.py" (tk + 2), .int line 0, .int 2 0, .int 0 0, .int 0 0, .int 19 0, .ref (c0 + 8), .bool true, .int 181 0, .ref (c1 + 8), .none, .ref (c2 + 8), .ref (c3 + 8), .ref (c4 + 8), .int (Int.ofNat ti) 0, .int line 0, strV "/claim/cut.py" (ti + 1)]), #[]⟩
noncomputable abbrev cdI (tk0 : Nat) (f : Nat → Nat) : Obj := cdO "__init__" (tk0 + 17) 179 (f 1) (f 2) (f 3) (f 4) (f 5) (tk0 + 22)
noncomputable abbrev cdL (tk0 : Nat) (f : Nat → Nat) : Obj := cdO "__lt__" (tk0 + 25) 182 (f 9) (f 10) (f 11) (f 12) (f 13) (tk0 + 31)
noncomputable abbrev ledF (w : World) (l : Nat) (o1 : Obj) (tk0 D1 D3 D4 D5 D6 D7 : Nat) (f : Nat → Nat) : List (Addr × Obj) := [(f 7 + 8, fnO (fdI f)), (f 15 + 8, fnO (fdL l f)), (f 23 + 8, fnO (fnK w l o1 tk0 D1 D3 D4 D5 D6 D7 f 24)), (f 31 + 8, fnO (fnK w l o1 tk0 D1 D3 D4 D5 D6 D7 f 16)), (f 39 + 8, fnO (fnK w l o1 tk0 D1 D3 D4 D5 D6 D7 f 8)), (f 47 + 8, fnO (fnK w l o1 tk0 D1 D3 D4 D5 D6 D7 f 0)), (f 6 + 8, cdI tk0 f), (f 2 + 8, tabE), (f 14 + 8, cdL tk0 f), (f 10 + 8, tabE), (l + 9, o1), (193, tab1 D6)]
noncomputable abbrev ns12 (w : World) (tk0 : Nat) (f : Nat → Nat) (D8 : Nat) : List DictEntry := ns11 w tk0 f ++ [en (Str.ofString "__static_attributes__") (nh w (Str.ofString "__static_attributes__")) (tk0 + 72) (.ref (D8 + 8))]
noncomputable abbrev ledG (w : World) (l : Nat) (o1 : Obj) (tk0 D1 D3 D4 D5 D6 D7 D8 : Nat) (f : Nat → Nat) : List (Addr × Obj) := (D3 + 8, dobj (ns12 w tk0 f D8) 12) :: (D1 + 8, tupN [.type "object"]) :: (f 0 + 8, listOf #[.str (Str.ofString "obj") (tk0 + 15)] 0) :: (D8 + 8, tupN [strV "obj" (tk0 + 71)]) :: ledF w l o1 tk0 D1 D3 D4 D5 D6 D7 f
noncomputable abbrev nsF (w : World) (tk0 : Nat) (f : Nat → Nat) (D8 E4 : Nat) : Obj := dobj [en (Str.ofString "__module__") (nh w (Str.ofString "__module__")) (tk0 + 8) (strV "cpy313.functools" (tk0 + 13)), en (Str.ofString "__firstlineno__") (nh w (Str.ofString "__firstlineno__")) (tk0 + 12) (.int 175 (tk0 + 11)), en (Str.ofString "__slots__") (nh w (Str.ofString "__slots__")) (tk0 + 16) (.ref (f 0 + 8)), en (Str.ofString "__init__") (nh w (Str.ofString "__init__")) (tk0 + 24) (.ref (f 7 + 8)), en (Str.ofString "__lt__") (nh w (Str.ofString "__lt__")) (tk0 + 33) (.ref (f 15 + 8)), en (Str.ofString "__gt__") (nh w (Str.ofString "__gt__")) (tk0 + 42) (.ref (f 23 + 8)), en (Str.ofString "__eq__") (nh w (Str.ofString "__eq__")) (tk0 + 51) (.ref (f 31 + 8)), en (Str.ofString "__le__") (nh w (Str.ofString "__le__")) (tk0 + 60) (.ref (f 39 + 8)), en (Str.ofString "__ge__") (nh w (Str.ofString "__ge__")) (tk0 + 69) (.ref (f 47 + 8)), en (Str.ofString "__hash__") (nh w (Str.ofString "__hash__")) (tk0 + 70) .none, en (Str.ofString "__static_attributes__") (nh w (Str.ofString "__static_attributes__")) (tk0 + 72) (.ref (D8 + 8)), en (Str.ofString "obj") (nh w (Str.ofString "obj")) (tk0 + 73 + 1) (.ref (E4 + 8)), en (Str.ofString "__doc__") (nh w (Str.ofString "__doc__")) (tk0 + 73 + 2) .none] 3
noncomputable abbrev mdO (E3 tk0 : Nat) : Obj := ⟨.type "member_descriptor", none, .fields (List.toArray [strV "obj" (tk0 + 73), .ref (E3 + 8), .builtin "proto.slot", .builtin "proto.slot#set", .int 0 0]), List.toArray []⟩
noncomputable abbrev ledH (w : World) (l : Nat) (o1 : Obj) (tk0 D1 D3 D4 D5 D6 D7 D8 : Nat) (f : Nat → Nat) (E2 E3 E4 : Nat) : List (Addr × Obj) := [(E3 + 8, clsK (E3 + 8) (E2 + 8) (D1 + 8) tk0 (tk0 + 9)), (E2 + 8, nsF w tk0 f D8 E4), (E4 + 8, mdO E3 tk0), (f 7 + 8, fnO (fdI f)), (f 15 + 8, fnO (fdL l f)), (f 6 + 8, cdI tk0 f), (f 2 + 8, tabE), (f 14 + 8, cdL tk0 f), (f 10 + 8, tabE), (l + 9, o1), (193, tab1 D6)]
section
variable {w : World} {A : Around} {E : Value → Shared → Prop} {Q : Flow → Shared → Prop} {g h : Heap} {gs : Array GenState} {d : Drawn} {os : OsState} {m : Str → Option Value} {l tk0 D1 D2 D3 D4 D5 D6 D7 : Nat} {o1 : Obj}
theorem led_body {f : Nat → Nat} (H : Led g (l + 8) m h (bodyR w l o1 tk0 D1 D3 D4 D5 D6 D7 f).2.led) : Led g (l + 8) m h ((D3 + 8, dobj (ns11 w tk0 f) 11) :: (D1 + 8, tupN [.type "object"]) :: (f 0 + 8, listOf #[.str (Str.ofString "obj") (tk0 + 15)] 0) :: ledF w l o1 tk0 D1 D3 D4 D5 D6 D7 f) :=
  H.pick [52,53,47,40,32,24,16,8,0,41,45,33,37,54,55] (by decide) (by kernel_rfl)
set_option cleanup.letToHave false in
theorem seg_enter {K : Frag} (X : K.In g) (hop : nsIn K cStatics "thirdparty.any" = some none) (hkn : ∀ p ∈ knK w, g.get? p.1 = some p.2) (hlo : 8 ≤ g.objs.size) (hl : h.NoLimit) (hd : A.depth < recursionLimit) (H : Led g (l + 8) m h (ledD l o1 tk0 D1 D3 D4 D5 D6 D7 dictE tabE))
    (hq : ∀ (f : Nat → Nat) (D8 E2 E3 E4 : Nat) h', Led g (l + 8) m h' (ledH w l o1 tk0 D1 D3 D4 D5 D6 D7 D8 f E2 E3 E4) → wpAny (model pQ w) A (bindName (envK l) (Str.ofString "K") (.ref (E3 + 8))) (fun _ s' => Q .next s') E ⟨h', gs, d, tk0 + 77, os⟩) :
    wpAny (model pQ w) A (S3 w l o1 tk0 D1 D2 D3 D4 D5 D6 D7) Q E ⟨h, gs, d, tk0 + 8, os⟩ := by
  with_unfolding_all refine stuck_bind (X := Sem.keep _ (Sem.keep _ (Sem.keep _ (Sem.bind (enterFrame 0) _)))) ?_
  refine wpAny_keep (wpAny_keep (wpAny_keep (wpAny_bind (wpAny_enterFrame hl hd ?_))))
  refine go_let ?_
  intro T
  refine go_use hkn hlo 3000 0 [9,9,2,9,9,4,9,9,4,9,9,4] H fun vars hv hx => ?_
  obtain rfl := vars0 hv
  refine go_call1 (as := [(D3 + 8), (D3 + 8), (D3 + 8), (D3 + 8), (D3 + 8), (D3 + 8), (D3 + 8), (D3 + 8), (D3 + 8), 3, (D3 + 8), (D3 + 8)]) (led := ledD l o1 tk0 D1 D3 D4 D5 D6 D7 (dobj (ns3 w tk0) 3) tabE) (tk := tk0 + 13) (c := .body (clsBody w.params) (envC w.params l D3 D6 D7)) (by kernel_rfl) fun h H => ?_
  refine codeAny_body (by kernel_rfl) (by kernel_rfl) (body_run hkn hlo H fun f h H => ?_)
  replace H := led_body H
  refine go_let ?_
  intro T2
  refine go_use hkn hlo 3000 1 [6,6,1] H fun vars hv hx => ?_
  obtain ⟨D8, rfl⟩ := vars1 hv hx
  refine go_call1 (as := [(D3 + 8), (D3 + 8), (D3 + 8)]) (led := (D8 + 8, tupN [strV "obj" (tk0 + 71)]) :: (D3 + 8, dobj (ns12 w tk0 f D8) 12) :: (D1 + 8, tupN [.type "object"]) :: (f 0 + 8, listOf #[.str (Str.ofString "obj") (tk0 + 15)] 0) :: ledF w l o1 tk0 D1 D3 D4 D5 D6 D7 f) (tk := tk0 + 73) (c := .call (.type "type") ⟨[strV "K" tk0, .ref (D1 + 8), .ref (D3 + 8)], []⟩) (by kernel_rfl) fun h H => ?_
  refine code_let ?_
  intro R1
  refine codeAny_of_tree ?_
  show wpAny _ _ (callAny (.type "type") _) _ _ _
  refine go_use hkn hlo 3000 0 [] H fun vars hv hx => ?_
  obtain rfl := vars0 hv
  refine go_endL (tk := tk0 + 73) (t := pure (.again (.builtin "type.__call__" ⟨[.type "type", strV "K" tk0, .ref (D1 + 8), .ref (D3 + 8)], []⟩))) (by kernel_rfl) fun h H => ?_
  replace H := H.pick (news' := ledG w l o1 tk0 D1 D3 D4 D5 D6 D7 D8 f) [1,2,3,0,4,5,6,7,8,9,10,11,12,13,14,15] (by decide) (by kernel_rfl)
  refine wpAny_pure ⟨Code.quiet_builtin _ (by decide +kernel), codeAny_builtin cm_entry_tcall ?_⟩
  refine go_let ?_
  intro T3
  refine go_use hkn hlo 3000 0 [] H fun vars hv hx => ?_
  obtain rfl := vars0 hv
  refine go_call1 (as := []) (led := ledG w l o1 tk0 D1 D3 D4 D5 D6 D7 D8 f) (tk := tk0 + 73) (c := .call (.builtin "type.__new__") ⟨[.type "type", strV "K" tk0, .ref (D1 + 8), .ref (D3 + 8)], []⟩) (by kernel_rfl) fun h H => ?_
  refine code_let ?_
  intro R2
  refine codeAny_call_builtin_code (Code.quiet_builtin _ (by decide +kernel)) (wpAny_of_eq (show checkBuiltinCall "type.__new__" _ = pure () by kernel_rfl) (codeAny_builtin cm_entry_tnew ?_))
  refine type_new H hlo X hop fun h E1 E2 E3 E4 E5 E6 H => ?_
  dsimp only
  replace H := H.pick (news' := ledH w l o1 tk0 D1 D3 D4 D5 D6 D7 D8 f E2 E3 E4) [3,4,2,10,11,16,17,18,19,20,21] (by decide) (by kernel_rfl)
  refine go_let ?_
  intro T4
  refine go_use hkn hlo 3000 0 [5,5] H fun vars hv hx => ?_
  obtain rfl := vars0 hv
  refine go_call1 (as := [E3 + 8, E3 + 8]) (led := ledH w l o1 tk0 D1 D3 D4 D5 D6 D7 D8 f E2 E3 E4) (tk := tk0 + 77) (c := .call (.builtin "type.__init__") ⟨[.ref (E3 + 8), strV "K" tk0, .ref (D1 + 8), .ref (D3 + 8)], []⟩) (by kernel_rfl) fun h H => ?_
  refine codeAny_of_tree ?_
  show wpAny _ _ (callAny (.builtin "type.__init__") _) _ _ _
  refine go_use hkn hlo 3000 0 [5] H fun vars hv hx => ?_
  obtain rfl := vars0 hv
  refine go_end1 (as := [E3 + 8]) (led := ledH w l o1 tk0 D1 D3 D4 D5 D6 D7 D8 f E2 E3 E4) (tk := tk0 + 77) (t := pure (.again (.builtin "type.__init__" ⟨[.ref (E3 + 8), strV "K" tk0, .ref (D1 + 8), .ref (D3 + 8)], []⟩))) (by kernel_rfl) fun h H => ?_
  refine wpAny_pure ⟨Code.quiet_builtin _ (by decide +kernel), codeAny_builtin cm_entry_tinit ?_⟩
  refine go_use hkn hlo 3000 0 [] H fun vars hv hx => ?_
  obtain rfl := vars0 hv
  refine go_end1 (as := []) (led := ledH w l o1 tk0 D1 D3 D4 D5 D6 D7 D8 f E2 E3 E4) (tk := tk0 + 77) (t := pure (.done (.ret .none))) (by kernel_rfl) fun h H => ?_
  refine wpAny_pure ?_
  dsimp only
  refine go_use hkn hlo 3000 0 [] H fun vars hv hx => ?_
  obtain rfl := vars0 hv
  refine go_end1 (as := []) (led := ledH w l o1 tk0 D1 D3 D4 D5 D6 D7 D8 f E2 E3 E4) (tk := tk0 + 77) (t := pure (.done (.ret (.ref (E3 + 8))))) (by kernel_rfl) fun h H => ?_
  refine wpAny_pure ?_
  show wpAny _ _ _ _ _ _
  refine go_let ?_
  intro T5
  refine go_use hkn hlo 3000 0 [] H fun vars hv hx => ?_
  obtain rfl := vars0 hv
  refine go_end1 (as := []) (led := ledH w l o1 tk0 D1 D3 D4 D5 D6 D7 D8 f E2 E3 E4) (tk := tk0 + 77) (t := pure (.ref (E3 + 8))) (by kernel_rfl) fun h H => ?_
  refine wpAny_pure ?_
  refine wpAny_bind (wpAny_of_eq (show decorate _ _ = pure _ from rfl) ?_)
  refine wpAny_bind (wpAny_standAt ?_)
  exact wpAny_bind (wpAny_mono (hq f D8 E2 E3 E4 h H) (fun _ _ x => wpAny_pure x) fun _ _ x => x)
theorem class_ok {K : Frag} (X : K.In g) (hop : nsIn K cStatics "thirdparty.any" = some none) (hkn : ∀ p ∈ knK w, g.get? p.1 = some p.2) (hlo : 8 ≤ g.objs.size) (hl : g.NoLimit) (hd : A.depth < recursionLimit) (H : Led g (l + 8) m h (ledA l o1))
    (hq : ∀ (D1 D3 D4 D5 D6 D7 : Nat) (f : Nat → Nat) (D8 E2 E3 E4 : Nat) h', Led g (l + 8) m h' (ledH w l o1 tk0 D1 D3 D4 D5 D6 D7 D8 f E2 E3 E4) → wpAny (model pQ w) A (bindName (envK l) (Str.ofString "K") (.ref (E3 + 8))) (fun _ s' => Q .next s') E ⟨h', gs, d, tk0 + 77, os⟩) :
    wpAny (model pQ w) A (exec (clsStmt w.params) (envK l)) Q E ⟨h, gs, d, tk0, os⟩ := by
  refine seg_prep hkn hlo H ?_
  intro D1 D2 D3 h1 H1
  have H2 := H1.pick (news' := (D3 + 8, dictE) :: ledB l o1 D1) [0,2,3,4] (by decide) rfl
  refine seg_frame (D2 := D2) hkn hlo H2 ?_
  intro D4 D5 D6 D7 h3 H3
  exact seg_enter (D2 := D2) X hop hkn hlo (hl.keeps H3.F.keep) hd H3 fun f D8 E2 E3 E4 h' H => hq D1 D3 D4 D5 D6 D7 f D8 E2 E3 E4 h' H
end
end Mine
end
section
open PySem PySem.W PySem.Calls PyProof.Rows
namespace Mine
structure KP where
  l : Nat
  tk0 : Nat
  D1 : Nat
  D8 : Nat
  E2 : Nat
  E3 : Nat
  E4 : Nat
  f : Nat → Nat
  oc : Value
  od : Option Addr
  osl : Array (Option Value)
noncomputable abbrev KP.o1 (p : KP) : Obj := ⟨p.oc, p.od, .cell (some (.ref 242)), p.osl⟩
noncomputable abbrev KP.cls (p : KP) : Obj := clsK (p.E3 + 8) (p.E2 + 8) (p.D1 + 8) p.tk0 (p.tk0 + 9)
noncomputable abbrev KP.led (p : KP) (w : World) : List (Addr × Obj) := [(p.E3 + 8, p.cls), (p.E2 + 8, nsF w p.tk0 p.f p.D8 p.E4), (p.E4 + 8, mdO p.E3 p.tk0), (p.f 7 + 8, fnO (fdI p.f)), (p.f 15 + 8, fnO (fdL p.l p.f)), (p.f 6 + 8, cdI p.tk0 p.f), (p.f 2 + 8, tabE), (p.f 14 + 8, cdL p.tk0 p.f), (p.f 10 + 8, tabE), (p.l + 9, p.o1)]
noncomputable abbrev frI (w : World) (tk I : Nat) (v : Str) (tv : Nat) : Obj := ⟨.type "frame", none, .dict (List.toArray [en (Str.ofString "self") (nh w (Str.ofString "self")) tk (.ref (I + 8)), en (Str.ofString "obj") (nh w (Str.ofString "obj")) (tk + 1) (.str v tv)]) 2, #[]⟩
noncomputable abbrev envI (p : KP) (D3 : Nat) : Env := { scope := (fdI p.f).scope, locals := D3 + 8, globals := 3, cells := [], qual := Str.ofString "cmp_to_key.<locals>.K.__init__.<locals>.", func := some (p.f 7 + 8), code := .ref (p.f 6 + 8), frame := some (D3 + 8) }
theorem Led.dropSnd {g h : Heap} {L : Addr} {m : Str → Option Value} {x y : Addr × Obj} {l : List (Addr × Obj)} (H : Led g L m h (x :: y :: l)) : Led g L m h (x :: l) :=
  ⟨H.F, fun p hp => H.N p (by rcases List.mem_cons.mp hp with rfl | hp; exact .head _; exact .tail _ (.tail _ hp)), by
    have D := H.D
    rw [List.map_cons, List.map_cons, List.nodup_cons, List.nodup_cons] at D
    rw [List.map_cons, List.nodup_cons]
    exact ⟨fun hm => D.1 (.tail _ hm), D.2.2⟩⟩
noncomputable abbrev insK (p : KP) (D1 : Nat) (sl : Array (Option Value)) : Obj := ⟨.ref (p.E3 + 8), some (D1 + 8), .plain, sl⟩
noncomputable abbrev ledN (w : World) (p : KP) (tk tv D1 D2 D3 : Nat) (v : Str) (sl : Array (Option Value)) : List (Addr × Obj) := (D3 + 8, frI w tk D2 v tv) :: (D2 + 8, insK p D1 sl) :: (D1 + 8, dictE) :: p.led w
section
variable {w : World} {A : Around} {E : Value → Shared → Prop} {Q : Value → Shared → Prop} {R : Result → Shared → Prop} {g h : Heap} {gs : Array GenState} {d : Drawn} {os : OsState} {m : Str → Option Value} {L tk tv : Nat} {v : Str} {p : KP} {news : List (Addr × Obj)}
set_option cleanup.letToHave false in
theorem key_make (hkn : ∀ p ∈ knK w, g.get? p.1 = some p.2) (hlo : 8 ≤ g.objs.size) (hl : g.NoLimit) (hd : A.depth + 1 < recursionLimit) (H : Led g L m h (p.led w ++ news))
    (hq : ∀ (D1 I : Nat) h', Led g L m h' ((I + 8, insK p D1 #[some (.str v tv)]) :: (p.led w ++ news)) → R (.ok (.ret (.ref (I + 8)))) ⟨h', gs, d, tk + 3, os⟩) :
    codeAny (model pQ w) A (.call (.ref (p.E3 + 8)) ⟨[.str v tv], []⟩) R ⟨h, gs, d, tk, os⟩ := by
  refine codeAny_of_tree ?_
  show wpAny _ _ (callAny (.ref (p.E3 + 8)) _) _ _ _
  refine go_use hkn hlo 3000 0 [5,5] H fun vars hv hx => ?_
  obtain rfl := vars0 hv
  refine go_end1 (as := [p.E3 + 8, p.E3 + 8]) (led := p.led w ++ news) (tk := tk) (t := pure (.again (.call (.builtin "type.__call__") ⟨[.ref (p.E3 + 8), .str v tv], []⟩))) (by kernel_rfl) fun h H => ?_
  refine wpAny_pure ⟨by rfl, codeAny_of_tree ?_⟩
  show wpAny _ _ (callAny (.builtin "type.__call__") _) _ _ _
  refine go_use hkn hlo 3000 0 [5] H fun vars hv hx => ?_
  obtain rfl := vars0 hv
  refine go_end1 (as := [p.E3 + 8]) (led := p.led w ++ news) (tk := tk) (t := pure (.again (.builtin "type.__call__" ⟨[.ref (p.E3 + 8), .str v tv], []⟩))) (by kernel_rfl) fun h H => ?_
  refine wpAny_pure ⟨Code.quiet_builtin _ (by decide +kernel), codeAny_builtin cm_entry_tcall ?_⟩
  refine go_let ?_
  intro T1
  refine go_use hkn hlo 3000 0 [5,5,5] H fun vars hv hx => ?_
  obtain rfl := vars0 hv
  refine go_call1 (as := [p.E3 + 8, p.E3 + 8, p.E3 + 8]) (led := p.led w ++ news) (tk := tk) (c := .call (.builtin "object.__new__") ⟨[.ref (p.E3 + 8), .str v tv], []⟩) (by kernel_rfl) fun h H => ?_
  refine code_let ?_
  intro R1
  refine codeAny_of_tree ?_
  show wpAny _ _ (callAny (.builtin "object.__new__") _) _ _ _
  refine go_use hkn hlo 3000 0 [5,5,5,5,5,5,5] H fun vars hv hx => ?_
  obtain rfl := vars0 hv
  refine go_endL (tk := tk) (t := pure (.again (.builtin "object.__new__" ⟨[.ref (p.E3 + 8), .str v tv], []⟩))) (by kernel_rfl) fun h H => ?_
  replace H : Led g L m h (p.led w ++ news) := H
  refine wpAny_pure ⟨Code.quiet_builtin _ (by decide +kernel), codeAny_builtin cm_entry_onew ?_⟩
  refine go_use hkn hlo 3000 2 [5,5,5,5,5,5,5,5,5,5,6,5,7] H fun vars hv hx => ?_
  obtain ⟨D1, D2, rfl⟩ := vars2 hv hx
  refine go_endL (tk := tk) (t := pure (.done (.ret (.ref (D2 + 8))))) (by kernel_rfl) fun h H => ?_
  replace H : Led g L m h ((D2 + 8, ⟨.ref (p.E3 + 8), some (D1 + 8), .plain, #[]⟩) :: (D1 + 8, dictE) :: (p.led w ++ news)) := H
  refine wpAny_pure ?_
  show wpAny _ _ _ _ _ _
  with_unfolding_all refine stuck_bind (X := isInstance (.ref (D2 + 8)) (.ref (p.E3 + 8))) ?_
  refine isInst_self (H.get (.head _)) rfl (H.get (.tail _ (.tail _ (.head _)))) rfl rfl ?_
  refine go_let ?_
  intro T2
  refine go_use hkn hlo 3000 0 [5,7,7,8,10] H fun vars hv hx => ?_
  obtain rfl := vars0 hv
  refine go_call1 (as := [p.f 7 + 8, p.E2 + 8, p.E3 + 8, p.E3 + 8, D2 + 8]) (led := (D2 + 8, ⟨.ref (p.E3 + 8), some (D1 + 8), .plain, #[]⟩) :: (D1 + 8, dictE) :: (p.led w ++ news)) (tk := tk) (c := .call (.ref (p.f 7 + 8)) ⟨[.ref (D2 + 8), .str v tv], []⟩) (by kernel_rfl) fun h H => ?_
  refine code_let ?_
  intro R2
  refine codeAny_of_tree ?_
  show wpAny _ _ (callAny (.ref (p.f 7 + 8)) _) _ _ _
  refine go_use hkn hlo 3000 1 [10,12,5,0,5,0] H fun vars hv hx => ?_
  obtain ⟨D3, rfl⟩ := vars1 hv hx
  refine go_stop1 (as := [D3 + 8, D3 + 8, D3 + 8, D3 + 8, p.f 6 + 8, p.f 7 + 8]) (led := ledN w p tk tv D1 D2 D3 v #[] ++ news) (tk := tk + 2) (by kernel_rfl) fun h H => ?_
  with_unfolding_all refine stuck_bind (X := enterFrame 0) ?_
  refine wpAny_enterFrame (hl.keeps H.F.keep) (Nat.lt_of_le_of_lt (Nat.le_of_eq (by kernel_rfl)) hd) ?_
  refine go_use hkn hlo 3000 0 [] H fun vars hv hx => ?_
  obtain rfl := vars0 hv
  refine go_endL (tk := tk + 2) (t := pure (.again (.func (match (fdI p.f).body with | .stmts b => b | _ => []) (envI p D3)))) (by kernel_rfl) fun h H => ?_
  replace H : Led g L m h (ledN w p tk tv D1 D2 D3 v #[] ++ news) := H
  refine wpAny_pure ⟨by rfl, codeAny_of_tree ?_⟩
  refine go_use hkn hlo 3000 0 [5,5,6,8,8,9] H fun vars hv hx => ?_
  obtain rfl := vars0 hv
  refine go_call1 (as := [p.E2 + 8, p.E3 + 8, p.E3 + 8, D2 + 8, D3 + 8, D3 + 8]) (led := ledN w p tk tv D1 D2 D3 v #[] ++ news) (tk := tk + 3) (c := .call (.builtin "object.__setattr__") ⟨[.ref (D2 + 8), .str (Str.ofString "obj") (tk + 2), .str v tv], []⟩) (by kernel_rfl) fun h H => ?_
  refine code_let ?_
  intro R3
  refine codeAny_of_tree ?_
  show wpAny _ _ (callAny (.builtin "object.__setattr__") _) _ _ _
  refine go_use hkn hlo 3000 0 [6,8] H fun vars hv hx => ?_
  obtain rfl := vars0 hv
  refine go_end1 (as := [p.E3 + 8, D2 + 8]) (led := ledN w p tk tv D1 D2 D3 v #[] ++ news) (tk := tk + 3) (t := pure (.again (.builtin "object.__setattr__" ⟨[.ref (D2 + 8), .str (Str.ofString "obj") (tk + 2), .str v tv], []⟩))) (by kernel_rfl) fun h H => ?_
  refine wpAny_pure ⟨Code.quiet_builtin _ (by decide +kernel), codeAny_builtin cm_entry_osetattr ?_⟩
  refine go_let ?_
  intro T4
  refine go_use hkn hlo 3000 0 [6,8,6,8,8,9,10,10] H fun vars hv hx => ?_
  obtain rfl := vars0 hv
  refine go_call1 (as := [p.E4 + 8, p.E4 + 8, p.E2 + 8, p.E3 + 8, p.E3 + 8, D2 + 8, p.E3 + 8, D2 + 8]) (led := ledN w p tk tv D1 D2 D3 v #[] ++ news) (tk := tk + 3) (c := .call (.builtin "member_descriptor.__set__") ⟨[.ref (p.E4 + 8), .ref (D2 + 8), .str v tv], []⟩) (by kernel_rfl) fun h H => ?_
  refine code_let ?_
  intro R4
  refine codeAny_of_tree ?_
  show wpAny _ _ (callAny (.builtin "member_descriptor.__set__") _) _ _ _
  refine go_use hkn hlo 3000 0 [10] H fun vars hv hx => ?_
  obtain rfl := vars0 hv
  refine go_end1 (as := [p.E4 + 8]) (led := ledN w p tk tv D1 D2 D3 v #[] ++ news) (tk := tk + 3) (t := pure (.again (.builtin "member_descriptor.__set__" ⟨[.ref (p.E4 + 8), .ref (D2 + 8), .str v tv], []⟩))) (by kernel_rfl) fun h H => ?_
  refine wpAny_pure ⟨Code.quiet_builtin _ (by decide +kernel), codeAny_builtin cm_entry_mdset ?_⟩
  with_unfolding_all refine stuck_bind (X := Builtin.Getset_descriptor.descrCheckInstance (.ref (p.E4 + 8)) (.ref (D2 + 8))) ?_
  refine descr_check (H.get (.tail _ (.tail _ (.tail _ (.tail _ (.tail _ (.head _))))))) rfl rfl rfl (H.get (.tail _ (.head _))) rfl (H.get (.tail _ (.tail _ (.tail _ (.head _))))) rfl rfl ?_
  refine go_use hkn hlo 3000 0 [10,10] H fun vars hv hx => ?_
  obtain rfl := vars0 hv
  refine go_end1 (as := [p.E4 + 8, p.E4 + 8]) (led := ledN w p tk tv D1 D2 D3 v #[] ++ news) (tk := tk + 3) (t := pure (.again (.builtin "proto.slot#set" ⟨[.ref (D2 + 8), .str v tv, .ref (p.E4 + 8)], []⟩))) (by kernel_rfl) fun h H => ?_
  refine wpAny_pure ⟨Code.quiet_builtin _ (by decide +kernel), codeAny_builtin cm_entry_slotset ?_⟩
  refine go_use hkn hlo 3000 0 [10,10,6,8,1] H fun vars hv hx => ?_
  obtain rfl := vars0 hv
  refine go_end1 (as := [D2 + 8, p.E3 + 8, D2 + 8, p.E4 + 8, p.E4 + 8]) (led := ledN w p tk tv D1 D2 D3 v #[some (.str v tv)] ++ news) (tk := tk + 3) (t := pure (.done (.ret .none))) (by kernel_rfl) fun h H => ?_
  refine wpAny_pure ?_
  show wpAny _ _ _ _ _ _
  refine go_use hkn hlo 3000 0 [] H fun vars hv hx => ?_
  obtain rfl := vars0 hv
  refine go_end1 (as := []) (led := ledN w p tk tv D1 D2 D3 v #[some (.str v tv)] ++ news) (tk := tk + 3) (t := pure (.done (.ret .none))) (by kernel_rfl) fun h H => ?_
  refine wpAny_pure ?_
  show wpAny _ _ _ _ _ _
  refine go_use hkn hlo 3000 0 [] H fun vars hv hx => ?_
  obtain rfl := vars0 hv
  refine go_end1 (as := []) (led := ledN w p tk tv D1 D2 D3 v #[some (.str v tv)] ++ news) (tk := tk + 3) (t := pure (.done (.ret .none))) (by kernel_rfl) fun h H => ?_
  refine wpAny_pure ?_
  show wpAny _ _ _ _ _ _
  refine go_use hkn hlo 3000 0 [] H fun vars hv hx => ?_
  obtain rfl := vars0 hv
  refine go_end1 (as := []) (led := ledN w p tk tv D1 D2 D3 v #[some (.str v tv)] ++ news) (tk := tk + 3) (t := pure (.done (.ret (.ref (D2 + 8))))) (by kernel_rfl) fun h H => ?_
  refine wpAny_pure ?_
  exact hq D1 D2 h (H.drop1.dropSnd)
end
end Mine
end
section
open PySem PySem.W PyProof.Rows
open PyProof.Rows.LCg (NsObj lst lst_snoc ns_obj)
namespace Mine
section
variable {M : Model} {A : Around} {E : Value → Shared → Prop} {s : Shared} {h₀ : Heap} {L I C D : Addr} {m m₂ : Str → Option Value} {scope : Scope} {cl : List (Str × Addr)} {env : Env} {oI oC : Obj} {nw : List (Addr × Obj)}
theorem store_own {x : Str} {v : Value} {Q : Unit → Shared → Prop} (F : Fr h₀ L s.heap m) (N : News h₀ L s.heap ((I, oI) :: (C, oC) :: nw)) (hC : NsObj oC m₂) (hIC : I ≠ C) (hn : ∀ p ∈ nw, p.1 ≠ C)
    (h : ∀ h' oC' m', Fr h₀ L h' m → News h₀ L h' ((I, oI) :: (C, oC') :: nw) → NsObj oC' m' → m' x = some v → (∀ y, y ≠ x → m' y = m₂ y) → Q () { s with heap := h', toks := s.toks + 1 })
    (hl : (compEnvC scope cl C env).kindOf x = some .local) (hp : ((compEnvC scope cl C env).scope.kind == .class || ((compEnvC scope cl C env).scope.kind == .module && (compEnvC scope cl C env).locals != (compEnvC scope cl C env).globals)) = false) :
    wpAny M A (storeName (compEnvC scope cl C env) x v) Q E s := by
  have zI := N (I, oI) (.head _)
  have zC := N (C, oC) (.tail _ (.head _))
  refine wpAny_storeName_local hl (hC.ns zC.1) (fun h' ns hs => ?_) hp
  obtain ⟨oC', e', hC'⟩ := ns_obj ns
  refine h h' oC' _ (F.change hs zC.2.1 zC.2.2) (news_cons (hs.extBut _ _ hIC zI.1) zI.2.1 zI.2.2 (news_cons e' zC.2.1 zC.2.2 fun p hp => ?_)) hC' (if_pos rfl) fun y hy => if_neg hy
  have z := N p (.tail _ (.tail _ hp))
  exact ⟨hs.extBut _ _ (hn p hp) z.1, z.2⟩
theorem store_cel {x : Str} {v : Value} {c : Addr} {oc : Obj} {v₀ : Option Value} {Q : Unit → Shared → Prop} (F : Fr h₀ L s.heap m) (N : News h₀ L s.heap ((I, oI) :: (C, oC) :: (D, lst ys) :: (c, oc) :: nw)) (hd : oc.data = .cell v₀) (hx : cl.lookup x = some c)
    (hIC : I ≠ c) (hCc : C ≠ c) (hD : D ≠ c) (hn : ∀ p ∈ nw, p.1 ≠ c)
    (h : ∀ h' oc', Fr h₀ L h' m → News h₀ L h' ((I, oI) :: (C, oC) :: (D, lst ys) :: (c, oc') :: nw) → oc'.data = .cell (some v) → Q () { s with heap := h' })
    (hk : (compEnvC scope cl C env).scope.kind = .function) (hl : (compEnvC scope cl C env).kindOf x = some .cell) :
    wpAny M A (storeName (compEnvC scope cl C env) x v) Q E s := by
  have zc := N (c, oc) (.tail _ (.tail _ (.tail _ (.head _))))
  refine wpAny_storeName_cell hk hl hx ⟨oc, zc.1, hd⟩ fun h' ⟨oc', e', hd'⟩ hs => ?_
  have mv : ∀ p : Addr × Obj, p ∈ (I, oI) :: (C, oC) :: (D, lst ys) :: (c, oc) :: nw → p.1 ≠ c → h'.get? p.1 = some p.2 ∧ p.1 ≠ L ∧ h₀.get? p.1 = none := fun p hp hne => ⟨hs.extBut _ _ hne (N p hp).1, (N p hp).2⟩
  refine h h' oc' (F.change hs zc.2.1 zc.2.2) (fun p hp => ?_) hd'
  rcases List.mem_cons.mp hp with rfl | hp
  · exact mv _ (.head _) hIC
  rcases List.mem_cons.mp hp with rfl | hp
  · exact mv _ (.tail _ (.head _)) hCc
  rcases List.mem_cons.mp hp with rfl | hp
  · exact mv _ (.tail _ (.tail _ (.head _))) hD
  rcases List.mem_cons.mp hp with rfl | hp
  · exact ⟨e', zc.2⟩
  · exact mv _ (.tail _ (.tail _ (.tail _ (.tail _ hp)))) (hn p hp)
end
section
variable {prog : Program} {w : World} {A : Around} {E : Value → Shared → Prop} {s : Shared} {h₀ : Heap} {L : Addr} {m : Str → Option Value} {env : Env} {target elt : Expr} {ifs : List Expr} {scope : Scope} {cl : List (Str × Addr)} {one : Option Str}
  {c₀ rest : List (Addr × Obj)} {Fin : Shared → (List Value → List (Addr × Obj) → Prop) → Prop}
inductive JC (rest : List (Addr × Obj)) (K : Nat → List Value → List (Addr × Obj) → Prop) (i : Nat) (ys : List Value) : List (Addr × Obj) → Prop
  | mk {c : List (Addr × Obj)} (hK : K i ys c) : JC rest K i ys (c ++ rest)
theorem JC.news {h : Heap} {K : Nat → List Value → List (Addr × Obj) → Prop} {i : Nat} {ys : List Value} {nw : List (Addr × Obj)} (hJ : JC rest K i ys nw) (N : News h₀ L h nw) : News h₀ L h rest := by
  cases hJ; exact news_right N
theorem CompGo.lstJ {ax : Addr} {its : Array Value} (J : Nat → List Value → List (Addr × Obj) → Prop) {nw₀ : List (Addr × Obj)} (hJn : ∀ i ys nw h, J i ys nw → News h₀ L h nw → News h₀ L h rest) (F : Fr h₀ L s.heap m) (N : News h₀ L s.heap nw₀) (hh : A.handled = none) (ht : s.heap.IsList ax its) (hsz : its.size ≤ sizeLine)
    (hgo : ∀ I i v (s : Shared) (Q : Unit → Shared → Prop) (E : Value → Shared → Prop), s.heap.IsListIter I ax i → Q () s → wpAny (model prog w) A (letOwnedTupleGo target (.ref I) v) Q E s)
    (src : ∀ h', (∀ b o, h₀.get? b = some o → h'.get? b = some o) → News h₀ L h' rest → h'.IsList ax its) (hJ : J 0 [] nw₀)
    (step : StepOk prog w A h₀ L m env target elt ifs scope cl one its.size (fun i v => its[i]? = some v) J s) (fin : Fin s (J its.size)) :
    CompGo prog w A h₀ L m env target elt ifs scope cl one Fin (.ref ax) s := by
  have hne : ax ≠ s.heap.objs.size := let ⟨_, e, _⟩ := ht; Nat.ne_of_lt (Heap.lt_size e)
  exact ⟨its.size, _, _, J, _, { cls := .type "list_iterator", data := .fields #[.ref ax, .int 0 0] }, hsz, F, N, fun Q E h => wpAny_pyIter_list ht h, SrcOk.list hh hne (hgo _) (fun j ys nw h' k N hJ => src h' k (hJn _ _ _ _ hJ N)),
    fun i s Q E st h => wpAny_pyIter_listiter st.1 h, ⟨⟨_, Heap.get?_push_size _ rfl, rfl, rfl⟩, let ⟨o, e, r⟩ := ht; ⟨o, Heap.get?_push_of_some _ e, r⟩⟩, hJ, step, fin⟩
theorem CompGo.tupJ {ax : Addr} {its : Array Value} (J : Nat → List Value → List (Addr × Obj) → Prop) {nw₀ : List (Addr × Obj)} (hJn : ∀ i ys nw h, J i ys nw → News h₀ L h nw → News h₀ L h rest) (F : Fr h₀ L s.heap m) (N : News h₀ L s.heap nw₀) (hh : A.handled = none) (ht : s.heap.IsTuple ax its) (hsz : its.size ≤ sizeLine)
    (hgo : ∀ I i v (s : Shared) (Q : Unit → Shared → Prop) (E : Value → Shared → Prop), s.heap.IsTupleIter I ax i → Q () s → wpAny (model prog w) A (letOwnedTupleGo target (.ref I) v) Q E s)
    (src : ∀ h', (∀ b o, h₀.get? b = some o → h'.get? b = some o) → News h₀ L h' rest → h'.IsTuple ax its) (hJ : J 0 [] nw₀)
    (step : StepOk prog w A h₀ L m env target elt ifs scope cl one its.size (fun i v => its[i]? = some v) J s) (fin : Fin s (J its.size)) :
    CompGo prog w A h₀ L m env target elt ifs scope cl one Fin (.ref ax) s := by
  have hne : ax ≠ s.heap.objs.size := let ⟨_, e, _⟩ := ht; Nat.ne_of_lt (Heap.lt_size e)
  exact ⟨its.size, _, _, J, _, { cls := .type "tuple_iterator", data := .fields #[.ref ax, .int 0 0] }, hsz, F, N, fun Q E h => wpAny_pyIter_tuple ht h, SrcOk.tuple hh hne (hgo _) (fun j ys nw h' k N hJ => src h' k (hJn _ _ _ _ hJ N)),
    fun i s Q E st h => wpAny_pyIter_tupleiter st.1 h, ⟨⟨_, Heap.get?_push_size _ rfl, rfl, rfl⟩, let ⟨o, e, r⟩ := ht; ⟨o, Heap.get?_push_of_some _ e, r⟩⟩, hJ, step, fin⟩
theorem CompGo.rngJ {r : Addr} {n : Nat} {t u v : Tok} (J : Nat → List Value → List (Addr × Obj) → Prop) {nw₀ : List (Addr × Obj)} (hJn : ∀ i ys nw h, J i ys nw → News h₀ L h nw → News h₀ L h rest) (F : Fr h₀ L s.heap m) (N : News h₀ L s.heap nw₀) (hh : A.handled = none) (hr : IsRange s.heap r 0 n 1 t u v) (hsm : Builtin.Range.small 0 n 1 = true) (hlen : Builtin.Range.rangeSize 0 n 1 = n) (hsz : n ≤ sizeLine)
    (hgo : ∀ I v (s : Shared) (Q : Unit → Shared → Prop) (E : Value → Shared → Prop), Q () s → wpAny (model prog w) A (letOwnedTupleGo target (.ref I) v) Q E s)
    (hJ : J 0 [] nw₀) (step : StepOk prog w A h₀ L m env target elt ifs scope cl one n (fun i v => ∃ t, v = .int (0 + (i : Int)) t) J s) (fin : Fin s (J n)) :
    CompGo prog w A h₀ L m env target elt ifs scope cl one Fin (.ref r) s :=
  ⟨n, _, _, J, _, { cls := .type "range_iterator", data := .fields #[rawInt 0, rawInt (n : Int), rawInt 1] }, hsz, F, N, fun Q E h => wpAny_pyIter_range hr hsm (by rw [hlen]; exact h),
    SrcOk.range (a := 0) hh (hgo _), fun i s Q E st h => wpAny_pyIter_rangeiter st h, Heap.get?_push_size _ rfl, hJ, step, fin⟩
theorem CompGo.lst {ax : Addr} {its : Array Value} (K : Nat → List Value → List (Addr × Obj) → Prop) (F : Fr h₀ L s.heap m) (N : News h₀ L s.heap (c₀ ++ rest)) (hh : A.handled = none) (ht : s.heap.IsList ax its) (hsz : its.size ≤ sizeLine)
    (hgo : ∀ I i v (s : Shared) (Q : Unit → Shared → Prop) (E : Value → Shared → Prop), s.heap.IsListIter I ax i → Q () s → wpAny (model prog w) A (letOwnedTupleGo target (.ref I) v) Q E s)
    (src : ∀ h', (∀ b o, h₀.get? b = some o → h'.get? b = some o) → News h₀ L h' rest → h'.IsList ax its) (hK : K 0 [] c₀)
    (step : StepOk prog w A h₀ L m env target elt ifs scope cl one its.size (fun i v => its[i]? = some v) (JC rest K) s) (fin : Fin s (JC rest K its.size)) :
    CompGo prog w A h₀ L m env target elt ifs scope cl one Fin (.ref ax) s := CompGo.lstJ (JC rest K) (fun _ _ _ _ hJ N => hJ.news N) F N hh ht hsz hgo src ⟨hK⟩ step fin
theorem CompGo.tup {ax : Addr} {its : Array Value} (K : Nat → List Value → List (Addr × Obj) → Prop) (F : Fr h₀ L s.heap m) (N : News h₀ L s.heap (c₀ ++ rest)) (hh : A.handled = none) (ht : s.heap.IsTuple ax its) (hsz : its.size ≤ sizeLine)
    (hgo : ∀ I i v (s : Shared) (Q : Unit → Shared → Prop) (E : Value → Shared → Prop), s.heap.IsTupleIter I ax i → Q () s → wpAny (model prog w) A (letOwnedTupleGo target (.ref I) v) Q E s)
    (src : ∀ h', (∀ b o, h₀.get? b = some o → h'.get? b = some o) → News h₀ L h' rest → h'.IsTuple ax its) (hK : K 0 [] c₀)
    (step : StepOk prog w A h₀ L m env target elt ifs scope cl one its.size (fun i v => its[i]? = some v) (JC rest K) s) (fin : Fin s (JC rest K its.size)) :
    CompGo prog w A h₀ L m env target elt ifs scope cl one Fin (.ref ax) s := CompGo.tupJ (JC rest K) (fun _ _ _ _ hJ N => hJ.news N) F N hh ht hsz hgo src ⟨hK⟩ step fin
inductive JT (rest : List (Addr × Obj)) (K : Nat → List Value → List (Addr × Obj) → Prop) (i : Nat) (ys : List Value) : List (Addr × Obj) → Prop
  | mk {c : List (Addr × Obj)} (hK : K i ys c) : JT rest K i ys (rest ++ c)
theorem JT.news {h : Heap} {K : Nat → List Value → List (Addr × Obj) → Prop} {i : Nat} {ys : List Value} {nw : List (Addr × Obj)} (hJ : JT rest K i ys nw) (N : News h₀ L h nw) : News h₀ L h rest := by
  cases hJ; exact fun p hp => N p (List.mem_append_left _ hp)
theorem turn_off {one : Option Str} {I C D cx : Addr} {ys : List Value} {cells nw : List (Addr × Obj)} (l1 : I < D) (l2 : D < C) (l3 : C < cx) (hcc : CCof one cx cells) (ap : ∀ p ∈ nw, p.1 ∉ I :: C :: D :: csOf one cx) :
    I ≠ C ∧ ∀ p ∈ (D, lst ys) :: (cells ++ nw), p.1 ≠ C := by
  refine ⟨Nat.ne_of_lt (Nat.lt_trans l1 l2), fun p hp => ?_⟩
  rcases List.mem_cons.mp hp with rfl | hp
  · exact Nat.ne_of_lt l2
  rcases List.mem_append.mp hp with hp | hp
  · have e : p.1 ∈ csOf one cx := CCof.cs _ hcc ▸ List.mem_map_of_mem hp
    cases one with
    | none => cases e
    | some x => rw [List.mem_singleton.mp e]; exact Nat.ne_of_gt l3
  · exact fun e => ap p hp (e ▸ .tail _ (.head _))
theorem turn_cel {x : Str} {I C D cx : Addr} {nw : List (Addr × Obj)} (l1 : I < D) (l2 : D < C) (l3 : C < cx) (ap : ∀ p ∈ nw, p.1 ∉ I :: C :: D :: csOf (some x) cx) :
    I ≠ cx ∧ C ≠ cx ∧ D ≠ cx ∧ ∀ p ∈ nw, p.1 ≠ cx :=
  ⟨Nat.ne_of_lt (Nat.lt_trans l1 (Nat.lt_trans l2 l3)), Nat.ne_of_lt l3, Nat.ne_of_lt (Nat.lt_trans l2 l3), fun p hp e => ap p hp (e ▸ .tail _ (.tail _ (.tail _ (.head _))))⟩
theorem news_take {h₀ h : Heap} {L : Addr} {l l' : List (Addr × Obj)} (N : News h₀ L h l) (sub : ∀ p ∈ l', p ∈ l) : News h₀ L h l' := fun p hp => N p (sub p hp)
theorem strV_snoc {l : List (Str × Tok)} {g : Str} {t : Tok} : strValues l ++ [.str g t] = strValues (l ++ [(g, t)]) := by simp [strValues]
theorem lt_all {h₀ h : Heap} {L D : Addr} {l : List (Addr × Obj)} (N : News h₀ L h l) (hD : h.objs.size < D) : ∀ p ∈ l, p.1 < D := fun p hp => Nat.lt_trans (Heap.lt_size (N p hp).1) hD
theorem go_tup {prog : Program} {w : World} {A : Around} {elts : List Expr} {k} {pos : Pos} {I ax : Addr} {i : Nat} {v : Value} {s : Shared} {Q : Unit → Shared → Prop} {E : Value → Shared → Prop} (hit : s.heap.IsListIter I ax i) (h : Q () s) : wpAny (model prog w) A (letOwnedTupleGo (.Tuple elts k pos) (.ref I) v) Q E s := by
  cases v with
  | ref a => exact wpAny_letOwnedTupleGo_listiter hit h
  | _ => exact wpAny_pure h
end
end Mine
end
section
open PySem PySem.W PyProof.Rows
namespace Mine
section
inductive ForEndD (h₀ : Heap) (L I : Addr) (oI : Obj) (s₁ : Shared) (J : (Str → Option Value) → List (Addr × Obj) → Prop) : Shared → Prop
  | mk {h' : Heap} {tk : Nat} {dr : Drawn} {m : Str → Option Value} {news : List (Addr × Obj)} (F : Fr h₀ L h' m) (N : News h₀ L h' ((I, oI) :: news)) (ap : ∀ p ∈ news, p.1 ≠ I) (hJ : J m news) : ForEndD h₀ L I oI s₁ J { s₁ with heap := h', toks := tk, drawn := dr }
inductive BetweenD (h₀ : Heap) (L I : Addr) (s : Shared) (n : Nat) (St : Nat → Heap → Prop) (J : Nat → (Str → Option Value) → List (Addr × Obj) → Prop) : Nat → Shared → Prop
  | mk {h' : Heap} {tk i : Nat} {dr : Drawn} {m : Str → Option Value} {news : List (Addr × Obj)} (hi : i ≤ n) (st : St i h') (F : Fr h₀ L h' m) (N : News h₀ L h' news) (ap : ∀ p ∈ news, p.1 ≠ I) (hJ : J i m news) : BetweenD h₀ L I s n St J (n + 1 - i) { s with heap := h', toks := tk, drawn := dr }
def turnPostD (h₀ : Heap) (L I : Addr) (oI : Obj) (s₁ : Shared) (J : (Str → Option Value) → List (Addr × Obj) → Prop) (Q : Flow → Shared → Prop) (f : Flow) (s : Shared) : Prop := match f with
  | .ret v => Q (.ret v) s
  | .brk => Q .next s
  | _ => ForEndD h₀ L I oI s₁ J s
variable {prog : Program} {w : World} {A : Around} {E : Value → Shared → Prop} {s : Shared} {h₀ : Heap} {env : Env} {target : Expr} {body : List Stmt} {n : Nat} {P : Nat → Value → Prop} {St : Nat → Heap → Prop}
  {J : Nat → (Str → Option Value) → List (Addr × Obj) → Prop} {I : Addr} {m : Str → Option Value} {news : List (Addr × Obj)}
def FStepD (prog : Program) (w : World) (A : Around) (h₀ : Heap) (env : Env) (target : Expr) (body : List Stmt) (n : Nat) (P : Nat → Value → Prop) (J : Nat → (Str → Option Value) → List (Addr × Obj) → Prop) (I : Addr) (Q : Flow → Shared → Prop)
    (E : Value → Shared → Prop) (s : Shared) : Prop :=
  ∀ i v m news oI h tk dr, i < n → P i v → J i m news → Fr h₀ env.locals h m → News h₀ env.locals h ((I, oI) :: news) → (∀ p ∈ news, p.1 ≠ I) →
    wpAny (model prog w) A (assign target env v) (fun _ s₂ => wpAny (model prog w) A (execs body env) (turnPostD h₀ env.locals I oI { s with heap := h, toks := tk, drawn := dr } (J (i + 1)) Q) E s₂) E { s with heap := h, toks := tk, drawn := dr }
theorem for_goD {R : Result → Shared → Prop} (S : SrcOk prog w A h₀ env.locals I target n P St J) (hI : I ≠ env.locals ∧ h₀.get? I = none) (hst : St 0 s.heap) (F : Fr h₀ env.locals s.heap m) (N : News h₀ env.locals s.heap news)
    (hap : ∀ p ∈ news, p.1 ≠ I) (hJ : J 0 m news)
    (step : FStepD prog w A h₀ env target body n P J I (fun f s' => R (.ok f) s') (notedBy (model prog w) A env fun e s' => R (.error e) s') s)
    (hR : ∀ h' tk dr m' news', Fr h₀ env.locals h' m' → News h₀ env.locals h' news' → (∀ p ∈ news', p.1 ≠ I) → J n m' news' → R (.ok .next) { s with heap := h', toks := tk, drawn := dr }) :
    codeAny (model prog w) A (.forLoop target (.ref I) body [] env) R s := by
  refine codeAny_forLoop_any (BetweenD h₀ env.locals I s n St J) ?_ (n + 1) (BetweenD.mk (Nat.zero_le n) hst F N hap hJ)
  intro k s' hk
  obtain ⟨hi, hst', F', N', hap', hJ'⟩ := hk
  rename_i h' tk i dr m news
  by_cases hlt : i < n
  · refine S.item i _ _ _ hlt hst' fun v h₂ tk₂ hPv hst₂ hk₂ => ?_
    refine S.go (i + 1) v _ _ _ hst₂ ?_
    obtain ⟨oI, heI⟩ := S.obj _ _ hst₂
    refine wpAny_mono (step i v m news oI h₂ tk₂ dr hlt hPv hJ' (fr_but' F' hk₂ (Ne.symm hI.1) hI.2) (news_cons heI hI.1 hI.2 (news_move N' hk₂ hap')) hap')
      (fun _ s₂ h₂' => wpAny_mono h₂' (fun f s₃ h₃ => ?_) fun _ _ e => e) fun _ _ e => e
    have next : ForEndD h₀ env.locals I oI { s with heap := h₂, toks := tk₂, drawn := dr } (J (i + 1)) s₃ → ∃ m, m < n + 1 - i ∧ BetweenD h₀ env.locals I s n St J m s₃ := fun h₄ => by
      obtain ⟨F₄, N₄, ap₄, J₄⟩ := h₄
      exact ⟨_, sub_lt' hlt, BetweenD.mk hlt (S.frame _ _ _ _ _ _ _ hst₂ heI (N₄ _ (.head _)).1 F₄.keep (news_tl N₄) J₄) F₄ (news_tl N₄) ap₄ J₄⟩
    cases f with
    | ret v => exact h₃
    | brk => exact h₃
    | cont => exact next h₃
    | next => exact next h₃
  · obtain rfl : i = n := Nat.le_antisymm hi (Nat.not_lt.mp hlt)
    exact S.done _ _ _ hst' fun h₂ tk₂ hk₂ => wpAny_execs_nil (hR h₂ tk₂ dr m news (fr_but' F' hk₂ (Ne.symm hI.1) hI.2) (news_move N' hk₂ hap') hap' hJ')
inductive ForAtD (prog : Program) (w : World) (A : Around) (h₀ : Heap) (env : Env) (target : Expr) (body : List Stmt) (Q : Flow → Shared → Prop) (E : Value → Shared → Prop) (it : Value) (s₁ : Shared) : Prop
  | mk {I : Addr} {n : Nat} {P : Nat → Value → Prop} {St : Nat → Heap → Prop} (J : Nat → (Str → Option Value) → List (Addr × Obj) → Prop) {m : Str → Option Value} {news : List (Addr × Obj)} (e : it = .ref I)
      (S : SrcOk prog w A h₀ env.locals I target n P St J) (hI : I ≠ env.locals ∧ h₀.get? I = none) (hst : St 0 s₁.heap) (F : Fr h₀ env.locals s₁.heap m) (N : News h₀ env.locals s₁.heap news) (hap : ∀ p ∈ news, p.1 ≠ I) (hJ : J 0 m news)
      (step : FStepD prog w A h₀ env target body n P J I Q E s₁)
      (fin : ∀ h' tk dr m' news', Fr h₀ env.locals h' m' → News h₀ env.locals h' news' → (∀ p ∈ news', p.1 ≠ I) → J n m' news' → Q .next { s₁ with heap := h', toks := tk, drawn := dr }) : ForAtD prog w A h₀ env target body Q E it s₁
def ForGoD (prog : Program) (w : World) (A : Around) (h₀ : Heap) (env : Env) (target : Expr) (body : List Stmt) (Q : Flow → Shared → Prop) (E : Value → Shared → Prop) (xv : Value) (s₁ : Shared) : Prop :=
  wpAny (model prog w) A (pyIter xv) (ForAtD prog w A h₀ env target body Q E) E s₁
theorem for_exD {Q : Flow → Shared → Prop} {iter : Expr} {pos : Pos} {m₀ : Str → Option Value} (F₀ : Fr h₀ env.locals s.heap m₀) (h : wpAny (model prog w) A (eval iter env) (ForGoD prog w A h₀ env target body Q E) E s)
    (hs : ∀ x, foldedSetIterable iter env x = pure x := by intro _; rfl) (hE : PassesOwn (model prog w) A env E := by passes_own) :
    wpAny (model prog w) A (exec (.For target iter body [] pos) env) Q E s := by
  refine wpAny_For (wpAny_mono h (fun xv s₁ h₁ => wpAny_mono h₁ (fun it s₂ h₂ => ?_) fun _ _ e => e) fun _ _ e => e) hs
  obtain ⟨J, rfl, S, hI, hst, F, N, hap, hJ, step, fin⟩ := h₂
  refine for_goD (R := fun r s' => match r with | .ok f => Q f s' | .error e => cameBackBy (model prog w) A env E e s') S hI hst F N hap hJ ?_ fin
  intro i v m news oI h tk dr a b c F₁ N₁ ap
  exact wpAny_mono (step i v m news oI h tk dr a b c F₁ N₁ ap) (fun _ _ x => wpAny_passesOwn hE x) hE
theorem ForGoD.rngJ {r : Addr} {n : Nat} {t u v : Tok} {Q : Flow → Shared → Prop} {nw₀ : List (Addr × Obj)}
    (J : Nat → (Str → Option Value) → List (Addr × Obj) → Prop) (hh : A.handled = none) (F : Fr h₀ env.locals s.heap m) (N : News h₀ env.locals s.heap nw₀) (hr : IsRange s.heap r 0 n 1 t u v) (hsm : Builtin.Range.small 0 n 1 = true) (hlen : Builtin.Range.rangeSize 0 n 1 = n)
    (hgo : ∀ I v (s : Shared) (Q : Unit → Shared → Prop) (E : Value → Shared → Prop), Q () s → wpAny (model prog w) A (letOwnedTupleGo target (.ref I) v) Q E s) (hJ : J 0 m nw₀)
    (step : ∀ I s', FStepD prog w A h₀ env target body n (fun i v => ∃ t, v = .int (0 + (i : Int)) t) J I Q E { s with heap := s' })
    (fin : ∀ h' tk dr m' nw, Fr h₀ env.locals h' m' → News h₀ env.locals h' nw → J n m' nw → Q .next { s with heap := h', toks := tk, drawn := dr }) : ForGoD prog w A h₀ env target body Q E (.ref r) s := by
  obtain ⟨hI, F', N', ap, up⟩ := iter_facts (o := { cls := .type "range_iterator", data := .fields #[rawInt 0, rawInt (n : Int), rawInt 1] }) F N
  refine wpAny_pyIter_range hr hsm ?_
  rw [hlen]
  exact ForAtD.mk J rfl (SrcOk.range (a := 0) hh (hgo _)) hI (Heap.get?_push_size _ rfl) F' N' ap hJ (step _ _) fun h' tk dr m' nw F N _ hJ => fin h' tk dr m' nw F N hJ
theorem ForGoD.lstJ {ax : Addr} {its : Array Value} {Q : Flow → Shared → Prop} {rest nw₀ : List (Addr × Obj)} (J : Nat → (Str → Option Value) → List (Addr × Obj) → Prop) (hJn : ∀ i m nw h, J i m nw → News h₀ env.locals h nw → News h₀ env.locals h rest) (hh : A.handled = none) (F : Fr h₀ env.locals s.heap m) (N : News h₀ env.locals s.heap nw₀) (ht : s.heap.IsList ax its)
    (hgo : ∀ I i v (s : Shared) (Q : Unit → Shared → Prop) (E : Value → Shared → Prop), s.heap.IsListIter I ax i → Q () s → wpAny (model prog w) A (letOwnedTupleGo target (.ref I) v) Q E s)
    (src : ∀ h', (∀ b o, h₀.get? b = some o → h'.get? b = some o) → News h₀ env.locals h' rest → h'.IsList ax its) (hJ : J 0 m nw₀)
    (step : ∀ I s', FStepD prog w A h₀ env target body its.size (fun i v => its[i]? = some v) J I Q E { s with heap := s' })
    (fin : ∀ h' tk dr m' news', Fr h₀ env.locals h' m' → News h₀ env.locals h' news' → J its.size m' news' → Q .next { s with heap := h', toks := tk, drawn := dr }) : ForGoD prog w A h₀ env target body Q E (.ref ax) s := by
  obtain ⟨hI, F', N', ap, up⟩ := iter_facts (o := { cls := .type "list_iterator", data := .fields #[.ref ax, .int 0 0] }) F N
  have hne : ax ≠ s.heap.objs.size := let ⟨_, e, _⟩ := ht; Nat.ne_of_lt (Heap.lt_size e)
  exact wpAny_pyIter_list ht (ForAtD.mk J rfl (SrcOk.list hh hne (hgo _) fun j ys nw h' k N hJ => src h' k (hJn _ _ _ _ hJ N)) hI ⟨⟨_, Heap.get?_push_size _ rfl, rfl, rfl⟩, let ⟨o, e, r⟩ := ht; ⟨o, up _ _ e, r⟩⟩ F' N' ap hJ (step _ _) fun h' tk dr m' nw F N _ hJ => fin h' tk dr m' nw F N hJ)
end
end Mine
end
section
open PySem PySem.W PySem.Calls PyProof.Rows
open PyProof.Rows.LCg (NsObj lst lst_snoc ns_obj)
namespace Mine
def Made (X : List Addr) (K : Value → List (Addr × Obj) → Prop) (c : List (Addr × Obj)) (v : Value) (h h' : Heap) : Prop :=
  ∃ c', K v c' ∧ (∀ b o, b ∉ X → h.get? b = some o → h'.get? b = some o) ∧ ∀ p ∈ c', h'.get? p.1 = some p.2 ∧ (p.1 ∈ c.map (·.1) ∨ h.get? p.1 = none)
theorem made_back {h₀ h h' : Heap} {L : Addr} {m : Str → Option Value} {X : List Addr} {c c' rest : List (Addr × Obj)} (F : Fr h₀ L h m) (N : News h₀ L h (c ++ rest)) (hL : L ∉ X) (hX : ∀ b ∈ X, h₀.get? b = none) (hr : ∀ p ∈ rest, p.1 ∉ X)
    (k : ∀ b o, b ∉ X → h.get? b = some o → h'.get? b = some o) (hc : ∀ p ∈ c', h'.get? p.1 = some p.2 ∧ (p.1 ∈ c.map (·.1) ∨ h.get? p.1 = none)) : Fr h₀ L h' m ∧ News h₀ L h' (c' ++ rest) := by
  obtain ⟨oL, a1, a2, hoL, a3⟩ := F.ns
  refine ⟨⟨⟨oL, a1, a2, k L _ hL hoL, a3⟩, fun b o e => k b o (fun hm => by rw [hX b hm] at e; cases e) (F.keep b o e), F.above⟩, fun p hp => ?_⟩
  rcases List.mem_append.mp hp with hp | hp
  · obtain ⟨e, q⟩ := hc p hp
    rcases q with q | q
    · obtain ⟨p', hp', eq⟩ := List.mem_map.mp q
      have z := N p' (List.mem_append_left _ hp')
      exact ⟨e, eq ▸ z.2⟩
    · refine ⟨e, fun eL => ?_, ?_⟩
      · rw [eL, hoL] at q; cases q
      · cases e0 : h₀.get? p.1 with
        | none => rfl
        | some o => rw [F.keep _ _ e0] at q; cases q
  · have z := N p (List.mem_append_right _ hp)
    exact ⟨k _ _ (hr p hp) z.1, z.2⟩
theorem made_backI {h₀ h h' : Heap} {L I : Addr} {oI : Obj} {m : Str → Option Value} {X : List Addr} {c c' rest : List (Addr × Obj)} (F : Fr h₀ L h m) (N : News h₀ L h ((I, oI) :: (c ++ rest))) (hL : L ∉ X) (hX : ∀ b ∈ X, h₀.get? b = none) (hr : ∀ p ∈ rest, p.1 ∉ X) (hI : I ∉ X)
    (k : ∀ b o, b ∉ X → h.get? b = some o → h'.get? b = some o) (hc : ∀ p ∈ c', h'.get? p.1 = some p.2 ∧ (p.1 ∈ c.map (·.1) ∨ h.get? p.1 = none)) : Fr h₀ L h' m ∧ News h₀ L h' ((I, oI) :: (c' ++ rest)) := by
  obtain ⟨F', N'⟩ := made_back (rest := (I, oI) :: rest) F (fun p hp => N p (by
    rcases List.mem_append.mp hp with hp | hp
    · exact .tail _ (List.mem_append_left _ hp)
    · cases hp with
      | head => exact .head _
      | tail _ hp => exact .tail _ (List.mem_append_right _ hp))) hL hX (fun p hp => by
    cases hp with
    | head => exact hI
    | tail _ hp => exact hr p hp) k hc
  refine ⟨F', fun p hp => N' p ?_⟩
  cases hp with
  | head => exact List.mem_append_right _ (.head _)
  | tail _ hp => exact (List.mem_append.mp hp).elim (List.mem_append_left _) fun hp => List.mem_append_right _ (.tail _ hp)
theorem ap_back {h₀ h h' : Heap} {L I : Addr} {oI : Obj} {c c' rest : List (Addr × Obj)} (N : News h₀ L h ((I, oI) :: (c ++ rest))) (ap : ∀ p ∈ c ++ rest, p.1 ≠ I) (hc : ∀ p ∈ c', h'.get? p.1 = some p.2 ∧ (p.1 ∈ c.map (·.1) ∨ h.get? p.1 = none)) : ∀ p ∈ c' ++ rest, p.1 ≠ I := fun p hp => by
  rcases List.mem_append.mp hp with hp | hp
  · rcases (hc p hp).2 with q | q
    · obtain ⟨p', hp', e⟩ := List.mem_map.mp q
      exact e ▸ ap p' (List.mem_append_left _ hp')
    · intro e
      rw [e, (N (I, oI) (.head _)).1] at q; cases q
  · exact ap p (List.mem_append_right _ hp)
theorem fresh_back {s₀ h₀ h h' : Heap} {L I : Addr} {oI : Obj} {m : Str → Option Value} {c0 c c' rest : List (Addr × Obj)} (F : Fr h₀ L h m) (N : News h₀ L h ((I, oI) :: (c ++ rest))) (hfull : ∀ b o, s₀.get? b = some o → b ∉ (c0 ++ rest).map (·.1) → h₀.get? b = some o)
    (hfr : ∀ p ∈ c, p.1 ∈ c0.map (·.1) ∨ s₀.get? p.1 = none) (hc : ∀ p ∈ c', h'.get? p.1 = some p.2 ∧ (p.1 ∈ c.map (·.1) ∨ h.get? p.1 = none)) : ∀ p ∈ c', p.1 ∈ c0.map (·.1) ∨ s₀.get? p.1 = none := fun p hp => by
  rcases (hc p hp).2 with q | q
  · obtain ⟨p', hp', e⟩ := List.mem_map.mp q
    exact e ▸ hfr p' hp'
  · by_cases hm : p.1 ∈ (c0 ++ rest).map (·.1)
    · rw [List.map_append] at hm
      rcases List.mem_append.mp hm with hm | hm
      · exact .inl hm
      · obtain ⟨p', hp', e⟩ := List.mem_map.mp hm
        rw [← e, (N p' (.tail _ (List.mem_append_right _ hp'))).1] at q; cases q
    · refine .inr ?_
      cases e0 : s₀.get? p.1 with
      | none => rfl
      | some o => rw [F.keep _ _ (hfull _ _ e0 hm)] at q; cases q
theorem iter_lst {prog : Program} {w : World} {A : Around} {E : Value → Shared → Prop} {s : Shared} {h₀ : Heap} {L l : Addr} {m : Str → Option Value} {news : List (Addr × Obj)} {xs : Array Value} {n : Nat} {Q : Value → Shared → Prop} (F : Fr h₀ L s.heap m) (N : News h₀ L s.heap news) (hm : (l, listOf xs n) ∈ news)
    (h : ∀ (I : Addr) h', Fr h₀ L h' m → News h₀ L h' ((I, { cls := .type "list_iterator", data := .fields #[.ref l, .int 0 0] }) :: news) → (∀ p ∈ news, p.1 < I) → Q (.ref I) { s with heap := h' }) :
    wpAny (model prog w) A (call (.builtin "iter") [.ref l]) Q E s := by
  refine call_function_entry (by decide +kernel) (by decide +kernel) kdk_entry_iter (kdk_args_iter _) ?_
  unfold Builtin.«iter»
  refine wpAny_bind (m := someArgs "iter" 1 2 _) (wpAny_of_eq (a := [Value.ref l]) (by first | rfl | kernel_rfl!) ?_)
  show wpAny _ _ (pyIter (.ref l) >>= _) _ _ _
  refine wpAny_bind (wpAny_pyIter_list ⟨_, (N _ hm).1, rfl, _, rfl⟩ ?_)
  exact wpAny_pure ⟨_, rfl, h _ _ (F.push _) (News.push F N _ rfl) fun q hq => Heap.lt_size (N q hq).1⟩
theorem reduce_l (w : World) (k : Nat) (fa SL : Addr) (els : List Value) (n : Nat) (acc0 : Value) (c0 rest : List (Addr × Obj)) (K : Nat → Value → List (Addr × Obj) → Prop) (hSL : (SL, listOf els.toArray n) ∈ rest) (hdis : ∀ p ∈ rest, p.1 ∉ c0.map (·.1)) (h0 : K 0 acc0 c0) (hfk : keepIn (K2 w.params) (.ref fa) = true)
    (ha : ∃ a o, acc0 = .ref a ∧ (a, o) ∈ c0 ++ rest ∧ o.cls ≠ .type "tuple")
    (step : ∀ i v acc c, els[i]? = some v → K i acc c → CodCall w k fa [acc, v] (c ++ rest) (Made (c0.map (·.1)) (K (i + 1)) c)) :
    CodCall w (k + 1) 207 [.ref fa, .ref SL, acc0] (c0 ++ rest) (Made (c0.map (·.1)) (K els.length) c0) := by
  k_with_none
  k_with "execs cons" => (k_fold; (with_reducible refine PySem.wpAny_execs_cons ?_))
  k_with "exec For Name Name cons nil" => (k_here; k_dflt (refine for_exD (by k_asm) ?_))
  k_with "call builtin:iter" => (k_here; k_dflt (refine' iter_lst ?il1 ?il2 (List.mem_append_right _ hSL) ?_; (case il1 => k_asm); (case il2 => k_asm)); (intro I h' F' N' l1))
  k_with "compareOp Is ref ref" => (k_here; k_dflt (refine kto_is (News.get (by k_asm) (List.mem_cons_of_mem _ ha0)) (X.keeps (Fr.keep (by k_asm)) 199 _ rfl) hne ha1 ?_))
  k_with "eval Name" => (k_here; k_dflt (refine' ld ?kl1 ?kl2 ?_; (case kl1 => k_asm); (case kl2 => first | exact rfl | assumption | exact (hm _ (by decide)).trans rfl); k_whole))
  k_with "callWith ref" => (k_here; k_dflt (refine' callWith_K ?kc1 hfk ?_; (case kc1 => k_asm); k_whole))
  k_with "call ref" => (k_here; k_dflt (refine PySem.wpAny_call ?_); k_dflt (refine' step i v acc c hi2 hK2 _ _ _ _ _ _ _ _ ?kG ?kK ?kS ?kA ?kR ?_; (case kG => assumption); (case kK => exact Fr.keep (by assumption)); (case kS => exact led_size (by assumption)); (case kA => ((rename News _ _ _ _ => N0); exact fun p hp => ⟨(N0 p (.tail _ hp)).1, (N0 p (.tail _ hp)).2.2⟩)); (case kR => first | assumption | exact Room.deeper (by assumption) _ | exact Room.less (Room.deeper (by assumption) _) (by decide))); (intro v' h' tk' dr' hR'; (rename Fr _ _ _ _ => F0); (rename News _ _ _ _ => N0); obtain ⟨c', hK', hkk, hcc⟩ := hR'; obtain ⟨F', N'⟩ := made_backI F0 N0 hLX hX0 hdis hIX hkk hcc; have hap' := ap_back N0 ap hcc; have hfr' := fresh_back F0 N0 hfull hfr hcc; clear F0 N0))
  obtain ⟨a0, oa, rfl, ha0, ha1⟩ := ha
  refine cod_intro ?_
  intro loose mean mg mb A s R' g G hkg hsz hargs hfull R hret
  obtain ⟨hd0, dp0, fr0, gd0, un0⟩ := A
  obtain rfl : hd0 = none := R.hd
  have X := G.K; revert X; k_fill; intro X
  have T := G.T
  refine' enterGC (binds := [(Str.ofString "function", .ref fa), (Str.ofString "sequence", .ref SL), (Str.ofString "initial", .ref a0)]) ?k1 hkg hsz hargs ?k2 ?k3 ?k4 ?k5 ?k6 ?k7 ?_ ?c1 ?c2 ?c3 ?c4
  (case k1 => assumption)
  (case k2 => exact T.nolimit)
  (case k3 => exact Nat.lt_of_le_of_lt (Nat.le_add_right _ _) R.dp)
  (case k4 => k_is)
  (case k5 => k_is)
  (case k6 => first | exact BindsTo.of_eq rfl | exact binds_K (Frag.In.keeps (by assumption) hkg) rfl (by k_is) rfl rfl rfl)
  (case k7 => exact locs rfl)
  (case c1 => exact rfl)
  (case c2 => exact rfl)
  (case c3 => exact rfl)
  (case c4 => decide)
  intro L h₁ F N
  try dsimp only
  try k_fold
  have hne : a0 ≠ 199 := fun e => by
    have z := (hargs _ ha0).2
    rw [show (a0, oa).1 = 199 from e, X 199 _ rfl] at z; cases z
  have hX0 : ∀ b ∈ c0.map (·.1), g.get? b = none := fun b hb => by
    obtain ⟨p, hp, rfl⟩ := List.mem_map.mp hb
    exact (hargs p (List.mem_append_left _ hp)).2
  have hL0 : ∀ p ∈ c0, p.1 ≠ L := fun p hp => (N p (List.mem_append_left _ hp)).2.1
  k_steps
  (rename Fr _ _ _ _ => F0); (rename News _ _ _ _ => N0)
  have zI := N0 _ (.head _)
  have NR := news_tl N0
  have hLX : L ∉ c0.map (·.1) := fun hm => by
    obtain ⟨p, hp, e⟩ := List.mem_map.mp hm
    exact hL0 p hp e
  have hIX : I ∉ c0.map (·.1) := fun hm => by
    obtain ⟨p, hp, e⟩ := List.mem_map.mp hm
    exact absurd (e ▸ l1 p (List.mem_append_left _ hp)) (Nat.lt_irrefl _)
  refine wpAny_pyIter_listiter ⟨_, zI.1, rfl, rfl⟩ (ForAtD.mk (JF _ [Str.ofString "value", Str.ofString "element"] rest fun i m c => ∃ acc, m (Str.ofString "value") = some acc ∧ K i acc c ∧ ∀ p ∈ c, p.1 ∈ c0.map (·.1) ∨ s.heap.get? p.1 = none) rfl
    (SrcOk.list (its := els.toArray) rfl (Nat.ne_of_lt (l1 _ (List.mem_append_right _ hSL))) (fun _ _ _ _ _ _ h => go_name h) (fun j ys nw h' k N hJ => by cases hJ; exact ⟨_, (N _ (List.mem_append_right _ hSL)).1, rfl, _, rfl⟩)) ⟨zI.2.1, zI.2.2⟩
    ⟨⟨_, zI.1, rfl, rfl⟩, ⟨_, (NR _ (List.mem_append_right _ hSL)).1, rfl, _, rfl⟩⟩ F0 NR (fun p hp => Nat.ne_of_lt (l1 p hp)) ⟨fun _ _ => rfl, _, rfl, h0, fun p hp => .inl (List.mem_map_of_mem hp)⟩ ?_ ?_)
  · intro i v m nw oI h tk dr hi hv hJ F N ap
    cases hJ with
    | mk hm hK =>
      obtain ⟨acc, hacc, hK2, hfr⟩ := hK
      rename_i c
      have hi2 : els[i]? = some v := by simpa using hv
      try k_fold
      k_steps
      (refine' ForEndD.mk ?eF ?eN ?eA ?eJ; (case eF => assumption); (case eN => assumption); (case eA => exact hap'); (case eJ => exact JF.mk (setM (.head _) (setM (.tail _ (.head _)) hm)) ⟨_, rfl, hK', hfr'⟩))
  · intro h' tk dr m nw F N ap hJ
    cases hJ with
    | mk hm hK =>
      obtain ⟨acc, hacc, hK2, hfr⟩ := hK
      rename_i c
      dsimp only
      k_steps
      refine hret _ _ _ _ ⟨c, hK2, ?_, fun p hp => ⟨(N p (List.mem_append_left _ hp)).1, hfr p hp⟩⟩
      intro b o hb e
      by_cases hm2 : b ∈ (c0 ++ rest).map (·.1)
      · obtain ⟨p, hp, rfl⟩ := List.mem_map.mp hm2
        rcases List.mem_append.mp hp with hp0 | hp0
        · exact absurd (List.mem_map_of_mem hp0) hb
        · rw [(hargs p hp).1] at e
          rw [(N p (List.mem_append_right _ hp0)).1]; exact e
      · exact F.keep _ _ (hfull b o e hm2)
end Mine
end
open PySem PySem.W PyProof.Rows Mine in
local macro_rules | `(tactic| walk_at "te4") => `(tactic| first | assumption | exact news_tl (by assumption) | exact news_tl (news_tl (by assumption)) | exact news_take (by assumption) (by (repeat' (first | exact List.forall_mem_nil _ | refine List.forall_mem_cons.mpr ⟨by k_mem, ?_⟩))))
section
open PySem PySem.W PyProof.Rows
open PyProof.Rows.LCg (NsObj lst lst_snoc ns_obj)
namespace Mine
theorem truthy_lst {prog : Program} {w : World} {A : Around} {E : Value → Shared → Prop} {s : Shared} {l : Addr} {xs : Array Value} {n : Nat} {h₀ : Heap} {L : Addr} {news : List (Addr × Obj)} {Q : Bool → Shared → Prop} (N : News h₀ L s.heap news) (hm : (l, listOf xs n) ∈ news) (b : Bool) (hb : (!xs.isEmpty) = b) (hz : xs.size ≤ 4096)
    (h : Q b { s with toks := s.toks + 1 + 1 }) : wpAny (model prog w) A (truthy (.ref l)) Q E s := wpAny_truthy_list ⟨_, (N _ hm).1, rfl, _, rfl⟩ (by omega) (by rw [hb]; exact h)
noncomputable abbrev ignEs (w : World) (t1 t2 t3 : Tok) (MS DD IG : Addr) : List DictEntry :=
  [{ hash := PyData.keyHash w.params (Str.ofString "_mods"), key := .str (Str.ofString "_mods") t1, val := .ref MS }, { hash := PyData.keyHash w.params (Str.ofString "_dirs"), key := .str (Str.ofString "_dirs") t2, val := .ref DD },
   { hash := PyData.keyHash w.params (Str.ofString "_ignore"), key := .str (Str.ofString "_ignore") t3, val := .ref IG }]
noncomputable abbrev prg : Program := PySem.Challenge.rw_kt0042_01.row.prog
inductive IgnMade (w : World) (x dx : Addr) (S : Str → Bool) (ds : List Str) (h h' : Heap) : Prop
  | mk {MS DD IG : Addr} {t1 t2 t3 t : Tok} {oM oI : Obj} {l : List (Str × Tok)} {n : Nat} (k : ∀ b o, b ≠ dx → h.get? b = some o → h'.get? b = some o) (l1 : @LT.lt Nat _ x MS) (l2 : @LT.lt Nat _ MS DD) (l3 : @LT.lt Nat _ DD IG)
      (hM : h'.get? MS = some oM) (hD : h'.get? DD = some (lst (strValues l))) (hI : h'.get? IG = some oI) (hdx : h'.get? dx = some (dictOf (ignEs w t1 t2 t3 MS DD IG) 3))
      (fM : h.get? MS = none) (fD : h.get? DD = none) (fI : h.get? IG = none) (hn : n ≤ 100) (hS : StrSet prg w S n oM) (hl : l.map (·.1) = ds) (hd : oI.IsDictOf (strKind prg w) [(Str.ofString "<string>", .int 1 t)]) : IgnMade w x dx S ds h h'
theorem ign_made {w : World} {x dx MS DD IG EL L : Addr} {oE oM oI : Obj} {S : Str → Bool} {ds : List Str} {t1 t2 t3 t : Tok} {l : List (Str × Tok)} {n : Nat} {h g h' : Heap} {m : Str → Option Value}
    (hargs : ∀ p ∈ [(x, instObj 180 dx), (dx, dictOf [] 0), (EL, oE)], h.get? p.1 = some p.2 ∧ g.get? p.1 = none)
    (hfull : ∀ b o, h.get? b = some o → b ∉ [(x, instObj 180 dx), (dx, dictOf [] 0), (EL, oE)].map (·.1) → g.get? b = some o) (hx1 : @LT.lt Nat _ dx x) (hx2 : @LT.lt Nat _ EL dx)
    (F : Fr g L h' m) (N : News g L h' [(IG, oI), (DD, lst (strValues l)), (MS, oM), (x, instObj 180 dx), (dx, dictOf (ignEs w t1 t2 t3 MS DD IG) 3), (EL, oE)]) (l1 : @LT.lt Nat _ x MS) (l2 : @LT.lt Nat _ MS DD) (l3 : @LT.lt Nat _ DD IG)
    (hn : n ≤ 100) (hS : StrSet prg w S n oM) (hl : l.map (·.1) = ds) (hd : oI.IsDictOf (strKind prg w) [(Str.ofString "<string>", .int 1 t)]) : IgnMade w x dx S ds h h' := by
  have fresh : ∀ a o, (a, o) ∈ [(IG, oI), (DD, lst (strValues l)), (MS, oM)] → @LT.lt Nat _ x a → h.get? a = none := fun a o hm hlt => by
    cases q : h.get? a with
    | none => rfl
    | some o' =>
      have hne : a ∉ [x, dx, EL] := fun hm => by
        rcases List.mem_cons.mp hm with rfl | hm
        · exact absurd hlt (Nat.lt_irrefl _)
        rcases List.mem_cons.mp hm with rfl | hm
        · exact absurd (Nat.lt_trans hlt hx1) (Nat.lt_irrefl _)
        · rw [List.mem_singleton.mp hm] at hlt; exact absurd (Nat.lt_trans hlt (Nat.lt_trans hx2 hx1)) (Nat.lt_irrefl _)
      have z := (N (a, o) (List.mem_append_left [(x, instObj 180 dx), (dx, dictOf (ignEs w t1 t2 t3 MS DD IG) 3), (EL, oE)] hm)).2.2
      rw [hfull a o' q hne] at z; cases z
  refine IgnMade.mk (fun b o hb e => ?_) l1 l2 l3 (N (MS, oM) (by k_mem)).1 (N (DD, lst (strValues l)) (by k_mem)).1 (N (IG, oI) (by k_mem)).1 (N (dx, dictOf (ignEs w t1 t2 t3 MS DD IG) 3) (by k_mem)).1 (fresh _ _ (by k_mem) l1) (fresh _ _ (by k_mem) (Nat.lt_trans l1 l2)) (fresh _ _ (by k_mem) (Nat.lt_trans l1 (Nat.lt_trans l2 l3))) hn hS hl hd
  by_cases h1 : b ∈ [x, dx, EL]
  · rcases List.mem_cons.mp h1 with rfl | h1
    · rw [(hargs _ (.head _)).1] at e; rw [(N (b, instObj 180 dx) (by k_mem)).1]; exact e
    rcases List.mem_cons.mp h1 with rfl | h1
    · exact absurd rfl hb
    · obtain rfl := List.mem_singleton.mp h1
      rw [(hargs (b, oE) (by k_mem)).1] at e; rw [(N (b, oE) (by k_mem)).1]; exact e
  · exact F.keep _ _ (hfull b o e h1)
structure DirOk (b : Str) (d : Str) : Prop where
  ok : ∃ gs, NormOk b gs ∧ normF gs = d
theorem norm_dir {w : World} {b d : Str} (t : Tok) (D : DirOk b d) : PureCall w 6 157 [.str b t] (fun t => .str d t) := by
  obtain ⟨gs, K, rfl⟩ := D.ok
  exact normpath_p w b t gs K
theorem init1_c (w : World) (x dx DL : Addr) (bs : List (Str × Tok)) (n : Nat) (f : Str → Str) (hx1 : @LT.lt Nat _ dx x) (hx2 : @LT.lt Nat _ DL dx) (hbs : bs ≠ []) (hbl : bs.length ≤ 100) (hf : ∀ b ∈ bs, DirOk b.1 (f b.1)) :
    CodCall w 7 170 [.ref x, .none, .ref DL] [(x, instObj 180 dx), (dx, dictOf [] 0), (DL, listOf (strValues bs).toArray n)] (fun v h h' => v = .none ∧ IgnMade w x dx (fun _ => false) (bs.map fun b => f b.1) h h') := by
  k_with_none
  k_with "execs cons" => (k_fold; (with_reducible refine PySem.wpAny_execs_cons ?_))
  k_with "call ref" => ((with_reducible show wpAny _ _ (call (Value.ref 157) _) _ _ _); refine' norm_dir _ (hf _ (List.mem_of_getElem? hbi)) _ _ _ _ _ _ _ _ ?kG ?kR ?_; (case kG => exact Gnd.keeps (by assumption) (Fr.keep (by assumption))); (case kR => first | assumption | exact Room.deeper (by assumption) _ | exact Room.less (Room.deeper (by assumption) _) (by decide)); (intro t' h' tk' k'; (rename Fr _ _ _ _ => F0); (rename News _ _ _ _ => N0); have F' := Fr.keeps F0 k'; have N' := News.grown N0 k'; clear F0 N0; (try dsimp only)))
  k_with "call type:set nil nil" => (k_here; k_dflt (refine' set_emptyN ?k1 ?k2 ?_; (case k1 => k_asm); (case k2 => k_asm)); (intro D h' F' N' l1; (try k_lt l1)))
  k_with "truthy ref" => (k_here; k_dflt (refine' truthy_lst ?k1 ?k2 true hb1 hb2 ?_; (case k1 => k_asm); (case k2 => k_mem)))
  k_with "eval ListComp" => (k_here; k_dflt (refine comp_ev none (by k_asm) (by rfl) (by rfl) (by decide) (by intro _ _; rfl) (by intro _; rfl) ?_))
  k_with "storeName" => ((with_reducible show wpAny _ _ (storeName (compEnvC _ _ _ _) _ _) _ _ _); k_here; k_dflt (refine' store_own ?so1 ?so2 ?so3 hIC hnC ?_ ?so4 ?so5; (case so4 => rfl); (case so5 => rfl); (case so1 => k_asm); (case so2 => k_asm); (case so3 => k_asm)); (intro h' oC' m' F' N' hC' hx' hy'))
  have hb1 : (!(strValues bs).toArray.isEmpty) = true := by cases bs with | nil => exact absurd rfl hbs | cons b bs => rfl
  have hb2 : (strValues bs).toArray.size ≤ 4096 := by simp [strValues]; omega
  refine cod_intro ?_
  intro loose mean mg mb A s R' g G hkg hsz hargs hfull R hret
  obtain ⟨hd0, dp0, fr0, gd0, un0⟩ := A
  obtain rfl : hd0 = none := R.hd
  have X := G.K; revert X; k_fill; intro X
  have T := G.T
  refine' enterGC (binds := [(Str.ofString "self", .ref x), (Str.ofString "modules", .none), (Str.ofString "dirs", .ref DL)]) ?k1 hkg hsz hargs ?k2 ?k3 ?k4 ?k5 ?k6 ?k7 ?_ ?c1 ?c2 ?c3 ?c4
  (case k1 => assumption)
  (case k2 => exact T.nolimit)
  (case k3 => exact Nat.lt_of_le_of_lt (Nat.le_add_right _ _) R.dp)
  (case k4 => k_is)
  (case k5 => k_is)
  (case k6 => first | exact BindsTo.of_eq rfl | exact binds_K (Frag.In.keeps (by assumption) hkg) rfl (by k_is) rfl rfl rfl)
  (case k7 => exact locs rfl)
  (case c1 => exact rfl)
  (case c2 => exact rfl)
  (case c3 => exact rfl)
  (case c4 => decide)
  intro L h₁ F N
  try dsimp only
  try k_fold
  k_steps
  rename_i F0 N0
  refine CompGo.lst (c₀ := []) (fun i ys c => c = [] ∧ ∃ l : List (Str × Tok), ys = strValues l ∧ l.map (·.1) = (bs.take i).map (fun b => f b.1)) F0 N0 rfl ⟨_, News.get N0 (by k_mem), rfl, _, rfl⟩ (by simp [strValues]; unfold sizeLine; omega) (fun _ _ _ _ _ _ _ h => go_name h)
    (fun h' k N => ⟨_, News.get N (by k_mem), rfl, _, rfl⟩) ⟨rfl, [], rfl, rfl⟩ ?_ ?_
  · intro I C D cx o1 o2 o3 i v ys oI oC m₂ cells nw h tk dr E' hi hv hJ hoC hcc F N ap
    obtain ⟨rfl, l, rfl, hl⟩ := hJ
    obtain ⟨b, u, hbi, rfl⟩ := vals_at hv
    obtain ⟨hIC, hnC⟩ := turn_off (ys := strValues l) o1 o2 o3 hcc ap
    obtain rfl := hcc
    dsimp only
    k_fold
    k_steps
    refine' TurnEnd.mk (cells := []) ?te1 ?te2 ?te3 ?te4 ?te5 ?te6
    (case te1 => assumption)
    (case te2 => exact rfl)
    (case te3 => assumption)
    (case te4 => walk_at "te4")
    (case te5 => exact ap)
    (case te6 => exact JC.mk (c := []) ⟨rfl, _, strV_snoc, by rw [List.map_append, hl, take_at hbi, List.map_append]; rfl⟩)
  · intro D h' tk dr ys nw hD F N ap hJ
    obtain ⟨rfl, l, rfl, hl⟩ := hJ
    have l1 := lt_all N0 hD
    clear N0 F0
    dsimp only [List.nil_append] at N ap ⊢
    k_lt l1
    k_steps
    refine' hret _ _ _ _ ⟨rfl, ign_made hargs hfull hx1 hx2 ?ig1 ?ig2 ?ig3 ?ig4 ?ig5 (Nat.zero_le _) set0_is ?ig6 ?ig7⟩
    (case ig1 => assumption)
    (case ig2 => assumption)
    (case ig7 => assumption)
    (case ig6 => rw [hl, List.take_of_length_le]; simp [strValues])
    all_goals (refine ltN ?_; omega)
end Mine
end
section
open PySem PySem.W PyProof.Rows
open PyProof.Rows.LCg (NsObj lst lst_snoc ns_obj)
namespace Mine
theorem init2_c (w : World) (x dx ML : Addr) (bs : List (Str × Tok)) (n : Nat) (hx1 : @LT.lt Nat _ dx x) (hx2 : @LT.lt Nat _ ML dx) (hbl : bs.length ≤ 100) :
    CodCall w 7 170 [.ref x, .ref ML, .none] [(x, instObj 180 dx), (dx, dictOf [] 0), (ML, listOf (strValues bs).toArray n)] (fun v h h' => v = .none ∧ IgnMade w x dx (fun k => bs.any (fun b => b.1 == k)) [] h h') := by
  k_with_none
  k_with "execs cons" => (k_fold; (with_reducible refine PySem.wpAny_execs_cons ?_))
  k_with "call type:set cons nil" => (k_here; k_dflt (refine' set_strsN ?ss0 ?ss1 ?ss2 ?ss3 hb3 ?_; (case ss0 => rfl); (case ss1 => k_asm); (case ss2 => k_asm); (case ss3 => k_mem)); (intro D h' tk' o' n' hn' hS' F' N' l1; (try k_lt l1)))
  k_with "call type:set" => (k_here; k_dflt (refine' set_strsN ?ss0 ?ss1 ?ss2 ?ss3 hb3 ?_; (case ss0 => rfl); (case ss1 => k_asm); (case ss2 => k_asm); (case ss3 => k_mem)); (intro D h' tk' o' n' hn' hS' F' N' l1; (try k_lt l1)))
  k_with "call type:set nil nil" => (k_here; k_dflt (refine' set_emptyN ?k1 ?k2 ?_; (case k1 => k_asm); (case k2 => k_asm)); (intro D h' F' N' l1; (try k_lt l1)))
  k_with "truthy ref" => (k_here; k_dflt (refine' truthy_lst ?k1 ?k2 _ hb1 hb2 ?_; (case k1 => k_asm); (case k2 => k_mem)))
  have hb2 : (strValues bs).toArray.size ≤ 4096 := by simp [strValues]; omega
  have hb3 : bs.length + 1 < scanBound := by unfold scanBound; omega
  have hb0 : (bs = [] ∧ (!(strValues bs).toArray.isEmpty) = false) ∨ (!(strValues bs).toArray.isEmpty) = true := by cases bs with | nil => exact .inl ⟨rfl, rfl⟩ | cons b bs => exact .inr rfl
  refine cod_intro ?_
  intro loose mean mg mb A s R' g G hkg hsz hargs hfull R hret
  obtain ⟨hd0, dp0, fr0, gd0, un0⟩ := A
  obtain rfl : hd0 = none := R.hd
  have X := G.K; revert X; k_fill; intro X
  have T := G.T
  refine' enterGC (binds := [(Str.ofString "self", .ref x), (Str.ofString "modules", .ref ML), (Str.ofString "dirs", .none)]) ?k1 hkg hsz hargs ?k2 ?k3 ?k4 ?k5 ?k6 ?k7 ?_ ?c1 ?c2 ?c3 ?c4
  (case k1 => assumption)
  (case k2 => exact T.nolimit)
  (case k3 => exact Nat.lt_of_le_of_lt (Nat.le_add_right _ _) R.dp)
  (case k4 => k_is)
  (case k5 => k_is)
  (case k6 => first | exact BindsTo.of_eq rfl | exact binds_K (Frag.In.keeps (by assumption) hkg) rfl (by k_is) rfl rfl rfl)
  (case k7 => exact locs rfl)
  (case c1 => exact rfl)
  (case c2 => exact rfl)
  (case c3 => exact rfl)
  (case c4 => decide)
  intro L h₁ F N
  try dsimp only
  try k_fold
  rcases hb0 with ⟨hbe, hb1⟩ | hb1
  · k_steps
    refine' hret _ _ _ _ ⟨rfl, ign_made (l := []) hargs hfull hx1 hx2 ?ig1 ?ig2 ?ig3 ?ig4 ?ig5 (Nat.zero_le _) ?ig9 rfl ?ig7⟩
    (case ig1 => assumption)
    (case ig2 => assumption)
    (case ig7 => assumption)
    (case ig9 => rw [hbe]; exact set0_is)
    all_goals (refine ltN ?_; omega)
  · k_steps
    refine' hret _ _ _ _ ⟨rfl, ign_made (l := []) hargs hfull hx1 hx2 ?jg1 ?jg2 ?jg3 ?jg4 ?jg5 ?jg8 ?jg9 rfl ?jg7⟩
    (case jg1 => assumption)
    (case jg2 => assumption)
    (case jg7 => assumption)
    (case jg9 => assumption)
    (case jg8 => omega)
    all_goals (refine ltN ?_; omega)
end Mine
end
section
open PySem PySem.W PyProof.Rows
open PyProof.Rows.LCg (NsObj lst lst_snoc ns_obj)
namespace Mine
def Says (P : Prop) (v : Int) : Prop := (P → v = 1) ∧ (¬ P → v = 0)
def Hit (S : Str → Bool) (ds : List Str) (f md : Str) : Prop := S md = true ∨ (∃ k, S k = true ∧ Txt.startswith md (k ++ Str.ofString ".") = true) ∨ ∃ d ∈ ds, Txt.startswith f (d ++ Str.ofString "/") = true
theorem Says.yes {P : Prop} (h : P) : Says P 1 := ⟨fun _ => rfl, fun n => absurd h n⟩
theorem Says.no {P : Prop} (h : ¬ P) : Says P 0 := ⟨fun p => absurd p h, fun _ => rfl⟩
section
variable {K : Type} [DecidableEq K] {kvs : List (K × Value)} {k k' : K} {v : Value}
theorem find_map_other (h : k' ≠ k) : ∀ kvs : List (K × Value), ((kvs.map (fun kv => if kv.1 = k then (kv.1, v) else kv)).find? fun kv => kv.1 = k').map (·.2) = (kvs.find? fun kv => kv.1 = k').map (·.2)
  | [] => rfl
  | p :: kvs => by
    rw [List.map_cons, List.find?_cons, List.find?_cons]
    by_cases e : p.1 = k
    · rw [if_pos e]
      rw [show decide (p.1 = k') = false from decide_eq_false fun q => h (q.symm.trans e)]
      exact find_map_other h kvs
    · rw [if_neg e]
      cases decide (p.1 = k') with
      | true => rfl
      | false => exact find_map_other h kvs
theorem find_map_self : ∀ kvs : List (K × Value), kvs.any (fun kv => kv.1 = k) = true → ((kvs.map (fun kv => if kv.1 = k then (kv.1, v) else kv)).find? fun kv => kv.1 = k).map (·.2) = some v
  | [], e => by cases e
  | p :: kvs, e => by
    rw [List.map_cons, List.find?_cons]
    by_cases q : p.1 = k
    · rw [if_pos q, show decide (p.1 = k) = true from decide_eq_true q]; rfl
    · rw [if_neg q, show decide (p.1 = k) = false from decide_eq_false q]
      rw [List.any_cons, decide_eq_false q, Bool.false_or] at e
      exact find_map_self kvs e
theorem stored_other (h : k' ≠ k) : valueAt (stored kvs k v) k' = valueAt kvs k' := by
  unfold stored valueAt
  split
  · exact find_map_other h kvs
  · rw [List.find?_append]
    cases kvs.find? fun kv => decide (kv.1 = k') with
    | some q => rfl
    | none => rw [Option.none_or, List.find?_cons, show decide (k = k') = false from decide_eq_false fun q => h q.symm]; rfl
theorem stored_self : valueAt (stored kvs k v) k = some v := by
  unfold stored valueAt
  split
  · next e => exact find_map_self kvs e
  · next e =>
    rw [List.find?_append, List.find?_eq_none.mpr fun q hq hk => e (List.any_eq_true.mpr ⟨q, hq, hk⟩), Option.none_or, List.find?_cons, show decide (k = k) = true from decide_eq_true rfl]; rfl
theorem stored_len : (stored kvs k v).length ≤ kvs.length + 1 := by
  unfold stored
  split
  · rw [List.length_map]; exact Nat.le_succ _
  · rw [List.length_append]; exact Nat.le_refl _
end
theorem StrSet.setOf {prog : Program} {w : World} {S : Str → Bool} {n : Nat} {o : Obj} {h : Heap} {a : Addr} (hS : StrSet prog w S n o) (e : h.get? a = some o) : h.SetOf (strKind prog w) a S n := by
  obtain ⟨hex, hd, hel, hmem, hb, hf, hn, hl⟩ := hS
  exact ⟨o, _, _, _, e, hex, hd, hel, hmem, hb, hf, hn⟩
inductive Named (w : World) (IG : Addr) (P : Prop) (md : Str) (kvs : List (Str × Value)) (h h' : Heap) : Value → Prop
  | mk {u : Int} {t : Tok} {oI' : Obj} {kvs' : List (Str × Value)} (hu : Says P u) (hI : h'.get? IG = some oI') (hd : oI'.IsDictOf (strKind prg w) kvs') (hl : kvs'.length ≤ kvs.length + 1) (ho : ∀ k, k ≠ md → valueAt kvs' k = valueAt kvs k)
      (hs : ∃ t', valueAt kvs' md = some (.int u t')) (k : ∀ b o, b ≠ IG → h.get? b = some o → h'.get? b = some o) : Named w IG P md kvs h h' (.int u t)
section
variable {w : World} {A : Around} {E : Value → Shared → Prop} {s : Shared} {h₀ : Heap} {L IG : Addr} {m : Str → Option Value} {news : List (Addr × Obj)} {oI : Obj} {kvs : List (Str × Value)}
theorem ign_set {md : Str} {tm t : Tok} {u : Int} {S0 : Heap} {Q : Unit → Shared → Prop} (F : Fr h₀ L s.heap m) (N : News h₀ L s.heap news) (hm : (IG, oI) ∈ news) (hd : oI.IsDictOf (strKind prg w) kvs) (hsz : kvs.length ≤ 1000)
    (k0 : ∀ b o, S0.get? b = some o → s.heap.get? b = some o)
    (h : ∀ h', Fr h₀ L h' m → News h₀ L h' [] → (∀ P t, Says P u → Named w IG P md kvs S0 h' (.int u t)) → Q () { s with heap := h', toks := s.toks + 1 }) : wpAny (model prg w) A (setItem (.ref IG) (.str md tm) (.int u t)) Q E s := by
  have z := N _ hm
  refine wpAny_setItem_pairs (k := md) (hsz := Nat.le_trans hsz (Nat.le_of_ble_eq_true rfl)) (strKind_is _ _ _ _) (Heap.dictOf_iff.mpr ⟨oI, z.1, hd⟩) fun h' hmm hs => ?_
  obtain ⟨o', ho', hd'⟩ := Heap.dictOf_iff.mp hmm
  exact h h' (F.change hs z.2.1 z.2.2) News.nil fun P t hu => Named.mk hu ho' hd' stored_len (fun k hk => stored_other hk) ⟨_, stored_self⟩ fun b o hb e => hs.extBut b o hb (k0 b o e)
end
theorem names_c (w : World) (x dx MS DD IG : Addr) (t1 t2 t3 tf tm : Tok) (oM oI : Obj) (S : Str → Bool) (n nD : Nat) (l : List (Str × Tok)) (kvs : List (Str × Value)) (f md : Str) (hS : StrSet prg w S n oM) (hd : oI.IsDictOf (strKind prg w) kvs)
    (hk9 : kvs.length ≤ 1000) (hf : f.length ≤ 4096) (hmd : md.length ≤ 4096) (hSl : ∀ k, S k = true → k.length ≤ 4096) (hll : ∀ b ∈ l, b.1.length ≤ 4096) (hln : l.length ≤ 1000)
    (hc : ∀ v, valueAt kvs md = some v → ∃ u t, v = .int u t ∧ Says (Hit S (l.map (·.1)) f md) u) :
    CodCall w 3 177 [.ref x, .str f tf, .str md tm] [(IG, oI), (DD, listOf (strValues l).toArray nD), (MS, oM), (x, instObj 180 dx), (dx, dictOf (ignEs w t1 t2 t3 MS DD IG) 3)] (fun v h h' => Named w IG (Hit S (l.map (·.1)) f md) md kvs h h' v) := by
  k_with_none
  k_with "execs cons" => (k_fold; (with_reducible refine PySem.wpAny_execs_cons ?_))
  k_with "exec For Name Attribute cons nil" => (k_here; k_dflt (refine for_ex (by k_asm) ?_))
  k_with "eval Name" => (k_here; k_dflt (refine' ld ?kl1 ?kl2 ?_; (case kl1 => k_asm); (case kl2 => first | exact rfl | exact (hm _ (by decide)).trans rfl); k_whole))
  k_with "compareOp In" => ((with_reducible show wpAny _ _ (compareOp _ _ (Value.ref IG)) _ _ _); k_here; k_dflt (refine' kda_in ?ki1 ?ki2 hd hIG (strKind_is _ _ _ _) _ rfl ?_; (case ki1 => k_asm); (case ki2 => k_mem)))
  k_with "compareOp In str ref" => (first | ((with_reducible show wpAny _ _ (compareOp _ _ (Value.ref IG)) _ _ _); k_here; k_dflt (refine' kda_in ?ki1 ?ki2 hd hIG (strKind_is _ _ _ _) _ rfl ?_; (case ki1 => k_asm); (case ki2 => k_mem))) | ((with_reducible show wpAny _ _ (compareOp _ _ (Value.ref MS)) _ _ _); k_here; k_dflt (refine' wpAny_inSet_of (strKind_is _ _ _ _) rfl (hS.setOf (News.get (by k_asm) ?kj1)) ?_; (case kj1 => k_mem))))
  k_with "getItem ref str" => ((obtain ⟨u9, t9, e9, hu9⟩ := hcs (by assumption)); k_here; k_dflt (refine' wpAny_getItem_of (strKind_is _ _ _ _) (Heap.DictOf.mapOf (kda_dict ?kt1 ?kt2 hd)) e9 ?_; (case kt1 => k_asm); (case kt2 => k_mem)))
  k_with "setItem ref str int" => (k_here; k_dflt (refine' ign_set ?ks1 ?ks2 ?ks3 hd hk9 ?ks4 ?_; (case ks1 => k_asm); (case ks2 => k_asm); (case ks3 => k_mem); (case ks4 => exact led_keep (by assumption) (by assumption) hargs hfull (by (repeat' (first | exact List.forall_mem_nil _ | refine List.forall_mem_cons.mpr ⟨by k_mem, ?_⟩))))); (intro h' F' N' hn'))
  refine cod_intro ?_
  intro loose mean mg mb A s R' g G hkg hsz hargs hfull R hret
  obtain ⟨hd0, dp0, fr0, gd0, un0⟩ := A
  obtain rfl : hd0 = none := R.hd
  have X := G.K; revert X; k_fill; intro X
  have T := G.T
  refine' enterGC (binds := [(Str.ofString "self", .ref x), (Str.ofString "filename", .str f tf), (Str.ofString "modulename", .str md tm)]) ?k1 hkg hsz hargs ?k2 ?k3 ?k4 ?k5 ?k6 ?k7 ?_ ?c1 ?c2 ?c3 ?c4
  (case k1 => assumption)
  (case k2 => exact T.nolimit)
  (case k3 => exact Nat.lt_of_le_of_lt (Nat.le_add_right _ _) R.dp)
  (case k4 => k_is)
  (case k5 => k_is)
  (case k6 => first | exact BindsTo.of_eq rfl | exact binds_K (Frag.In.keeps (by assumption) hkg) rfl (by k_is) rfl rfl rfl)
  (case k7 => exact locs rfl)
  (case c1 => exact rfl)
  (case c2 => exact rfl)
  (case c3 => exact rfl)
  (case c4 => decide)
  intro L h₁ F N
  try dsimp only
  try k_fold
  have hcs : (valueAt kvs md).isSome = true → ∃ u t, valueAt kvs md = some (.int u t) ∧ Says (Hit S (l.map (·.1)) f md) u := fun e => by
    obtain ⟨v, hv⟩ := Option.isSome_iff_exists.mp e
    obtain ⟨u, t, rfl, hu⟩ := hc v hv
    exact ⟨u, t, hv, hu⟩
  have hIG := not_modules X (hargs (IG, oI) (.head _)).2
  k_steps
  · dsimp only
    exact hret _ _ _ _ (Named.mk hu9 (News.get (by assumption) (by k_mem)) hd (Nat.le_succ _) (fun _ _ => rfl) ⟨_, e9⟩ fun b o _ e => led_keep (by assumption) (by assumption) hargs hfull (by (repeat' (first | exact List.forall_mem_nil _ | refine List.forall_mem_cons.mpr ⟨by k_mem, ?_⟩))) b o e)
  · dsimp only
    exact hret _ _ _ _ (hn' _ _ (Says.yes (.inl (by assumption))))
  have hS0 : S md = false := by assumption
  (rename Fr _ _ _ _ => F0); (rename News _ _ _ _ => N0)
  refine ForGo.setF (c₀ := []) F0 N0 rfl (News.get N0 (by k_mem)) hS [Str.ofString "mod"] (fun ord i m c => c = [] ∧ ∀ j, j < i → ∀ k t, ord[j]? = some (.str k t) → Txt.startswith md (k ++ Str.ofString ".") = false) (fun ord ho => ⟨rfl, fun j hj => absurd hj (Nat.not_lt_zero _)⟩)
    (fun h' k N => News.get N (by k_mem)) ?_ ?_
  · intro ord tl I i v m c oI2 h tk dr ho hv hm hK F N ap
    obtain ⟨rfl, hK⟩ := hK
    obtain ⟨k, u, rfl, hk⟩ := ho.mem i v hv
    have hkl := hSl k hk
    dsimp only
    simp only [List.nil_append, List.cons_append] at N
    try k_fold
    k_steps
    · exact hret _ _ _ _ (hn' _ _ (Says.yes (.inr (.inl ⟨k, hk, by assumption⟩))))
    · have hK2 : ∀ j, j < i + 1 → ∀ k t, ord[j]? = some (.str k t) → Txt.startswith md (k ++ Str.ofString ".") = false := fun j hj k' t' e => by
        rcases Nat.lt_succ_iff_lt_or_eq.mp hj with h | rfl
        · exact hK j h k' t' e
        · rw [hv] at e; cases e; assumption
      (refine' ForEnd.mk ?eF ?eN ?eA ?eJ; (case eF => assumption); (case eN => assumption); (case eA => exact ap); (case eJ => exact JF.mk (c := []) (setM (.head _) hm) ⟨rfl, hK2⟩))
  · intro ord h' tk dr m c ho hm hK F N
    obtain ⟨rfl, hK⟩ := hK
    have hno : ∀ k, S k = true → Txt.startswith md (k ++ Str.ofString ".") = false := fun k hk => by
      obtain ⟨i, u, e⟩ := ho.all k hk
      exact hK i (List.getElem?_eq_some_iff.mp e).1 k u e
    dsimp only
    simp only [List.nil_append, List.cons_append] at N
    k_steps
    (rename Fr _ _ _ _ => F0); (rename News _ _ _ _ => N0)
    refine ForGo.lstF (c₀ := []) F0 N0 [Str.ofString "d"] (fun i m c => c = [] ∧ ∀ j, j < i → ∀ d t, l[j]? = some (d, t) → Txt.startswith f (d ++ Str.ofString "/") = false) rfl ⟨_, News.get N0 (by k_mem), rfl, _, rfl⟩
      (fun _ _ _ _ _ _ _ h => go_name h) (fun h' k N => ⟨_, News.get N (by k_mem), rfl, _, rfl⟩) ⟨rfl, fun j hj => absurd hj (Nat.not_lt_zero _)⟩ ?_ ?_
    · intro I i v m2 c oI2 h tk2 hi hv hm2 hK F N ap
      obtain ⟨rfl, hK⟩ := hK
      obtain ⟨d, u, hdi, rfl⟩ := vals_at hv
      have hdl := hll _ (List.mem_of_getElem? hdi)
      have hm : ∀ y, y ∉ [Str.ofString "mod", Str.ofString "d"] → m2 y = List.lookup y ([(Str.ofString "self", .ref x), (Str.ofString "filename", .str f tf), (Str.ofString "modulename", .str md tm)] : List (Str × Value)).reverse := fun y hy =>
        (hm2 y fun e => hy (by rw [List.mem_singleton.mp e]; exact .tail _ (.head _))).trans (hm y fun e => hy (by rw [List.mem_singleton.mp e]; exact .head _))
      dsimp only
      simp only [List.nil_append, List.cons_append] at N
      try k_fold
      k_steps
      · exact hret _ _ _ _ (hn' _ _ (Says.yes (.inr (.inr ⟨d, List.mem_map_of_mem (f := fun x : Str × Tok => x.1) (List.mem_of_getElem? hdi), by assumption⟩))))
      · have hK2 : ∀ j, j < i + 1 → ∀ d t, l[j]? = some (d, t) → Txt.startswith f (d ++ Str.ofString "/") = false := fun j hj d' t' e => by
          rcases Nat.lt_succ_iff_lt_or_eq.mp hj with h | rfl
          · exact hK j h d' t' e
          · rw [hdi] at e; cases e; assumption
        (refine' ForEnd.mk ?eF ?eN ?eA ?eJ; (case eF => assumption); (case eN => assumption); (case eA => exact ap); (case eJ => exact JF.mk (c := []) (setM (.head _) hm2) ⟨rfl, hK2⟩))
    · intro h2 tk2 m2 c hm2 hK2 F N
      obtain ⟨rfl, hK2⟩ := hK2
      have hm : ∀ y, y ∉ [Str.ofString "mod", Str.ofString "d"] → m2 y = List.lookup y ([(Str.ofString "self", .ref x), (Str.ofString "filename", .str f tf), (Str.ofString "modulename", .str md tm)] : List (Str × Value)).reverse := fun y hy =>
        (hm2 y fun e => hy (by rw [List.mem_singleton.mp e]; exact .tail _ (.head _))).trans (hm y fun e => hy (by rw [List.mem_singleton.mp e]; exact .head _))
      have hno2 : ¬ Hit S (l.map (·.1)) f md := fun h => by
        rcases h with h | ⟨k, hk, h⟩ | ⟨d, hd, h⟩
        · cases hS0.symm.trans h
        · rw [hno k hk] at h; cases h
        · obtain ⟨⟨d', t'⟩, hm9, rfl⟩ := List.mem_map.mp hd
          obtain ⟨j, hj⟩ := List.getElem?_of_mem hm9
          rw [hK2 j (by simpa [strValues] using (List.getElem?_eq_some_iff.mp hj).1) d' t' hj] at h; cases h
      dsimp only
      simp only [List.nil_append, List.cons_append] at N
      k_steps
      exact hret _ _ _ _ (hn' _ _ (Says.no hno2))
end Mine
end
section
open PySem PySem.W PySem.Calls PyProof.Rows
open PyProof.Rows.LCg (NsObj lst lst_snoc ns_obj)
namespace Mine
noncomputable abbrev intsV (l : List (Int × Tok)) : List Value := l.map fun x => .int x.1 x.2
theorem ints_are : ∀ l : List (Int × Tok), IntsAre (intsV l) (l.map (·.1))
  | [] => .nil
  | x :: l => .cons x.1 x.2 (ints_are l)
noncomputable abbrev tupO (l : List Value) : Obj := { cls := .type "tuple", data := .seq l.toArray }
structure Row where
  path : Str
  tp : Tok
  ch : Int
  tc : Tok
  T : Addr
  M : Addr
  ms : List (Int × Tok)
  nM : Nat
noncomputable abbrev Row.marks (r : Row) : List Int := r.ms.map (·.1)
noncomputable abbrev Row.tup (r : Row) : Obj := tupO [.str r.path r.tp, .int r.ch r.tc, .ref r.M]
noncomputable abbrev Row.lst (r : Row) : Obj := listOf (intsV r.ms).toArray r.nM
noncomputable abbrev Row.objs (r : Row) : List (Addr × Obj) := [(r.T, r.tup), (r.M, r.lst)]
section
variable {prog : Program} {w : World} {A : Around} {E : Value → Shared → Prop} {s : Shared} {h₀ : Heap} {L : Addr} {m : Str → Option Value} {news rest : List (Addr × Obj)}
theorem tup_item {value slice : Expr} {t : Addr} {l : List Value} {k : Int} {u : Tok} {j : Nat} {x : Value} {Q : Value → Shared → Prop} (N : News h₀ L s.heap news) (hm : (t, tupO l) ∈ news)
    (hlo : -(2 ^ 63) ≤ k) (hhi : k < 2 ^ 63) (hj : seqIndex? k l.length = some j) (hx : l[j]? = some x) (h : Q x s)
    (hs : subscripted slice false (.ref t) (.int k u) = operate [.ref t, .int k u] (getItem (.ref t) (.int k u)) := by with_unfolding_all rfl) :
    wpAny (model prog w) A (subscriptTail value slice (.ref t) (.int k u)) Q E s := item_tupleT ⟨_, (N _ hm).1, rfl, _, rfl⟩ hlo hhi hj hx h hs
theorem lst_item {value slice : Expr} {l : Addr} {xs : List Value} {n : Nat} {k : Int} {u : Tok} {x : Value} {Q : Value → Shared → Prop} (N : News h₀ L s.heap news) (hm : (l, listOf xs.toArray n) ∈ news) (h0 : 0 ≤ k) (hhi : k < 2 ^ 63)
    (hx : xs[k.toNat]? = some x) (h : Q x s)
    (hs : subscripted slice false (.ref l) (.int k u) = operate [.ref l, .int k u] (getItem (.ref l) (.int k u)) := by with_unfolding_all rfl) :
    wpAny (model prog w) A (subscriptTail value slice (.ref l) (.int k u)) Q E s :=
  have hl : s.heap.IsList l xs.toArray := ⟨_, (N _ hm).1, rfl, _, rfl⟩
  tail_any hl.typeIs PySem.F.slot_list_getitem.lookup (wpAny_getItem_list hl h0 hhi (by simpa using hx) h) hs
theorem in_ints {l : Addr} {xs : List (Int × Tok)} {n : Nat} {k : Int} {t : Tok} {Q : Value → Shared → Prop} (N : News h₀ L s.heap news) (hm : (l, listOf (intsV xs).toArray n) ∈ news) (h : Q (.bool ((xs.map (·.1)).any (· == k))) s) :
    wpAny (model prog w) A (compareOp .In (.int k t) (.ref l)) Q E s := in_list_ints ⟨_, (N _ hm).1, rfl, _, rfl⟩ (ints_are xs) h
theorem dict_set_head {d : Addr} {o : Obj} {kvs : List (Str × Value)} {k : Str} {tk : Tok} {v : Value} {Q : Unit → Shared → Prop} (F : Fr h₀ L s.heap m) (N : News h₀ L s.heap ((d, o) :: rest)) (off : ∀ p ∈ rest, p.1 ≠ d) (hd : o.IsDictOf (strKind prog w) kvs) (hsz : kvs.length ≤ 4096)
    (h : ∀ h' o', Fr h₀ L h' m → News h₀ L h' ((d, o') :: rest) → o'.IsDictOf (strKind prog w) (stored kvs k v) → Q () { s with heap := h', toks := s.toks + 1 }) : wpAny (model prog w) A (setItem (.ref d) (.str k tk) v) Q E s := by
  have z := N _ (.head _)
  refine wpAny_setItem_pairs (k := k) (hsz := Nat.le_trans hsz (Nat.le_of_ble_eq_true rfl)) (strKind_is _ _ _ _) (Heap.dictOf_iff.mpr ⟨o, z.1, hd⟩) fun h' hmm hs => ?_
  obtain ⟨o', ho', hd'⟩ := Heap.dictOf_iff.mp hmm
  refine h h' o' (F.change hs z.2.1 z.2.2) (fun p hp => ?_) hd'
  cases hp with
  | head => exact ⟨ho', z.2⟩
  | tail _ hp =>
    have y := N p (.tail _ hp)
    exact ⟨hs.extBut _ _ (off p hp) y.1, y.2⟩
end
noncomputable def intOf : Value → Option Int | .int u _ => some u | _ => none
structure RelD (kvs : List (Str × Value)) (d : Str → Option Int) : Prop where
  nums : ∀ p v, valueAt kvs p = some v → ∃ u t, v = .int u t
  val : ∀ p, (valueAt kvs p).bind intOf = d p
theorem RelD.got {kvs : List (Str × Value)} {d : Str → Option Int} (R : RelD kvs d) {p : Str} (h : (valueAt kvs p).isSome = true) : ∃ u t, valueAt kvs p = some (.int u t) ∧ d p = some u := by
  obtain ⟨v, hv⟩ := Option.isSome_iff_exists.mp h
  obtain ⟨u, t, rfl⟩ := R.nums p v hv
  exact ⟨u, t, hv, by rw [← R.val, hv]; rfl⟩
theorem RelD.miss {kvs : List (Str × Value)} {d : Str → Option Int} (R : RelD kvs d) {p : Str} (h : (valueAt kvs p).isSome = false) : d p = none := by
  rw [← R.val]
  cases q : valueAt kvs p with
  | none => rfl
  | some v => rw [q] at h; cases h
theorem RelD.set {kvs : List (Str × Value)} {d : Str → Option Int} (R : RelD kvs d) (p : Str) (u : Int) (t : Tok) : RelD (stored kvs p (.int u t)) (fun q => if q = p then some u else d q) where
  nums := fun q v h => by
    by_cases e : q = p
    · subst e; rw [stored_self] at h; cases h; exact ⟨_, _, rfl⟩
    · rw [stored_other e] at h; exact R.nums q v h
  val := fun q => by
    by_cases e : q = p
    · subst e; rw [stored_self, if_pos rfl]; rfl
    · rw [stored_other e, if_neg e]; exact R.val q
noncomputable def downMark (d : Str → Option Int) (path : Str) (marks : List Int) : Int :=
  match d (dirnameF path) with
  | some u => if marks.any (· == u) = true then u else marks.headD 0
  | none => marks.headD 0
noncomputable def downF (d : Str → Option Int) (path : Str) (marks : List Int) : Str → Option Int := fun q => if q = path then some (downMark d path marks) else d q
section
variable {α : Type} {rows : List α} {f : α → Value} {p : α → Bool} {i : Nat} {r : α}
theorem rows_at {v : Value} (h : (rows.map f).toArray[i]? = some v) : ∃ r, rows[i]? = some r ∧ v = f r := by
  simp only [List.getElem?_toArray, List.getElem?_map, Option.map_eq_some_iff] at h
  obtain ⟨r, hr, rfl⟩ := h
  exact ⟨r, hr, rfl⟩
theorem filt_yes (h : rows[i]? = some r) (hp : p r = true) : ((rows.take i).filter p).map f ++ [f r] = ((rows.take (i + 1)).filter p).map f := by
  rw [take_at h, List.filter_append, List.map_append, List.filter_cons, if_pos hp]; rfl
theorem filt_no (h : rows[i]? = some r) (hp : p r = false) : ((rows.take i).filter p).map f = ((rows.take (i + 1)).filter p).map f := by
  rw [take_at h, List.filter_append, List.filter_cons, if_neg (by rw [hp]; exact Bool.false_ne_true)]; simp
end
section
variable {prog : Program} {w : World} {A : Around} {E : Value → Shared → Prop} {s : Shared} {h₀ : Heap} {L : Addr} {m : Str → Option Value} {news rest : List (Addr × Obj)}
theorem len_lst {l : Addr} {xs : List Value} {n : Nat} {Q : Value → Shared → Prop} (N : News h₀ L s.heap news) (hm : (l, listOf xs.toArray n) ∈ news) (hz : xs.length ≤ 4096) (h : Q (.int xs.length (s.toks + 1)) { s with toks := s.toks + 1 + 1 }) :
    wpAny (model prog w) A (call (.builtin "len") [.ref l]) Q E s := Calls.call_len_list (items := xs.toArray) ⟨_, (N _ hm).1, rfl, _, rfl⟩ (by simp; omega) (by simpa using h)
theorem sum_lst {l : Addr} {xs : List (Int × Tok)} {n : Nat} {Q : Value → Shared → Prop} (F : Fr h₀ L s.heap m) (N : News h₀ L s.heap news) (hh : A.handled = none) (hm : (l, listOf (intsV xs).toArray n) ∈ news)
    (h : ∀ h' tk t', Fr h₀ L h' m → News h₀ L h' news → Q (.int (xs.map (·.1)).sum t') { s with heap := h', toks := tk }) : wpAny (model prog w) A (call (.builtin "sum") [.ref l]) Q E s :=
  LSm.sum_ints F N hh ⟨_, (N _ hm).1, rfl, _, rfl⟩ (ints_are xs) h
theorem max_lst {l : Addr} {xs : List (Int × Tok)} {n : Nat} {Q : Value → Shared → Prop} (F : Fr h₀ L s.heap m) (N : News h₀ L s.heap news) (hh : A.handled = none) (hm : (l, listOf (intsV xs).toArray n) ∈ news) (hne : 0 < xs.length)
    (h : ∀ h' M t tk, Fr h₀ L h' m → News h₀ L h' news → M ∈ xs.map (·.1) → (∀ a, a ∈ xs.map (·.1) → a ≤ M) → Q (.int M t) { s with heap := h', toks := tk }) : wpAny (model prog w) A (call (.builtin "max") [.ref l]) Q E s :=
  max_list_N hh F N ⟨_, (N _ hm).1, rfl, _, rfl⟩ (ints_are xs) (by simpa using hne) h
theorem add_lst {l b : Addr} {vs ws : List Value} {n n2 : Nat} {Q : Value → Shared → Prop} (F : Fr h₀ L s.heap m) (N : News h₀ L s.heap news) (hl : (l, listOf vs.toArray n) ∈ news) (hb : (b, listOf ws.toArray n2) ∈ news) (hz : vs.length + ws.length ≤ 4096)
    (h : ∀ (D : Addr) h', Fr h₀ L h' m → News h₀ L h' ((D, listOf (vs ++ ws).toArray 0) :: news) → (∀ p ∈ news, p.1 < D) → Q (.ref D) { s with heap := h' }) : wpAny (model prog w) A (binaryOp .Add (.ref l) (.ref b)) Q E s :=
  add_lists F N ⟨_, (N _ hl).1, rfl, _, rfl⟩ ⟨_, (N _ hb).1, rfl, _, rfl⟩ (fun h' F' N' => h _ h' F' N' fun p hp => Heap.lt_size (N p hp).1) (Nat.le_trans hz (Nat.le_of_ble_eq_true rfl))
end
structure PRow where
  path : Str
  ch : Int
  ms : List Int
noncomputable abbrev Row.abs (r : Row) : PRow := ⟨r.path, r.ch, r.marks⟩
noncomputable def gIns (rs : List PRow) (folder : Str) : List PRow := rs.filter fun r => dirnameF r.path == folder
noncomputable def gVote (ins : List PRow) (x : Int) : Int := ((ins.filter fun r => r.ms.any (· == x)).length : Nat)
noncomputable def gMost (ins : List PRow) : Int := max (gVote ins 0) (max (gVote ins 1) (gVote ins 2))
noncomputable def gRow (rs : List PRow) (folder : Str) : PRow :=
  ⟨folder, ((gIns rs folder).map (·.ch)).sum + ((gIns rs folder).length : Nat) - gMost (gIns rs folder), ((List.range 3).filter fun i : Nat => gVote (gIns rs folder) i == gMost (gIns rs folder)).map fun i : Nat => (i : Int)⟩
theorem tri_at {a b c : Tok} {i : Nat} {v : Value} (h : (#[Value.int 0 a, .int 1 b, .int 2 c] : Array Value)[i]? = some v) : i < 3 ∧ ∃ t, v = .int (i : Int) t := by
  match i with
  | 0 => cases h; exact ⟨by decide, _, rfl⟩
  | 1 => cases h; exact ⟨by decide, _, rfl⟩
  | 2 => cases h; exact ⟨by decide, _, rfl⟩
  | i + 3 => simp at h
theorem range_yes {α : Type} {f : Nat → α} {i : Nat} : (List.range i).map f ++ [f i] = (List.range (i + 1)).map f := by rw [List.range_succ, List.map_append]; rfl
theorem intsV_snoc {l : List (Int × Tok)} {x : Int} {t : Tok} : intsV l ++ [.int x t] = intsV (l ++ [(x, t)]) := by simp
theorem intsV_at {l : List (Int × Tok)} {xs : List Int} (h : l.map (·.1) = xs) {i : Nat} {x : Int} (hx : xs[i]? = some x) : ∃ t, (intsV l)[i]? = some (.int x t) := by
  subst h
  rw [List.getElem?_map, Option.map_eq_some_iff] at hx
  obtain ⟨⟨a, t⟩, e, rfl⟩ := hx
  exact ⟨t, by rw [List.getElem?_map, e]; rfl⟩
theorem rfilt_yes {α : Type} {f : Nat → α} {p : Nat → Bool} {i : Nat} (h : p i = true) : ((List.range i).filter p).map f ++ [f i] = ((List.range (i + 1)).filter p).map f := by
  rw [List.range_succ, List.filter_append, List.map_append, List.filter_cons, if_pos h]; rfl
theorem rfilt_no {α : Type} {f : Nat → α} {p : Nat → Bool} {i : Nat} (h : p i = false) : ((List.range i).filter p).map f = ((List.range (i + 1)).filter p).map f := by
  rw [List.range_succ, List.filter_append, List.filter_cons, if_neg (by rw [h]; exact Bool.false_ne_true)]; simp
theorem most_is {a b c M : Int} (h : M ∈ [a, b, c]) (hl : ∀ x ∈ [a, b, c], x ≤ M) : M = max a (max b c) := by
  have h1 := hl a (.head _)
  have h2 := hl b (.tail _ (.head _))
  have h3 := hl c (.tail _ (.tail _ (.head _)))
  rcases List.mem_cons.mp h with rfl | h
  · omega
  rcases List.mem_cons.mp h with rfl | h
  · omega
  · obtain rfl := List.mem_singleton.mp h; omega
theorem keeps_all {h₀ s₀ h : Heap} {L : Addr} {m : Str → Option Value} {args news : List (Addr × Obj)} (F : Fr h₀ L h m) (N : News h₀ L h news) (hargs : ∀ p ∈ args, s₀.get? p.1 = some p.2 ∧ h₀.get? p.1 = none)
    (hfull : ∀ b o, s₀.get? b = some o → b ∉ args.map (·.1) → h₀.get? b = some o) (sub : ∀ p ∈ args, p ∈ news) : ∀ b o, s₀.get? b = some o → h.get? b = some o := led_keep F N hargs hfull sub
theorem fresh_new {h₀ s₀ h : Heap} {L x : Addr} {o : Obj} {args news : List (Addr × Obj)} (N : News h₀ L h news) (hx : (x, o) ∈ news) (hL : @LT.lt Nat _ L x) (hlt : ∀ p ∈ args, p.1 < L)
    (hfull : ∀ b o, s₀.get? b = some o → b ∉ args.map (·.1) → h₀.get? b = some o) : s₀.get? x = none := by
  cases q : s₀.get? x with
  | none => rfl
  | some o' =>
    have z := (N _ hx).2.2
    rw [hfull x o' q fun hm => by
      obtain ⟨p, hp, e⟩ := List.mem_map.mp hm
      have := hlt p hp
      rw [e] at this
      exact absurd (Nat.lt_trans this hL) (Nat.lt_irrefl _)] at z
    cases z
def Gathered (rows : List Row) (folder : Str) (v : Value) (h h' : Heap) : Prop :=
  ∃ (RL' : Addr) (r : Row) (n : Nat), v = .ref RL' ∧ (∀ b o, h.get? b = some o → h'.get? b = some o) ∧ h'.get? RL' = some (listOf ((rows ++ [r]).map fun r => Value.ref r.T).toArray n) ∧ (∀ p ∈ r.objs, h'.get? p.1 = some p.2) ∧ h.get? RL' = none ∧
    (∀ p ∈ r.objs, h.get? p.1 = none) ∧ r.abs = gRow (rows.map Row.abs) folder
theorem gathered {s₀ g h' : Heap} {L D T M : Addr} {m : Str → Option Value} {args news : List (Addr × Obj)} {rows : List Row} {folder : Str} {ch : Int} {t1 t2 : Tok} {ms : List (Int × Tok)} {n nM : Nat} (F : Fr g L h' m) (N : News g L h' news)
    (hargs : ∀ p ∈ args, s₀.get? p.1 = some p.2 ∧ g.get? p.1 = none) (hfull : ∀ b o, s₀.get? b = some o → b ∉ args.map (·.1) → g.get? b = some o) (hlt : ∀ p ∈ args, p.1 < L) (sub : ∀ p ∈ args, p ∈ news)
    (hD : (D, listOf (rows.map (fun r : Row => Value.ref r.T) ++ [Value.ref T]).toArray n) ∈ news) (hT : (T, tupO [.str folder t1, .int ch t2, .ref M]) ∈ news) (hM : (M, listOf (intsV ms).toArray nM) ∈ news) (lD : @LT.lt Nat _ L D) (lT : @LT.lt Nat _ L T) (lM : @LT.lt Nat _ L M)
    (e : (⟨folder, ch, ms.map (·.1)⟩ : PRow) = gRow (rows.map Row.abs) folder) : Gathered rows folder (.ref D) s₀ h' :=
  ⟨D, ⟨folder, t1, ch, t2, T, M, ms, nM⟩, n, rfl, keeps_all F N hargs hfull sub, by rw [List.map_append]; exact (N _ hD).1, fun p hp => by
    cases hp with
    | head => exact (N _ hT).1
    | tail _ hp => obtain rfl := List.mem_singleton.mp hp; exact (N _ hM).1, fresh_new N hD lD hlt hfull, fun p hp => by
    cases hp with
    | head => exact fresh_new N hT lT hlt hfull
    | tail _ hp => obtain rfl := List.mem_singleton.mp hp; exact fresh_new N hM lM hlt hfull, e⟩
end Mine
end
section
open PySem PySem.W PySem.Calls PyProof.Rows
namespace Mine
theorem deeper_c (w : World) (a b : Str) (ta tb : Tok) (ha : a.length ≤ 4096) (hb : b.length ≤ 4096) : CodCall w 3 242 [.str a ta, .str b tb] [] (fun v h h' => (∃ t, v = .int (Txt.count b (Str.ofString "/") - Txt.count a (Str.ofString "/")) t) ∧ ∀ x o, h.get? x = some o → h'.get? x = some o) := by
  k_with_none
  k_with "execs cons" => (k_fold; (with_reducible refine PySem.wpAny_execs_cons ?_))
  k_with "call builtin:str.count" => (k_here; k_dflt (refine' SC.count ?_))
  refine cod_intro ?_
  intro loose mean mg mb A s R' g G hkg hsz hargs hfull R hret
  obtain ⟨hd0, dp0, fr0, gd0, un0⟩ := A
  obtain rfl : hd0 = none := R.hd
  have X := G.K; revert X; k_fill; intro X
  have T := G.T
  refine' enterGC (binds := [(Str.ofString "one", .str a ta), (Str.ofString "other", .str b tb)]) ?k1 hkg hsz hargs ?k2 ?k3 ?k4 ?k5 ?k6 ?k7 ?_ ?c1 ?c2 ?c3 ?c4
  (case k1 => assumption)
  (case k2 => exact T.nolimit)
  (case k3 => exact Nat.lt_of_le_of_lt (Nat.le_add_right _ _) R.dp)
  (case k4 => k_is)
  (case k5 => k_is)
  (case k6 => first | exact BindsTo.of_eq rfl | exact binds_K (Frag.In.keeps (by assumption) hkg) rfl (by k_is) rfl rfl rfl)
  (case k7 => exact locs rfl)
  (case c1 => exact rfl)
  (case c2 => exact rfl)
  (case c3 => exact rfl)
  (case c4 => decide)
  intro L h₁ F N
  try dsimp only
  try k_fold
  k_steps
  exact hret _ _ _ _ ⟨⟨_, rfl⟩, led_keep (by assumption) (by assumption) hargs hfull fun _ h => (List.not_mem_nil h).elim⟩
end Mine
end
section
open PySem PySem.W PySem.Calls PyProof.Rows
namespace Mine
section
variable {w : World} {A : Around} {E : Value → Shared → Prop} {Q : Bool → Shared → Prop} {R : Result → Shared → Prop} {g h : Heap} {gs : Array GenState} {d : Drawn} {os : OsState} {m : Str → Option Value} {L tk tu tv I J d1 d2 : Nat} {u v : Str} {p : KP} {news : List (Addr × Obj)}
theorem Led.perm {g h : Heap} {L : Addr} {m : Str → Option Value} {l l' : List (Addr × Obj)} (H : Led g L m h l) (hp : l'.Perm l) : Led g L m h l' :=
  ⟨H.F, fun p hm => H.N p (hp.mem_iff.mp hm), (hp.map (·.1)).nodup_iff.mpr H.D⟩
theorem cm_entry_hooked : entryFor table "proto.getattr_hooked" = some Builtin.«proto.getattr_hooked» := entryFor_of_tree (by kernel_rfl)
set_option cleanup.letToHave false in
theorem obj_get (hkn : ∀ p ∈ knK w, g.get? p.1 = some p.2) (hlo : 8 ≤ g.objs.size) (H : Led g L m h ((I + 8, insK p d1 #[some (.str v tv)]) :: (p.led w ++ news)))
    (hq : ∀ h', Led g L m h' ((I + 8, insK p d1 #[some (.str v tv)]) :: (p.led w ++ news)) → R (.ok (.ret (.str v tv))) ⟨h', gs, d, tk, os⟩) :
    codeAny (model pQ w) A (.builtin "proto.getattr_hooked" ⟨[.ref (I + 8), .str (Str.ofString "obj") tu], []⟩) R ⟨h, gs, d, tk, os⟩ := by
  refine codeAny_builtin cm_entry_hooked ?_
  refine go_let ?_
  intro T1
  with_reducible refine go_use hkn hlo 3000 0 [5,6,6,7,8,8,6,6,7] H fun vars hv hx => ?_
  obtain rfl := vars0 hv
  refine go_call1 (as := [p.E2 + 8, p.E3 + 8, p.E3 + 8, p.E4 + 8, p.E4 + 8, p.E2 + 8, p.E3 + 8, p.E3 + 8, I + 8]) (led := (I + 8, insK p d1 #[some (.str v tv)]) :: (p.led w ++ news)) (tk := tk) (c := .call (.builtin "member_descriptor.__get__") ⟨[.ref (p.E4 + 8), .ref (I + 8), .ref (p.E3 + 8)], []⟩) (by kernel_rfl) fun h H => ?_
  refine code_let ?_
  intro R1
  refine codeAny_of_tree ?_
  show wpAny _ _ (callAny (.builtin "member_descriptor.__get__") _) _ _ _
  with_reducible refine go_use hkn hlo 3000 0 [8] H fun vars hv hx => ?_
  obtain rfl := vars0 hv
  refine go_end1 (as := [p.E4 + 8]) (led := (I + 8, insK p d1 #[some (.str v tv)]) :: (p.led w ++ news)) (tk := tk) (t := pure (.again (.builtin "member_descriptor.__get__" ⟨[.ref (p.E4 + 8), .ref (I + 8), .ref (p.E3 + 8)], []⟩))) (by kernel_rfl) fun h H => ?_
  refine wpAny_pure ⟨Code.quiet_builtin _ (by decide +kernel), codeAny_builtin cm_entry_mdget ?_⟩
  with_unfolding_all refine stuck_bind (X := Builtin.Getset_descriptor.descrCheckInstance (.ref (p.E4 + 8)) (.ref (I + 8))) ?_
  refine descr_check (H.get (.tail _ (.tail _ (.tail _ (.head _))))) rfl rfl rfl (H.get (.head _)) rfl (H.get (.tail _ (.head _))) rfl rfl ?_
  with_reducible refine go_use hkn hlo 3000 0 [8,8] H fun vars hv hx => ?_
  obtain rfl := vars0 hv
  refine go_end1 (as := [p.E4 + 8, p.E4 + 8]) (led := (I + 8, insK p d1 #[some (.str v tv)]) :: (p.led w ++ news)) (tk := tk) (t := pure (.again (.builtin "proto.slot" ⟨[.ref (I + 8), .ref (p.E4 + 8)], []⟩))) (by kernel_rfl) fun h H => ?_
  refine wpAny_pure ⟨Code.quiet_builtin _ (by decide +kernel), codeAny_builtin cm_entry_slot ?_⟩
  with_reducible refine go_use hkn hlo 3000 0 [8,8,5,6,5] H fun vars hv hx => ?_
  obtain rfl := vars0 hv
  refine go_end1 (as := [I + 8, p.E3 + 8, I + 8, p.E4 + 8, p.E4 + 8]) (led := (I + 8, insK p d1 #[some (.str v tv)]) :: (p.led w ++ news)) (tk := tk) (t := pure (.done (.ret (.str v tv)))) (by kernel_rfl) fun h H => ?_
  refine wpAny_pure ?_
  show wpAny _ _ _ _ _ _
  with_reducible refine go_use hkn hlo 3000 0 [] H fun vars hv hx => ?_
  obtain rfl := vars0 hv
  refine go_end1 (as := []) (led := (I + 8, insK p d1 #[some (.str v tv)]) :: (p.led w ++ news)) (tk := tk) (t := pure (.done (.ret (.str v tv)))) (by kernel_rfl) fun h H => ?_
  exact wpAny_pure (hq h H)
noncomputable abbrev wB (w : World) (b : Bool) : World := w.withFollow "special-get-raises" b
noncomputable abbrev ledP (w : World) (p : KP) (I J d1 d2 tv tu : Nat) (v u : Str) : List (Addr × Obj) := (I + 8, insK p d1 #[some (.str v tv)]) :: (J + 8, insK p d2 #[some (.str u tu)]) :: p.led w
noncomputable abbrev frL (w : World) (tk I J : Nat) : Obj := ⟨.type "frame", none, .dict (List.toArray [en (Str.ofString "self") (nh w (Str.ofString "self")) tk (.ref (I + 8)), en (Str.ofString "other") (nh w (Str.ofString "other")) (tk + 1) (.ref (J + 8))]) 2, #[]⟩
noncomputable abbrev envL (p : KP) (D3 : Nat) : Env := { scope := (fdL p.l p.f).scope, locals := D3 + 8, globals := 3, cells := [(Str.ofString "mycmp", p.l + 9)], qual := Str.ofString "cmp_to_key.<locals>.K.__lt__.<locals>.", func := some (p.f 15 + 8), code := .ref (p.f 14 + 8), frame := some (D3 + 8) }
set_option cleanup.letToHave false in
theorem lt_callB (w0 : World) (b : Bool) {loose : List Str} {mean : ExcName → Option Value} {mg mb : Str → Option Value} (G : Gnd (wB w0 b) loose mean mg mb g) (hlv : v.length ≤ 4096) (hlu : u.length ≤ 4096) (Rm : Room A 5) (hkn : ∀ p ∈ knK (wB w0 b), g.get? p.1 = some p.2) (hlo : 8 ≤ g.objs.size) (H : Led g L m h (ledP (wB w0 b) p I J d1 d2 tv tu v u ++ news))
    (hq : ∀ h' tk', Led g L m h' (ledP (wB w0 b) p I J d1 d2 tv tu v u ++ news) → ∀ d', R (.ok (.ret (.bool (decide (Txt.count u (Str.ofString "/") - Txt.count v (Str.ofString "/") < 0))))) ⟨h', gs, d', tk', os⟩) :
    codeAny (model pQ (wB w0 b)) A (.call (.ref (p.f 15 + 8)) ⟨[.ref (I + 8), .ref (J + 8)], []⟩) R ⟨h, gs, d, tk, os⟩ := by
  have hl := G.T.nolimit
  have hd : A.depth < recursionLimit := Nat.lt_of_le_of_lt (Nat.le_add_right _ _) Rm.dp
  refine codeAny_of_tree ?_
  show wpAny _ _ (callAny (.ref (p.f 15 + 8)) _) _ _ _
  with_reducible refine go_use hkn hlo 3000 1 [11,14,5,0,5,0] H fun vars hv hx => ?_
  obtain ⟨D1, rfl⟩ := vars1 hv hx
  refine go_stop1 (as := [D1 + 8, D1 + 8, D1 + 8, D1 + 8, p.f 14 + 8, p.f 15 + 8]) (led := (D1 + 8, frL (wB w0 b) tk I J) :: (ledP (wB w0 b) p I J d1 d2 tv tu v u ++ news)) (tk := tk + 2) (by kernel_rfl) fun h H => ?_
  with_unfolding_all refine stuck_bind (X := enterFrame 0) ?_
  refine wpAny_enterFrame (hl.keeps H.F.keep) (Nat.lt_of_le_of_lt (Nat.le_of_eq (by kernel_rfl)) hd) ?_
  with_reducible refine go_use hkn hlo 3000 0 [] H fun vars hv hx => ?_
  obtain rfl := vars0 hv
  refine go_endL (tk := tk + 2) (t := pure (.again (.func (match (fdL p.l p.f).body with | .stmts b => b | _ => []) (envL p D1)))) (by kernel_rfl) fun h H => ?_
  replace H : Led g L m h ((D1 + 8, frL (wB w0 b) tk I J) :: (ledP (wB w0 b) p I J d1 d2 tv tu v u ++ news)) := H
  refine wpAny_pure ⟨by rfl, codeAny_of_tree ?_⟩
  refine go_let ?_
  intro T1
  with_reducible refine go_use hkn hlo 3000 0 [17,5,6,8,8,9] H fun vars hv hx => ?_
  obtain rfl := vars0 hv
  refine go_call1 (as := [p.E2 + 8, p.E3 + 8, p.E3 + 8, I + 8, D1 + 8, p.l + 9]) (led := (D1 + 8, frL (wB w0 b) tk I J) :: (ledP (wB w0 b) p I J d1 d2 tv tu v u ++ news)) (tk := tk + 3) (c := .builtin "proto.getattr_hooked" ⟨[.ref (I + 8), .str (Str.ofString "obj") (tk + 2)], []⟩) (by kernel_rfl) fun h H => ?_
  have perm1 : ((I + 8, insK p d1 #[some (.str v tv)]) :: (p.led (wB w0 b) ++ ((D1 + 8, frL (wB w0 b) tk I J) :: (J + 8, insK p d2 #[some (.str u tu)]) :: news))).Perm ((D1 + 8, frL (wB w0 b) tk I J) :: (ledP (wB w0 b) p I J d1 d2 tv tu v u ++ news)) := ((List.perm_middle.trans (.cons _ List.perm_middle)).cons _).trans (.swap ..)
  have perm2 : ((J + 8, insK p d2 #[some (.str u tu)]) :: (p.led (wB w0 b) ++ ((D1 + 8, frL (wB w0 b) tk I J) :: (I + 8, insK p d1 #[some (.str v tv)]) :: news))).Perm ((D1 + 8, frL (wB w0 b) tk I J) :: (ledP (wB w0 b) p I J d1 d2 tv tu v u ++ news)) := (((List.perm_middle.trans (.cons _ List.perm_middle)).cons _).trans (.swap ..)).trans (.cons _ (.swap ..))
  refine code_let ?_
  intro R1
  refine obj_get hkn hlo (H.perm perm1) fun h H => ?_
  replace H := H.perm perm1.symm
  show wpAny _ _ _ _ _ _
  refine go_let ?_
  intro T2
  with_reducible refine go_use hkn hlo 3000 0 [5,7,8,8,9] H fun vars hv hx => ?_
  obtain rfl := vars0 hv
  refine go_call1 (as := [p.E2 + 8, p.E3 + 8, p.E3 + 8, J + 8, D1 + 8]) (led := (D1 + 8, frL (wB w0 b) tk I J) :: (ledP (wB w0 b) p I J d1 d2 tv tu v u ++ news)) (tk := tk + 4) (c := .builtin "proto.getattr_hooked" ⟨[.ref (J + 8), .str (Str.ofString "obj") (tk + 3)], []⟩) (by kernel_rfl) fun h H => ?_
  refine code_let ?_
  intro R2
  refine obj_get hkn hlo (H.perm perm2) fun h H => ?_
  replace H := H.perm perm2.symm
  show wpAny _ _ _ _ _ _
  refine go_let ?_
  intro T3
  have hk9 : ∀ p ∈ [(242, o242 (wB w0 b).params)], g.get? p.1 = some p.2 := fun p hp => by rw [List.mem_singleton.mp hp]; exact G.K _ _ rfl
  with_reducible refine go_use hk9 hlo 3000 0 [0] H fun vars hv hx => ?_
  obtain rfl := vars0 hv
  refine go_call1 (as := [242]) (led := (D1 + 8, frL (wB w0 b) tk I J) :: (ledP (wB w0 b) p I J d1 d2 tv tu v u ++ news)) (tk := tk + 4) (c := .call (.ref 242) ⟨[.str v tv, .str u tu], []⟩) (by kernel_rfl) fun h H => ?_
  refine code_let ?_
  intro R3
  have hun : (A.under (.func (match (fdL p.l p.f).body with | .stmts b => b | _ => []) (envL p D1))).units = A.units + 3 := by kernel_rfl
  have hde : (A.under (.func (match (fdL p.l p.f).body with | .stmts b => b | _ => []) (envL p D1))).depth = A.depth + 1 := by kernel_rfl
  refine deeper_c (wB w0 b) v u tv tu hlv hlu loose mean mg mb _ _ _ g G H.F.keep (Nat.le_trans H.F.above (Nat.le_of_lt H.F.ns.lt)) (fun _ hm => absurd hm List.not_mem_nil) ⟨Rm.hd, by have := Rm.dp; omega, by have := Rm.un; omega⟩ fun v' h' tk' d' hR => ?_
  obtain ⟨⟨t', rfl⟩, hk'⟩ := hR
  replace H : Led g L m h' _ := ⟨H.F.kept hk', H.N.grown hk', H.D⟩
  replace hq : ∀ h' tk', Led g L m h' (ledP (wB w0 b) p I J d1 d2 tv tu v u ++ news) → ∀ d', R (.ok (.ret (.bool (decide (Txt.count u (Str.ofString "/") - Txt.count v (Str.ofString "/") < 0))))) ⟨h', gs, d', tk', os⟩ := hq
  revert hq
  generalize Txt.count u (Str.ofString "/") - Txt.count v (Str.ofString "/") = x
  intro hq
  show wpAny _ _ _ _ _ _
  cases b
  · refine go_let ?_
    intro T4
    with_reducible refine go_use hkn hlo 3000 0 [] H fun vars hv hx => ?_
    obtain rfl := vars0 hv
    refine go_call1 (as := []) (led := (D1 + 8, frL (wB w0 false) tk I J) :: (ledP (wB w0 false) p I J d1 d2 tv tu v u ++ news)) (tk := tk' + 1) (c := .call (.builtin "int.__lt__") ⟨[.int x t', .int 0 tk'], []⟩) (by kernel_rfl) fun h H => ?_
    refine codeAny_call_builtin_code (Code.quiet_builtin _ (by decide +kernel)) (wpAny_of_eq (show checkBuiltinCall "int.__lt__" _ = pure () by kernel_rfl) (codeAny_builtin entry_int_lt ?_))
    show wpAny _ _ (ret (.bool (decide (x < 0)))) _ _ _
    refine wpAny_pure ?_
    show wpAny _ _ _ _ _ _
    refine go_let ?_
    intro T5
    with_reducible refine go_use hkn hlo 3000 0 [] H fun vars hv hx => ?_
    obtain rfl := vars0 hv
    refine go_end1 (as := []) (led := (D1 + 8, frL (wB w0 false) tk I J) :: (ledP (wB w0 false) p I J d1 d2 tv tu v u ++ news)) (tk := tk' + 1) (t := pure (.done (.ret (.bool (decide (x < 0)))))) (by kernel_rfl) fun h H => ?_
    exact wpAny_pure (hq _ _ H.drop1 _)
  · refine go_let ?_
    intro T4
    with_reducible refine go_use hkn hlo 3000 0 [] H fun vars hv hx => ?_
    obtain rfl := vars0 hv
    refine go_call1 (as := []) (led := (D1 + 8, frL (wB w0 true) tk I J) :: (ledP (wB w0 true) p I J d1 d2 tv tu v u ++ news)) (tk := tk' + 1) (c := .call (.builtin "int.__lt__") ⟨[.int x t', .int 0 tk'], []⟩) (by kernel_rfl) fun h H => ?_
    refine codeAny_call_builtin_code (Code.quiet_builtin _ (by decide +kernel)) (wpAny_of_eq (show checkBuiltinCall "int.__lt__" _ = pure () by kernel_rfl) (codeAny_builtin entry_int_lt ?_))
    show wpAny _ _ (ret (.bool (decide (x < 0)))) _ _ _
    refine wpAny_pure ?_
    show wpAny _ _ _ _ _ _
    refine go_let ?_
    intro T5
    with_reducible refine go_use hkn hlo 3000 0 [] H fun vars hv hx => ?_
    obtain rfl := vars0 hv
    refine go_end1 (as := []) (led := (D1 + 8, frL (wB w0 true) tk I J) :: (ledP (wB w0 true) p I J d1 d2 tv tu v u ++ news)) (tk := tk' + 1) (t := pure (.done (.ret (.bool (decide (x < 0)))))) (by kernel_rfl) fun h H => ?_
    exact wpAny_pure (hq _ _ H.drop1 _)
theorem lt_call (w : World) {loose : List Str} {mean : ExcName → Option Value} {mg mb : Str → Option Value} (G : Gnd w loose mean mg mb g) (hlv : v.length ≤ 4096) (hlu : u.length ≤ 4096) (Rm : Room A 5) (hkn : ∀ p ∈ knK w, g.get? p.1 = some p.2) (hlo : 8 ≤ g.objs.size) (H : Led g L m h (ledP w p I J d1 d2 tv tu v u ++ news))
    (hq : ∀ h' tk', Led g L m h' (ledP w p I J d1 d2 tv tu v u ++ news) → ∀ d', R (.ok (.ret (.bool (decide (Txt.count u (Str.ofString "/") - Txt.count v (Str.ofString "/") < 0))))) ⟨h', gs, d', tk', os⟩) :
    codeAny (model pQ w) A (.call (.ref (p.f 15 + 8)) ⟨[.ref (I + 8), .ref (J + 8)], []⟩) R ⟨h, gs, d, tk, os⟩ := by
  have q := lt_callB w (w.params.followText "special-get-raises") (A := A) (R := R) (g := g) (h := h) (gs := gs) (d := d) (os := os) (m := m) (L := L) (tk := tk) (tu := tu) (tv := tv) (I := I) (J := J) (d1 := d1) (d2 := d2) (u := u) (v := v) (p := p) (news := news) (loose := loose) (mean := mean) (mg := mg) (mb := mb)
  unfold wB at q
  rw [World.withFollow_self] at q
  exact q G hlv hlu Rm hkn hlo H hq
set_option cleanup.letToHave false in
theorem key_lt {loose : List Str} {mean : ExcName → Option Value} {mg mb : Str → Option Value} (G : Gnd w loose mean mg mb g) (hlv : v.length ≤ 4096) (hlu : u.length ≤ 4096) (Rm : Room A 5) (hkn : ∀ p ∈ knK w, g.get? p.1 = some p.2) (hlo : 8 ≤ g.objs.size) (H : Led g L m h (ledP w p I J d1 d2 tv tu v u ++ news))
    (hq : ∀ h' tk', Led g L m h' (ledP w p I J d1 d2 tv tu v u ++ news) → ∀ d', Q (decide (Txt.count u (Str.ofString "/") - Txt.count v (Str.ofString "/") < 0)) ⟨h', gs, d', tk', os⟩) :
    wpAny (model pQ w) A (keyLt' oneType' (.ref (I + 8)) (.ref (J + 8))) Q E ⟨h, gs, d, tk, os⟩ := by
  have hu : A.units < cLine := by have := Rm.un; omega
  rw [keyLt'_oneType, oneLt'_eq]
  simp only [if_true]
  refine wpAny_bind (wpAny_cRoomFor hu ?_)
  refine wpAny_bind ?_
  simp only [callSpecialIfBound?, bindSpecialIfBound?]
  refine wpAny_holding (wpAny_bind (wpAny_bind ?_))
  refine go_use hkn hlo 3000 0 [5,7,7,8] H fun vars hv hx => ?_
  obtain rfl := vars0 hv
  refine go_end1 (as := [p.E2 + 8, p.E3 + 8, p.E3 + 8, I + 8]) (led := ledP w p I J d1 d2 tv tu v u ++ news) (tk := tk) (t := pure (some (.ref (p.f 15 + 8)))) (by kernel_rfl) fun h H => ?_
  refine wpAny_pure ?_
  have hf := H.get (a := p.f 15 + 8) (.tail _ (.tail _ (.tail _ (.tail _ (.tail _ (.tail _ (.head _)))))))
  refine wpAny_bind (wpAny_askSetting (wpAny_ite ?_))
  have fin : wpAny (model pQ w) A (call (.ref (p.f 15 + 8)) ([.ref (I + 8)] ++ [.ref (J + 8)]) >>= fun v => pure (some v)) (fun a s' => wpAny (model pQ w) A (match a with | some .notImplemented => rule "list.sort.lt-declined" >>= fun _ => richCompare .Lt (.ref (I + 8)) (.ref (J + 8)) >>= truthOfDropped | none => rule "list.sort.lt-declined" >>= fun _ => richCompare .Lt (.ref (I + 8)) (.ref (J + 8)) >>= truthOfDropped | some r => truthOfDropped r) Q E s') E ⟨h, gs, d, tk, os⟩ := by
    refine wpAny_bind (wpAny_call ?_)
    refine lt_call w G hlv hlu Rm hkn hlo H fun h' tk' H' d' => ?_
    exact wpAny_pure (wpAny_truthy_bool (hq h' tk' H' d'))
  split
  · exact wpAny_bind (wpAny_bindSpecial_def (s := ⟨h, gs, d, tk, os⟩) hf rfl (wpAny_pure (by exact fin)))
  · exact wpAny_tryCatch (wpAny_bind (wpAny_bindSpecial_def (s := ⟨h, gs, d, tk, os⟩) hf rfl (wpAny_pure (by exact fin))))
end
end Mine
end
section
open PySem PySem.W PySem.Calls PyProof.Rows
namespace Mine
structure CmpMade (w : World) (v : Value) (h h' : Heap) (p : KP) : Prop where
  v : v = .ref (p.E3 + 8)
  led : ∀ q ∈ p.led w, h'.get? q.1 = some q.2 ∧ h.get? q.1 = none
  nodup : ((p.led w).map (·.1)).Nodup
  tab : ∃ ps, h'.get? 193 = some (tabObj ps)
  keep : ∀ b o, b ≠ 193 → h.get? b = some o → h'.get? b = some o
theorem cmp_c (w : World) : CodCall w 4 198 [.ref 242] [(193, tabObj #[])] (fun v h h' => ∃ p, CmpMade w v h h' p) := by
  k_with_none
  k_with "execs cons" => (k_fold; (with_reducible refine PySem.wpAny_execs_cons ?_))
  k_with "eval Name" => (k_here; k_dflt (refine' PySem.W.nameX_L ?k1 ?k2 ?k3 ?_; (case k1 => k_asm); (case k2 => exact rfl); (case k3 => exact rfl)))
  refine cod_intro ?_
  intro loose mean mg mb A s R' g G hkg hsz hargs hfull R hret
  obtain ⟨hd0, dp0, fr0, gd0, un0⟩ := A
  obtain rfl : hd0 = none := R.hd
  have X := G.K; revert X; k_fill; intro X
  have T := G.T
  refine' enterCG (binds := [(Str.ofString "mycmp", .ref 242)]) ?k1 hkg hsz hargs ?k2 ?k3 ?k4 ?k5 ?k6 ?k7 ?k8 ?_ ?c1 ?c2 ?c3
  (case k1 => assumption)
  (case k2 => exact T.nolimit)
  (case k3 => exact Nat.lt_of_le_of_lt (Nat.le_add_right _ _) R.dp)
  (case k4 => k_is)
  (case k5 => k_is)
  (case k6 => first | exact BindsTo.of_eq rfl | exact binds_K (Frag.In.keeps (by assumption) hkg) rfl (by k_is) rfl rfl rfl)
  (case k7 => exact rfl)
  (case k8 => decide +kernel)
  (case c1 => exact rfl)
  (case c2 => exact rfl)
  (case c3 => exact rfl)
  intro L h₁ tk0 cells F N Y hlt
  skip
  try dsimp only
  try k_fold
  obtain ⟨o1, rfl, d1⟩ := Y.one
  clear Y
  have hlo : 8 ≤ g.objs.size := Nat.le_trans (by decide) (Nat.le_of_lt (Heap.lt_size (X 264 _ rfl)))
  obtain ⟨l, rfl⟩ : ∃ l, L = l + 8 := ⟨L - 8, (Nat.sub_add_cancel (Nat.le_trans hlo F.above)).symm⟩
  obtain ⟨oc, od, dd, osl⟩ := o1
  obtain rfl : dd = .cell (some (.ref 242)) := d1
  have H : Led g (l + 8) _ h₁ (ledA l ⟨oc, od, .cell (some (.ref 242)), osl⟩) := ⟨F, N, by
    have := hlt _ (.head _)
    refine List.nodup_cons.mpr ⟨fun hm => ?_, List.nodup_cons.mpr ⟨List.not_mem_nil, List.nodup_nil⟩⟩
    have e : @Eq Nat (l + 8 + 1) 193 := List.mem_singleton.mp hm
    have t : @LT.lt Nat _ 193 (l + 8) := this
    omega⟩
  have hkn : ∀ p ∈ knK w, g.get? p.1 = some p.2 := fun p hp => by
    unfold knK at hp
    rcases List.mem_cons.mp hp with rfl | hp
    · exact X _ _ rfl
    rcases List.mem_cons.mp hp with rfl | hp
    · exact X _ _ rfl
    rcases List.mem_cons.mp hp with rfl | hp
    · exact X _ _ rfl
    rcases List.mem_cons.mp hp with rfl | hp
    · exact X _ _ rfl
    rw [List.mem_singleton.mp hp]
    exact X _ _ rfl
  clear F N hlt
  with_reducible refine PySem.wpAny_execs_cons ?_
  refine class_ok (K := K2 w.params) X (by kernel_rfl) hkn hlo T.nolimit (Nat.lt_of_le_of_lt (Nat.add_le_add_left (by decide : 1 ≤ 4) dp0) R.dp) H fun D1 D3 D4 D5 D6 D7 f D8 E2 E3 E4 h' H => ?_
  have F := H.F
  have N := H.N
  have D := H.D
  clear hkn
  dsimp only
  k_steps
  dsimp only
  rename_i h9 F9 N9
  have key : ∀ b, b ∉ ([(193, tabObj #[])] : List (Addr × Obj)).map (·.1) ↔ b ≠ 193 := fun b => by simp
  refine hret _ _ _ _ ⟨⟨l, tk0, D1, D8, E2, E3, E4, f, oc, od, osl⟩, ⟨rfl, fun q hq => ?_, ?_, ⟨_, (N9 (193, tab1 D6) ?_).1⟩, fun b o hb e => F9.keep _ _ (hfull b o e ((key b).mpr hb))⟩⟩
  · have hm : q ∈ ledH w l ⟨oc, od, .cell (some (.ref 242)), osl⟩ tk0 D1 D3 D4 D5 D6 D7 D8 f E2 E3 E4 := by
      show q ∈ KP.led ⟨l, tk0, D1, D8, E2, E3, E4, f, oc, od, osl⟩ w ++ [(193, tab1 D6)]
      exact List.mem_append_left _ hq
    refine ⟨(N9 q hm).1, ?_⟩
    cases hs : s.heap.get? q.1 with
    | none => rfl
    | some o =>
      have hne : q.1 ≠ 193 := fun e => by
        have D' : ((KP.led ⟨l, tk0, D1, D8, E2, E3, E4, f, oc, od, osl⟩ w ++ [(193, tab1 D6)] : List (Addr × Obj)).map (·.1)).Nodup := D
        rw [List.map_append, List.nodup_append] at D'
        exact D'.2.2 _ (List.mem_map_of_mem hq) _ (.head _) e
      have := hfull _ _ hs ((key _).mpr hne)
      rw [(N9 q hm).2.2] at this; cases this
  · have D' : ((KP.led ⟨l, tk0, D1, D8, E2, E3, E4, f, oc, od, osl⟩ w ++ [(193, tab1 D6)] : List (Addr × Obj)).map (·.1)).Nodup := D
    rw [List.map_append, List.nodup_append] at D'
    exact D'.1
  · exact List.mem_append_right (KP.led ⟨l, tk0, D1, D8, E2, E3, E4, f, oc, od, osl⟩ w) (.head _)
end Mine
end
section
open PySem PySem.W PySem.Calls PySem.MeetsSeq PySem.SeqAt PyProof.Rows
namespace Mine
noncomputable def lt2 (a b c d : Int) : Bool := if a == c then (if b == d then false else decide (b < d)) else decide (a < c)
theorem rc_int {prog : Program} {w : World} {A : Around} {E : Value → Shared → Prop} {s : Shared} {Q : Value → Shared → Prop} {a b : Int} {t u : Tok} (h : Q (.bool (decide (a < b))) s) : wpAny (model prog w) A (richCompare .Lt (.int a t) (.int b u)) Q E s :=
  CmpOf.ints_lt (fun i => if i = 0 then a else b) (P := fun i v => v = if i = 0 then .int a t else .int b u) (fun i v hv => by subst hv; split <;> exact ⟨_, rfl⟩) 0 1 _ _ s Q E rfl rfl h
theorem tuple_ltAt (l r : Addr) (a b c d : Int) (ta tb tc td : Tok) (n n2 : Nat) :
    Meets (Builtin.«tuple.__lt__» ⟨[.ref l, .ref r], []⟩)
      (fun A R s => s.heap.get? l = some { cls := .type "tuple", data := .seq #[.int a ta, .int b tb] n } ∧ s.heap.get? r = some { cls := .type "tuple", data := .seq #[.int c tc, .int d td] n2 } ∧
        R (.ok (.ret (.bool (lt2 a b c d)))) s) :=
  .of_wp fun prog w A R s h => by
    obtain ⟨hp, g, dr, tk, os⟩ := s; obtain ⟨hl, hb, h⟩ := h
    have f2 := AutoSeq1.sub_tuple_tuple
    unfold Builtin.«tuple.__lt__»
    generalize hE : eqBool = EB
    wp_walk using AutoSeq1.wpAny_loadPart' hl, AutoSeq1.wpAny_loadPart' hb
    subst hE
    refine EqAt.int_int a ta c tc prog w _ _ ?_
    unfold lt2 at h
    cases h1 : a == c with
    | false =>
      rw [h1] at h
      wp_walk using rc_int
      exact ⟨_, rfl, h⟩
    | true =>
      rw [h1] at h
      wp_walk
      refine EqAt.int_int b tb d td prog w _ _ ?_
      cases h2 : b == d with
      | false =>
        rw [h2] at h
        wp_walk using rc_int
        exact ⟨_, rfl, h⟩
      | true =>
        rw [h2] at h
        wp_walk
        exact ⟨_, rfl, h⟩
structure Two where
  T : Addr
  a : Int
  ta : Tok
  b : Int
  tb : Tok
noncomputable abbrev Two.obj (x : Two) : Obj := tupO [.int x.a x.ta, .int x.b x.tb]
def TwosAt (h : Heap) (ws : List Two) : Prop := ∀ x ∈ ws, h.get? x.T = some x.obj
theorem rc_two {prog : Program} {w : World} {A : Around} {E : Value → Shared → Prop} {s : Shared} {Q : Value → Shared → Prop} {x y : Two} (hx : s.heap.get? x.T = some x.obj) (hy : s.heap.get? y.T = some y.obj) (hu : A.units < cLine) (h : Q (.bool (lt2 x.a x.b y.a y.b)) s) :
    wpAny (model prog w) A (richCompare .Lt (.ref x.T) (.ref y.T)) Q E s :=
  richCompare_meets_room (op := .Lt) ⟨_, hx, rfl⟩ ⟨_, hy, rfl⟩ PySem.F.slot_tuple_lt PySem.F.entry_tuple_lt (PySem.F.args_tuple_lt_2 _ _) (tuple_ltAt x.T y.T x.a x.b y.a y.b x.ta x.tb y.ta y.tb _ _)
    ⟨hx, hy, show Value.bool (lt2 x.a x.b y.a y.b) ≠ Value.notImplemented ∧ Q (.bool (lt2 x.a x.b y.a y.b)) s from ⟨(fun e => nomatch e), h⟩⟩ hu
theorem le_of_not_lt2 {a b c d : Int} (h : lt2 a b c d = false) : c ≤ a := by
  unfold lt2 at h
  split at h
  · next e => rw [eq_of_beq e]; exact Int.le_refl _
  · exact Int.not_lt.mp (of_decide_eq_false h)
theorem le_of_lt2 {a b c d : Int} (h : lt2 a b c d = true) : a ≤ c := by
  unfold lt2 at h
  split at h
  · next e => rw [eq_of_beq e]; exact Int.le_refl _
  · exact Int.le_of_lt (of_decide_eq_true h)
section
variable {prog : Program} {w : World} {A : Around} {R : Result → Shared → Prop} {I l S : Addr} {ws : List Two}
noncomputable abbrev twosV (ws : List Two) : List Value := ws.map fun x => .ref x.T
theorem two_at {i : Nat} {v : Value} (h : (twosV ws).toArray[i]? = some v) : ∃ x, ws[i]? = some x ∧ v = .ref x.T := rows_at h
theorem min_loop (hh : A.in1.handled = none) (hu : A.in1.units < cLine) (hlI : l ≠ I) (hSI : S ≠ I) (hSl : S ≠ l) (hST : ∀ x ∈ ws, x.T ≠ S) (hIT : ∀ x ∈ ws, x.T ≠ I) :
    ∀ (k j : Nat) (s : Shared) (best : Two) (c : Nat), ws.length - (j + 1) = k → j + 1 ≤ ws.length → s.heap.IsListIter I l (j + 1) → s.heap.IsList l (twosV ws).toArray → TwosAt s.heap ws → best ∈ ws → (∀ i x, i ≤ j → ws[i]? = some x → best.a ≤ x.a) →
    s.heap.get? S = some { cls := .type "list", dict := none, data := .seq #[.ref best.T, .ref best.T] c, slots := #[] } →
    (∀ (b : Two) h' tk, b ∈ ws → (∀ x ∈ ws, b.a ≤ x.a) → (∀ b o, b ≠ I → b ≠ S → s.heap.get? b = some o → h'.get? b = some o) → R (.ok (.ret (.ref b.T))) { s with heap := h', toks := tk }) →
    codeAny (model prog w) A (.builtin "min.loop" ⟨[.ref I, .none, .ref S], []⟩) R s := by
  have hname : (toString "min" ++ toString ".loop" : String) = "min.loop" := by decide
  have W : Walks prog w A.in1 I [I, l] [I] (twosV ws).toArray.size _ _ := Walks.list (A := A.in1) hh I l hlI (twosV ws).toArray
  have hsz : (twosV ws).toArray.size = ws.length := by simp
  intro k
  induction k with
  | zero =>
    intro j s best c hk hj hit hl hT hb hmin hS hR
    refine codeAny_builtin PySem.F.entry_min_loop ?_
    rw [Around.under_plainId PySem.F.plain_min_loop _]
    show wpAny _ A.in1 (seqItems? (.ref S) >>= _) _ _ s
    refine wpAny_bind (wpAny_seqItems hS rfl ?_)
    show wpAny _ A.in1 (tryCatch (pyNext (.ref I)) _ >>= _) _ _ s
    refine wpAny_bind (wpAny_tryCatch (W.done s _ _ (by rw [hsz, show ws.length = j + 1 by omega]; exact ⟨hit, hl⟩) fun h' tk hk' => ?_))
    have hS' := hk' S _ (by simpa using hSI) hS
    show wpAny _ A.in1 (updateSeq S (fun _ => #[]) >>= _) _ _ _
    refine wpAny_bind ?_
    refine wpAny_updateSeq hS' rfl (wpAny_bind (wpAny_letGo (wpAny_pure ?_)))
    refine hR best _ tk hb (fun x hx => ?_) fun b o hbI hbS e => (Heap.get?_update_other _ _ (Ne.symm hbS)).trans (hk' b o (by simpa using hbI) e)
    obtain ⟨i, hi⟩ := List.getElem?_of_mem hx
    exact hmin i x (by have := (List.getElem?_eq_some_iff.mp hi).1; omega) hi
  | succ k ih =>
    intro j s best c hk hj hit hl hT hb hmin hS hR
    have hlt : j + 1 < ws.length := by omega
    refine codeAny_builtin PySem.F.entry_min_loop ?_
    rw [Around.under_plainId PySem.F.plain_min_loop _]
    show wpAny _ A.in1 (seqItems? (.ref S) >>= _) _ _ s
    refine wpAny_bind (wpAny_seqItems hS rfl ?_)
    show wpAny _ A.in1 (tryCatch (pyNext (.ref I)) _ >>= _) _ _ s
    refine wpAny_bind (wpAny_tryCatch (W.item (j + 1) s _ _ (by rw [hsz]; exact hlt) ⟨hit, hl⟩ fun v h' tk hP hst' hk' => ?_))
    obtain ⟨x, hx, rfl⟩ := two_at hP
    have hS' := hk' S _ (by simpa using hSI) hS
    have hT' : TwosAt h' ws := fun y hy => hk' _ _ (by simpa using hIT y hy) (hT y hy)
    have hxm := List.mem_of_getElem? hx
    show wpAny _ A.in1 (tryCatch (holding [.ref x.T, .ref x.T] (richCompare .Lt (.ref x.T) (.ref best.T) >>= _)) _ >>= _) _ _ _
    refine wpAny_bind (wpAny_tryCatch (wpAny_holding (wpAny_bind (rc_two (s := { s with heap := h', toks := tk }) (hT' x hxm) (hT' best hb) hu ?_))))
    refine wpAny_bind (wpAny_holding (wpAny_truthy_bool ?_))
    refine wpAny_bind (wpAny_letGo (wpAny_pure ?_))
    cases hc : lt2 x.a x.b best.a best.b with
    | true =>
      simp only [if_true]
      refine wpAny_bind ?_
      refine wpAny_updateSeq hS' rfl (wpAny_bind (wpAny_letGo ?_))
      rw [hname]
      have up : ∀ b o, b ≠ S → h'.get? b = some o → (h'.update S (Obj.mapSeq fun _ => #[.ref x.T, .ref x.T])).get? b = some o := fun b o hbS e => (Heap.get?_update_other _ _ (Ne.symm hbS)).trans e
      refine wpAny_pure ⟨plainId_quiet PySem.F.plain_min_loop _, ih (j + 1) _ x _ (by omega) hlt (hst'.1.at fun o e => up I o (Ne.symm hSI) e) (hst'.2.at fun o e => up l o (Ne.symm hSl) e) (fun y hy => up _ _ (hST y hy) (hT' y hy)) hxm (fun i y hi hy => ?_) (Heap.get?_update_self _ hS' rfl)
        fun v' h'' tk'' hb'' hm'' hk'' => ?_⟩
      · rcases Nat.lt_succ_iff_lt_or_eq.mp (Nat.lt_succ_of_le hi) with h1 | rfl
        · exact Int.le_trans (le_of_lt2 hc) (hmin i y (Nat.le_of_lt_succ h1) hy)
        · rw [hx] at hy; cases hy; exact Int.le_refl _
      · exact hR v' h'' tk'' hb'' hm'' fun b o hbI hbS e => hk'' b o hbI hbS (up b o hbS (hk' b o (by simpa using hbI) e))
    | false =>
      simp only [Bool.false_eq_true, if_false]
      refine wpAny_bind (wpAny_letGo ?_)
      rw [hname]
      refine wpAny_pure ⟨plainId_quiet PySem.F.plain_min_loop _, ih (j + 1) _ best c (by omega) hlt hst'.1 hst'.2 hT' hb (fun i y hi hy => ?_) hS' fun v' h'' tk'' hb'' hm'' hk'' => ?_⟩
      · rcases Nat.lt_succ_iff_lt_or_eq.mp (Nat.lt_succ_of_le hi) with h1 | rfl
        · exact hmin i y (Nat.le_of_lt_succ h1) hy
        · rw [hx] at hy; cases hy; exact le_of_not_lt2 hc
      · exact hR v' h'' tk'' hb'' hm'' fun b o hbI hbS e => hk'' b o hbI hbS (hk' b o (by simpa using hbI) e)
theorem min_first {s : Shared} {c : Nat} (hh : A.in1.handled = none) (hu : A.in1.units < cLine) (hlI : l ≠ I) (hSI : S ≠ I) (hSl : S ≠ l) (hST : ∀ x ∈ ws, x.T ≠ S) (hIT : ∀ x ∈ ws, x.T ≠ I) (hne : 0 < ws.length) (hit : s.heap.IsListIter I l 0) (hl : s.heap.IsList l (twosV ws).toArray) (hT : TwosAt s.heap ws)
    (hS : s.heap.get? S = some { cls := .type "list", dict := none, data := .seq #[] c, slots := #[] })
    (hR : ∀ (b : Two) h' tk, b ∈ ws → (∀ x ∈ ws, b.a ≤ x.a) → (∀ b o, b ≠ I → b ≠ S → s.heap.get? b = some o → h'.get? b = some o) → R (.ok (.ret (.ref b.T))) { s with heap := h', toks := tk }) :
    codeAny (model prog w) A (.builtin "min.loop" ⟨[.ref I, .none, .ref S], []⟩) R s := by
  have hname : (toString "min" ++ toString ".loop" : String) = "min.loop" := by decide
  have W : Walks prog w A.in1 I [I, l] [I] (twosV ws).toArray.size _ _ := Walks.list (A := A.in1) hh I l hlI (twosV ws).toArray
  have hsz : (twosV ws).toArray.size = ws.length := by simp
  refine codeAny_builtin PySem.F.entry_min_loop ?_
  rw [Around.under_plainId PySem.F.plain_min_loop _]
  show wpAny _ A.in1 (seqItems? (.ref S) >>= _) _ _ s
  refine wpAny_bind (wpAny_seqItems hS rfl ?_)
  show wpAny _ A.in1 (tryCatch (pyNext (.ref I)) _ >>= _) _ _ s
  refine wpAny_bind (wpAny_tryCatch (W.item 0 s _ _ (by rw [hsz]; exact hne) ⟨hit, hl⟩ fun v h' tk hP hst' hk' => ?_))
  obtain ⟨x, hx, rfl⟩ := two_at hP
  have hS' := hk' S _ (by simpa using hSI) hS
  have hT' : TwosAt h' ws := fun y hy => hk' _ _ (by simpa using hIT y hy) (hT y hy)
  show wpAny _ A.in1 (updateSeq S (fun _ => #[.ref x.T, .ref x.T]) >>= _) _ _ _
  refine wpAny_bind ?_
  refine wpAny_updateSeq hS' rfl ?_
  rw [hname]
  have up : ∀ b o, b ≠ S → h'.get? b = some o → (h'.update S (Obj.mapSeq fun _ => #[.ref x.T, .ref x.T])).get? b = some o := fun b o hbS e => (Heap.get?_update_other _ _ (Ne.symm hbS)).trans e
  refine wpAny_pure ⟨plainId_quiet PySem.F.plain_min_loop _, min_loop hh hu hlI hSI hSl hST hIT _ 0 _ x _ rfl hne (hst'.1.at fun o e => up I o (Ne.symm hSI) e) (hst'.2.at fun o e => up l o (Ne.symm hSl) e) (fun y hy => up _ _ (hST y hy) (hT' y hy)) (List.mem_of_getElem? hx)
    (fun i y hi hy => by obtain rfl : i = 0 := Nat.le_zero.mp hi; rw [hx] at hy; cases hy; exact Int.le_refl _) (Heap.get?_update_self _ hS' rfl) fun v' h'' tk'' hb'' hm'' hk'' => ?_⟩
  exact hR v' h'' tk'' hb'' hm'' fun b o hbI hbS e => hk'' b o hbI hbS (up b o hbS (hk' b o (by simpa using hbI) e))
variable {E : Value → Shared → Prop} {s : Shared} {h₀ : Heap} {L : Addr} {m : Str → Option Value} {news : List (Addr × Obj)}
theorem min_twos {n : Nat} {Q : Value → Shared → Prop} (hh : A.in1.handled = none) (hu : A.in1.units < cLine) (F : Fr h₀ L s.heap m) (N : News h₀ L s.heap news) (hm : (l, listOf (twosV ws).toArray n) ∈ news) (hT : ∀ x ∈ ws, (x.T, x.obj) ∈ news) (hne : 0 < ws.length)
    (h : ∀ (b : Two) h' tk, b ∈ ws → (∀ x ∈ ws, b.a ≤ x.a) → Fr h₀ L h' m → News h₀ L h' news → Q (.ref b.T) { s with heap := h', toks := tk }) : wpAny (model prog w) A (call (.builtin "min") [.ref l]) Q E s := by
  have hname : (toString "min" ++ toString ".loop" : String) = "min.loop" := by decide
  have hl : s.heap.IsList l (twosV ws).toArray := ⟨_, (N _ hm).1, rfl, _, rfl⟩
  refine call_function_tree PySem.F.kind_min PySem.F.plain_min PySem.F.entry_min (PySem.F.args_min1 _) ?_
  show wpAny _ A.in1 (Builtin.Builtins.bindParams "min" ["key", "default"] 0 ⟨[], []⟩ >>= _) _ _ s
  refine wpAny_bind (wpAny_of_eq (show Builtin.Builtins.bindParams "min" ["key", "default"] 0 ⟨[], []⟩ = pure [none, none] from rfl) ?_)
  refine wpAny_bind (wpAny_pure ?_)
  refine wpAny_bind (wpAny_pyIter_list hl ?_)
  refine wpAny_bind (wpAny_newObj_type ?_)
  rw [hname]
  have e1 : (s.heap.push { cls := .type "list_iterator", data := .fields #[.ref l, .int 0 0] }).objs.size = s.heap.objs.size + 1 := Heap.size_push ..
  have up : ∀ b o, s.heap.get? b = some o → ((s.heap.push { cls := .type "list_iterator", data := .fields #[.ref l, .int 0 0] }).push { cls := .type "list", data := .seq #[] }).get? b = some o := fun b o e => Heap.get?_push_of_some _ (Heap.get?_push_of_some _ e)
  have hS : ((s.heap.push { cls := .type "list_iterator", data := .fields #[.ref l, .int 0 0] }).push { cls := .type "list", data := .seq #[] }).get? (s.heap.push { cls := .type "list_iterator", data := .fields #[.ref l, .int 0 0] }).objs.size = some { cls := .type "list", data := .seq #[] } := Heap.get?_push_size _ rfl
  have hI : ((s.heap.push { cls := .type "list_iterator", data := .fields #[.ref l, .int 0 0] }).push { cls := .type "list", data := .seq #[] }).get? s.heap.objs.size = some { cls := .type "list_iterator", data := .fields #[.ref l, .int 0 0] } := Heap.get?_push_of_some _ (Heap.get?_push_size _ rfl)
  have hlS := hl.push { cls := .type "list_iterator", data := .fields #[.ref l, .int 0 0] }
  have lt1 : ∀ b o, s.heap.get? b = some o → @LT.lt Nat _ b s.heap.objs.size := fun b o e => Heap.lt_size e
  have hl1 : @LT.lt Nat _ l s.heap.objs.size := lt1 _ _ (N _ hm).1
  rw [e1] at hS
  rw [e1]
  have hTs : TwosAt s.heap ws := fun x hx => (N _ (hT x hx)).1
  have ne1 : s.heap.objs.size + 1 ≠ s.heap.objs.size := Nat.succ_ne_self _
  refine wpAny_pure ⟨plainId_quiet PySem.F.plain_min_loop _, min_first (ws := ws) hh hu (Nat.ne_of_lt hl1) ne1 (Nat.ne_of_gt (Nat.lt_succ_of_lt hl1)) (fun x hx => Nat.ne_of_lt (Nat.lt_succ_of_lt (lt1 _ _ (hTs x hx)))) (fun x hx => Nat.ne_of_lt (lt1 _ _ (hTs x hx))) hne ⟨_, hI, rfl, rfl⟩
    (hl.at fun o e => up l o e) (fun x hx => up _ _ (hTs x hx)) hS fun b h' tk hb hmin hk => ?_⟩
  have hk2 : ∀ b o, s.heap.get? b = some o → h'.get? b = some o := fun b o e => hk b o (Nat.ne_of_lt (lt1 b o e)) (Nat.ne_of_lt (Nat.lt_succ_of_lt (lt1 b o e))) (up b o e)
  exact h b h' tk hb hmin (F.keeps hk2) (N.grown hk2)
noncomputable def twoIs (ws : List Two) (a b : Int) : Value → Bool
  | .ref T => ws.any fun x => x.T == T && (x.a == a && x.b == b)
  | _ => false
theorem in_twos {T0 : Addr} {a b : Int} {ta tb : Tok} {n : Nat} {Q : Value → Shared → Prop} (hu : A.in1.units < cLine) (N : News h₀ L s.heap news) (hm : (l, listOf (twosV ws).toArray n) ∈ news) (hT : ∀ x ∈ ws, (x.T, x.obj) ∈ news) (h0 : (T0, tupO [.int a ta, .int b tb]) ∈ news) (hne : ∀ x ∈ ws, x.T ≠ T0)
    (h : Q (.bool (ws.any fun x => x.a == a && x.b == b)) s) : wpAny (model prog w) A (compareOp .In (.ref T0) (.ref l)) Q E s := by
  have hl : s.heap.IsList l (twosV ws).toArray := ⟨_, (N _ hm).1, rfl, _, rfl⟩
  have is : ∀ x ∈ ws, twoIs ws a b (.ref x.T) = (x.a == a && x.b == b) := fun x hx => by
    show (ws.any fun y => y.T == x.T && (y.a == a && y.b == b)) = _
    cases h1 : (x.a == a && x.b == b) with
    | true => exact List.any_eq_true.mpr ⟨x, hx, by rw [h1, beq_self_eq_true]; rfl⟩
    | false =>
      refine List.any_eq_false.mpr fun y hy hc => ?_
      have e := eq_of_beq (Bool.and_eq_true_iff.mp hc).1
      have z1 := (N _ (hT y hy)).1
      have z2 := (N _ (hT x hx)).1
      simp only at z1 z2
      rw [e, z2] at z1
      have q := congrArg (fun o : Option Obj => o.map (·.data)) z1
      simp only [Option.map_some, Option.some.injEq, Data.seq.injEq, and_true] at q
      have q2 := congrArg Array.toList q
      simp only [List.cons.injEq, Value.int.injEq, and_true] at q2
      rw [← q2.1.1, ← q2.2.1, h1] at hc
      simp at hc
  refine in_listAt (twoIs ws a b) hl (fun y hy => ?_) ?_
  · obtain ⟨x, hx, rfl⟩ : ∃ x, x ∈ ws ∧ y = .ref x.T := by
      have : y ∈ twosV ws := by simpa using hy
      obtain ⟨x, hx, e⟩ := List.mem_map.mp this
      exact ⟨x, hx, e.symm⟩
    rw [is x hx]
    have ht : s.heap.IsTuple x.T #[.int x.a x.ta, .int x.b x.tb] := ⟨_, (N _ (hT x hx)).1, rfl, _, rfl⟩
    have ht0 : s.heap.IsTuple T0 #[.int a ta, .int b tb] := ⟨_, (N _ h0).1, rfl, _, rfl⟩
    refine EqAt.of_refs (hne x hx) ?_
    have z := RcAt.tuples (A := A.in1) (e := fun j => if j = 0 then x.a == a else x.b == b) ht ht0 hu (fun j h1 h2 => by
      match j, h1 with
      | 0, _ => exact EqAt.int_int _ _ _ _
      | 1, _ => exact EqAt.int_int _ _ _ _
      | j + 2, h1 => exact absurd h1 (by simp))
    exact (show ((List.range (min 2 2)).all (fun j => if j = 0 then x.a == a else x.b == b) && 2 == 2) = (x.a == a && x.b == b) by simp [List.range_succ]) ▸ z
  · rw [show (twosV ws).toArray.any (twoIs ws a b) = ws.any fun x => x.a == a && x.b == b by
      rw [List.any_toArray, List.any_map]
      have : ∀ l : List Two, (∀ x ∈ l, x ∈ ws) → l.any (twoIs ws a b ∘ fun x : Two => Value.ref x.T) = l.any fun x => x.a == a && x.b == b := fun l => by
        induction l with
        | nil => intro _; rfl
        | cons x l ih => intro hl; rw [List.any_cons, List.any_cons, ih fun y hy => hl y (.tail _ hy), Function.comp, is x (hl x (.head _))]
      exact this ws fun _ h => h]
    exact h
end
noncomputable def mis (things : List (Int × Int)) (k x : Int) : Int := ((things.filter fun t => t.1 == k && t.2 != x).length : Nat)
noncomputable abbrev Two.abs (x : Two) : Int × Int := (x.a, x.b)
theorem mis_two {things : List Two} {k x : Int} : mis (things.map Two.abs) k x = ((things.filter fun t => t.a == k && t.b != x).length : Nat) := by
  unfold mis; rw [List.filter_map, List.length_map]; rfl
end Mine
end
section
open PySem PySem.W PySem.Calls PyProof.Rows
open PyProof.Rows.LCg (NsObj lst lst_snoc ns_obj)
namespace Mine
def MissK (B : Addr) (ths : List (Int × Int)) (i : Nat) (ys : List Value) (c : List (Addr × Obj)) : Prop :=
  ∃ rws : List (Addr × List (Int × Tok)), rws.length = i ∧ ys = rws.map (fun r => Value.ref r.1) ∧ c = rws.map (fun r => (r.1, lst (intsV r.2))) ∧ ∀ (j : Nat) r, rws[j]? = some r → (r.2.map (·.1) = (List.range 3).map fun x : Nat => mis ths (j : Int) (x : Int)) ∧ @LT.lt Nat _ B r.1
theorem MissK.snoc {B : Addr} {ths : List (Int × Int)} {rws : List (Addr × List (Int × Tok))} {M : Addr} {l : List (Int × Tok)} (hrw : ∀ (j : Nat) r, rws[j]? = some r → (r.2.map (·.1) = (List.range 3).map fun x : Nat => mis ths (j : Int) (x : Int)) ∧ @LT.lt Nat _ B r.1) (hB : @LT.lt Nat _ B M)
    (hl : l.map (·.1) = (List.range 3).map fun x : Nat => mis ths (rws.length : Int) (x : Int)) : MissK B ths (rws.length + 1) (rws.map (fun r => Value.ref r.1) ++ [.ref M]) (rws.map (fun r => (r.1, lst (intsV r.2))) ++ [(M, lst (intsV l))]) :=
  ⟨rws ++ [(M, l)], by simp, by simp, by simp, fun j r h => by
    by_cases hj : j < rws.length
    · rw [List.getElem?_append_left hj] at h; exact hrw j r h
    · rw [List.getElem?_append_right (Nat.not_lt.mp hj)] at h
      have hz : j - rws.length = 0 := by
        have := (List.getElem?_eq_some_iff.mp h).1
        simp at this; omega
      rw [hz] at h; cases h
      obtain rfl : j = rws.length := by omega
      exact ⟨hl, hB⟩⟩
theorem news_snocT {h₀ h : Heap} {L : Addr} {x y : Addr × Obj} {a rest c : List (Addr × Obj)} (N : News h₀ L h (x :: y :: (a ++ (rest ++ c)))) : News h₀ L h (a ++ (rest ++ (c ++ [x]))) := fun p hp => N p (by
  rcases List.mem_append.mp hp with hp | hp
  · exact .tail _ (.tail _ (List.mem_append_left _ hp))
  rcases List.mem_append.mp hp with hp | hp
  · exact .tail _ (.tail _ (List.mem_append_right _ (List.mem_append_left _ hp)))
  rcases List.mem_append.mp hp with hp | hp
  · exact .tail _ (.tail _ (List.mem_append_right _ (List.mem_append_right _ hp)))
  · rw [List.mem_singleton.mp hp]; exact .head _)
theorem ap_snocT {X : List Addr} {x : Addr × Obj} {rest c : List (Addr × Obj)} (ap : ∀ p ∈ rest ++ c, p.1 ∉ X) (hx : x.1 ∉ X) : ∀ p ∈ rest ++ (c ++ [x]), p.1 ∉ X := fun p hp => by
  rw [← List.append_assoc] at hp
  rcases List.mem_append.mp hp with hp | hp
  · exact ap p hp
  · rw [List.mem_singleton.mp hp]; exact hx
theorem out4 {a b c d x : Addr} (h1 : a < x) (h2 : b < x) (h3 : c < x) (h4 : d < x) : x ∉ [a, b, c, d] := fun hm => by
  rcases List.mem_cons.mp hm with e | hm
  · exact Nat.ne_of_gt h1 e
  rcases List.mem_cons.mp hm with e | hm
  · exact Nat.ne_of_gt h2 e
  rcases List.mem_cons.mp hm with e | hm
  · exact Nat.ne_of_gt h3 e
  · exact Nat.ne_of_gt h4 (List.mem_singleton.mp hm)
noncomputable def dig (c k : Nat) : Nat := match k with | 0 => c / 27 | 1 => c / 9 % 3 | 2 => c / 3 % 3 | _ => c % 3
noncomputable def upAt (ups : List Int) (k : Nat) : Nat := (ups[k]?.getD 0).toNat
noncomputable def wayCost (ths : List (Int × Int)) (ups : List Int) (c : Nat) : Int :=
  ((List.range 4).map fun k : Nat => mis ths (k : Int) ((dig c k : Nat) : Int)).sum + (((List.range 3).filter fun k : Nat => dig c (k + 1) != dig c (upAt ups (k + 1))).length : Nat)
inductive WaysJ (WL C4 : Addr) (p1 p2 : Addr × Obj) (rest : List (Addr × Obj)) (m₀ : Str → Option Value) (cost : Nat → Int) (i : Nat) (m : Str → Option Value) : List (Addr × Obj) → Prop
  | mk {ws : List Two} {o4 : Obj} {v4 : Option Value} {k : Nat} (hlen : ws.length = i) (hm : ∀ y, y ∉ [Str.ofString "code", Str.ofString "changes", Str.ofString "k"] → m y = m₀ y) (h4 : o4.data = .cell v4)
      (hws : ∀ (j : Nat) x, ws[j]? = some x → x.a = cost j ∧ x.b = (dig j 0 : Nat) ∧ @LT.lt Nat _ WL x.T) : WaysJ WL C4 p1 p2 rest m₀ cost i m ((WL, listOf (twosV ws).toArray k) :: p1 :: p2 :: (C4, o4) :: (rest ++ ws.map fun x => (x.T, x.obj)))
theorem ways_tail {WL C4 : Addr} {args c : List (Addr × Obj)} {cost : Nat → Int} {ws : List Two} (hW : ∀ p ∈ args ++ c, p.1 < WL) (h4 : ∀ p ∈ args ++ c, p.1 ≠ C4) (l4 : @LT.lt Nat _ C4 WL)
    (hws : ∀ (j : Nat) x, ws[j]? = some x → x.a = cost j ∧ x.b = (dig j 0 : Nat) ∧ @LT.lt Nat _ WL x.T) : (∀ p ∈ (args ++ c) ++ ws.map (fun x => (x.T, x.obj)), p.1 ≠ C4) ∧ ∀ p ∈ (args ++ c) ++ ws.map (fun x => (x.T, x.obj)), p.1 ≠ WL := by
  have ht : ∀ p ∈ ws.map (fun x => (x.T, x.obj)), @LT.lt Nat _ WL p.1 := fun p hp => by
    obtain ⟨x, hx, rfl⟩ := List.mem_map.mp hp
    obtain ⟨j, hj⟩ := List.getElem?_of_mem hx
    exact (hws j x hj).2.2
  exact ⟨fun p hp => (List.mem_append.mp hp).elim (h4 p) fun hp => Nat.ne_of_gt (Nat.lt_trans l4 (ht p hp)), fun p hp => (List.mem_append.mp hp).elim (fun hp => Nat.ne_of_lt (hW p hp)) fun hp => Nat.ne_of_gt (ht p hp)⟩
theorem dig_lt (c k : Nat) (h : c < 81) : dig c k < 3 := by
  match k with
  | 0 => show c / 27 < 3; omega
  | 1 => show c / 9 % 3 < 3; omega
  | 2 => show c / 3 % 3 < 3; omega
  | k + 3 => show c % 3 < 3; omega
theorem miss_at {B : Addr} {ths : List (Int × Int)} {rws : List (Addr × List (Int × Tok))} (hrw : ∀ (j : Nat) r, rws[j]? = some r → (r.2.map (·.1) = (List.range 3).map fun x : Nat => mis ths (j : Int) (x : Int)) ∧ @LT.lt Nat _ B r.1) (hl : rws.length = 4) {k d : Nat} (hk : k < 4) (hd : d < 3) :
    ∃ M l t, rws[k]? = some (M, l) ∧ (rws.map (fun r => Value.ref r.1))[((k : Nat) : Int).toNat]? = some (.ref M) ∧ (intsV l)[((d : Nat) : Int).toNat]? = some (.int (mis ths (k : Int) (d : Int)) t) := by
  obtain ⟨⟨M, l⟩, h⟩ : ∃ r, rws[k]? = some r := ⟨_, List.getElem?_eq_getElem (by omega)⟩
  obtain ⟨t, ht⟩ := intsV_at (hrw k _ h).1 (i := d) (x := mis ths (k : Int) (d : Int)) (by rw [List.getElem?_map, List.getElem?_range hd]; rfl)
  exact ⟨M, l, t, h, by rw [Int.toNat_natCast, List.getElem?_map, h]; rfl, by rw [Int.toNat_natCast]; exact ht⟩
theorem way_ok (c : Nat) : [((c : Int).fdiv 27), ((c : Int).fdiv 9).fmod 3, ((c : Int).fdiv 3).fmod 3, (c : Int).fmod 3] = (List.range 4).map fun k : Nat => ((dig c k : Nat) : Int) := by
  have e : (List.range 4).map (fun k : Nat => ((dig c k : Nat) : Int)) = [((c / 27 : Nat) : Int), ((c / 9 % 3 : Nat) : Int), ((c / 3 % 3 : Nat) : Int), ((c % 3 : Nat) : Int)] := rfl
  rw [e, Int.fdiv_eq_ediv_of_nonneg _ (by decide), Int.fdiv_eq_ediv_of_nonneg _ (by decide), Int.fdiv_eq_ediv_of_nonneg _ (by decide), Int.fmod_eq_emod_of_nonneg _ (by decide), Int.fmod_eq_emod_of_nonneg _ (by decide), Int.fmod_eq_emod_of_nonneg _ (by decide)]
  simp only [List.cons.injEq, and_true]
  exact ⟨rfl, rfl, rfl, rfl⟩
theorem way_list {h₀ h : Heap} {L WL : Addr} {c : Nat} {a b d e : Int} {t0 t1 t2 t3 : Tok} {k : Nat} {nw : List (Addr × Obj)} (N : News h₀ L h ((WL, listOf #[.int a t0, .int b t1, .int d t2, .int e t3] k) :: nw)) (hw : [a, b, d, e] = (List.range 4).map fun k : Nat => ((dig c k : Nat) : Int)) :
    ∃ lw : List (Int × Tok), lw.map (·.1) = ((List.range 4).map fun k : Nat => ((dig c k : Nat) : Int)) ∧ News h₀ L h ((WL, listOf (intsV lw).toArray k) :: nw) := ⟨[(a, t0), (b, t1), (d, t2), (e, t3)], hw, N⟩
theorem way_at {lw : List (Int × Tok)} {c k : Nat} (h : lw.map (·.1) = ((List.range 4).map fun k : Nat => ((dig c k : Nat) : Int))) (hk : k < 4) : ∃ t, (intsV lw)[((k : Nat) : Int).toNat]? = some (.int ((dig c k : Nat) : Int) t) := by
  obtain ⟨t, ht⟩ := intsV_at h (i := k) (x := ((dig c k : Nat) : Int)) (by rw [List.getElem?_map, List.getElem?_range hk]; rfl)
  exact ⟨t, by rw [Int.toNat_natCast]; exact ht⟩
theorem tri1_at {a b c : Tok} {i : Nat} {v : Value} (h : (#[Value.int 1 a, .int 2 b, .int 3 c] : Array Value)[i]? = some v) : i < 3 ∧ ∃ t, v = .int ((i + 1 : Nat) : Int) t := by
  match i with
  | 0 => cases h; exact ⟨by decide, _, rfl⟩
  | 1 => cases h; exact ⟨by decide, _, rfl⟩
  | 2 => cases h; exact ⟨by decide, _, rfl⟩
  | i + 3 => simp at h
def UpsOk (ups : List (Int × Tok)) : Prop := ∀ k, k < 4 → ∃ t, (intsV ups)[((k : Nat) : Int).toNat]? = some (.int ((upAt (ups.map (·.1)) k : Nat) : Int) t) ∧ upAt (ups.map (·.1)) k < 4
theorem ways_news {h₀ h : Heap} {L : Addr} {x q1 q2 q3 q4 q5 : Addr × Obj} {a rest tl : List (Addr × Obj)} (N : News h₀ L h (a ++ q1 :: q2 :: q3 :: q4 :: q5 :: (rest ++ tl))) (hx : x ∈ a) : News h₀ L h (q1 :: q2 :: q3 :: q4 :: q5 :: (rest ++ (tl ++ [x]))) := fun p hp => N p (by
  rcases List.mem_cons.mp hp with rfl | hp
  · exact List.mem_append_right _ (.head _)
  rcases List.mem_cons.mp hp with rfl | hp
  · exact List.mem_append_right _ (.tail _ (.head _))
  rcases List.mem_cons.mp hp with rfl | hp
  · exact List.mem_append_right _ (.tail _ (.tail _ (.head _)))
  rcases List.mem_cons.mp hp with rfl | hp
  · exact List.mem_append_right _ (.tail _ (.tail _ (.tail _ (.head _))))
  rcases List.mem_cons.mp hp with rfl | hp
  · exact List.mem_append_right _ (.tail _ (.tail _ (.tail _ (.tail _ (.head _)))))
  rcases List.mem_append.mp hp with hp | hp
  · exact List.mem_append_right _ (.tail _ (.tail _ (.tail _ (.tail _ (.tail _ (List.mem_append_left _ hp))))))
  rcases List.mem_append.mp hp with hp | hp
  · exact List.mem_append_right _ (.tail _ (.tail _ (.tail _ (.tail _ (.tail _ (List.mem_append_right _ hp))))))
  · rw [List.mem_singleton.mp hp]; exact List.mem_append_left _ hx)
noncomputable def kMore (c : Nat) (ups : List Int) (i : Nat) : Int := (((List.range i).filter fun k : Nat => dig c (k + 1) != dig c (upAt ups (k + 1))).length : Nat)
theorem kMore_yes {c : Nat} {ups : List Int} {i : Nat} (h : ((dig c (i + 1) : Nat) : Int) ≠ ((dig c (upAt ups (i + 1)) : Nat) : Int)) : kMore c ups (i + 1) = kMore c ups i + 1 := by
  unfold kMore
  rw [List.range_succ, List.filter_append, List.filter_cons, if_pos (bne_iff_ne.mpr fun e => h (by rw [e])), List.length_append]; rfl
theorem kMore_no {c : Nat} {ups : List Int} {i : Nat} (h : ((dig c (i + 1) : Nat) : Int) = ((dig c (upAt ups (i + 1)) : Nat) : Int)) : kMore c ups (i + 1) = kMore c ups i := by
  unfold kMore
  rw [List.range_succ, List.filter_append, List.filter_cons, if_neg (by rw [Int.ofNat.inj h]; simp), List.length_append]; rfl
theorem ForGo.tupF {prog : Program} {w : World} {A : Around} {E : Value → Shared → Prop} {s : Shared} {h₀ : Heap} {env : Env} {body : List Stmt} {m : Str → Option Value} {x : Str} {px : Pos} {ax : Addr} {its : Array Value} {Q : Flow → Shared → Prop} {c₀ rest : List (Addr × Obj)} (F : Fr h₀ env.locals s.heap m) (N : News h₀ env.locals s.heap (c₀ ++ rest)) (vs : List Str) (K : Nat → (Str → Option Value) → List (Addr × Obj) → Prop) (hh : A.handled = none)
    (ht : s.heap.IsTuple ax its) (src : ∀ h', (∀ b o, h₀.get? b = some o → h'.get? b = some o) → News h₀ env.locals h' rest → h'.IsTuple ax its) (hK : K 0 m c₀)
    (step : ∀ I i v m' c oI h tk, i < its.size → its[i]? = some v → (∀ y, y ∉ vs → m' y = m y) → K i m' c → Fr h₀ env.locals h m' → News h₀ env.locals h ((I, oI) :: (c ++ rest)) → (∀ p ∈ c ++ rest, p.1 ≠ I) →
      wpAny (model prog w) A (assign (.Name x px) env v) (fun _ s₂ => wpAny (model prog w) A (execs body env) (turnPost h₀ env.locals I oI { s with heap := h, toks := tk } (JF m vs rest K (i + 1)) Q) E s₂) E { s with heap := h, toks := tk })
    (fin : ∀ h' tk m' c, (∀ y, y ∉ vs → m' y = m y) → K its.size m' c → Fr h₀ env.locals h' m' → News h₀ env.locals h' (c ++ rest) → Q .next { s with heap := h', toks := tk }) : ForGo prog w A h₀ env (.Name x px) body Q E (.ref ax) s := by
  refine ForGo.tup (JF m vs rest K) hh F N ht (fun j ys nw h' k N hJ => ?_) ⟨fun _ _ => rfl, hK⟩ (fun I i v m' nw oI h tk hi hv hJ F N ap => ?_) (fun h' tk m' nw F N hJ => ?_)
  · cases hJ; exact src h' k (news_right N)
  · cases hJ with | mk hm hK => exact step I i v m' _ oI h tk hi hv hm hK F N ap
  · cases hJ with | mk hm hK => exact fin h' tk m' _ hm hK F N
theorem ways_end {h₀ h' : Heap} {L I WW C4 : Addr} {oI o4 o4' : Obj} {p1 p2 : Addr × Obj} {a rest : List (Addr × Obj)} {m₀ m' : Str → Option Value} {cost : Nat → Int} {ws : List Two} {x : Two} {v4 : Option Value} {k tk : Nat} {dr : Drawn} {s₁ : Shared} {oW : Obj}
    (F : Fr h₀ L h' m') (N : News h₀ L h' (a ++ (I, oI) :: (WW, listOf ((twosV ws).toArray.push (.ref x.T)) k) :: p1 :: p2 :: (C4, o4) :: (rest ++ ws.map fun x => (x.T, x.obj)))) (hx : (x.T, x.obj) ∈ a)
    (ap : ∀ p ∈ (WW, oW) :: p1 :: p2 :: (C4, o4') :: (rest ++ ws.map fun x => (x.T, x.obj)), p.1 ≠ I) (hxI : x.T ≠ I) (hm : ∀ y, y ∉ [Str.ofString "code", Str.ofString "changes", Str.ofString "k"] → m' y = m₀ y) (h4 : o4.data = .cell v4)
    (hws : ∀ (j : Nat) x, ws[j]? = some x → x.a = cost j ∧ x.b = (dig j 0 : Nat) ∧ @LT.lt Nat _ WW x.T) (hx1 : x.a = cost ws.length ∧ x.b = (dig ws.length 0 : Nat) ∧ @LT.lt Nat _ WW x.T) :
    ForEndD h₀ L I oI s₁ (WaysJ WW C4 p1 p2 rest m₀ cost (ws.length + 1)) { s₁ with heap := h', toks := tk, drawn := dr } := by
  have e : (twosV ws).toArray.push (.ref x.T) = (twosV (ws ++ [x])).toArray := by simp
  rw [e] at N
  have N' := ways_news N hx
  refine ForEndD.mk F (show News h₀ L h' ((I, oI) :: (WW, listOf (twosV (ws ++ [x])).toArray k) :: p1 :: p2 :: (C4, o4) :: (rest ++ (ws ++ [x]).map fun x => (x.T, x.obj))) by rw [List.map_append]; exact N') (fun p hp => ?_)
    (WaysJ.mk (ws := ws ++ [x]) (by rw [List.length_append]; rfl) hm h4 fun j y hj => ?_)
  · rcases List.mem_cons.mp hp with rfl | hp
    · exact ap (WW, oW) (.head _)
    rcases List.mem_cons.mp hp with rfl | hp
    · exact ap _ (.tail _ (.head _))
    rcases List.mem_cons.mp hp with rfl | hp
    · exact ap _ (.tail _ (.tail _ (.head _)))
    rcases List.mem_cons.mp hp with rfl | hp
    · exact ap (C4, o4') (.tail _ (.tail _ (.tail _ (.head _))))
    rw [List.map_append] at hp
    rcases List.mem_append.mp hp with hp | hp
    · exact ap _ (.tail _ (.tail _ (.tail _ (.tail _ (List.mem_append_left _ hp)))))
    rcases List.mem_append.mp hp with hp | hp
    · exact ap _ (.tail _ (.tail _ (.tail _ (.tail _ (List.mem_append_right _ hp)))))
    · rw [List.mem_singleton.mp hp]; exact hxI
  · by_cases hjl : j < ws.length
    · rw [List.getElem?_append_left hjl] at hj; exact hws j y hj
    · rw [List.getElem?_append_right (Nat.not_lt.mp hjl)] at hj
      have hz : j - ws.length = 0 := by
        have := (List.getElem?_eq_some_iff.mp hj).1
        simp at this; omega
      rw [hz] at hj; cases hj
      obtain rfl : j = ws.length := by omega
      exact hx1
noncomputable def topAny (cost : Nat → Int) (F : Int) (i : Nat) : Bool := (List.range 81).any fun c => cost c == F && dig c 0 == i
theorem ways_any {WL : Addr} {cost : Nat → Int} {ws : List Two} (hlen : ws.length = 81) (hws : ∀ (j : Nat) x, ws[j]? = some x → x.a = cost j ∧ x.b = (dig j 0 : Nat) ∧ @LT.lt Nat _ WL x.T) (F : Int) (i : Nat) :
    (ws.any fun x => x.a == F && x.b == (i : Int)) = topAny cost F i := by
  unfold topAny
  rw [Bool.eq_iff_iff, List.any_eq_true, List.any_eq_true]
  constructor
  · rintro ⟨x, hx, h⟩
    obtain ⟨j, hj⟩ := List.getElem?_of_mem hx
    obtain ⟨h1, h2, _⟩ := hws j x hj
    obtain ⟨e1, e2⟩ := Bool.and_eq_true_iff.mp h
    refine ⟨j, List.mem_range.mpr (by rw [← hlen]; exact (List.getElem?_eq_some_iff.mp hj).1), Bool.and_eq_true_iff.mpr ⟨by rw [← h1]; exact e1, ?_⟩⟩
    rw [h2] at e2
    exact beq_iff_eq.mpr (Int.ofNat.inj (eq_of_beq e2))
  · rintro ⟨j, hj, h⟩
    obtain ⟨x, hx⟩ : ∃ x, ws[j]? = some x := ⟨_, List.getElem?_eq_getElem (by rw [hlen]; exact List.mem_range.mp hj)⟩
    obtain ⟨h1, h2, _⟩ := hws j x hx
    obtain ⟨e1, e2⟩ := Bool.and_eq_true_iff.mp h
    exact ⟨x, List.mem_of_getElem? hx, Bool.and_eq_true_iff.mpr ⟨by rw [h1]; exact e1, by rw [h2, eq_of_beq e2]; exact beq_self_eq_true _⟩⟩
theorem ways_least {WL : Addr} {cost : Nat → Int} {ws : List Two} {b : Two} (hlen : ws.length = 81) (hws : ∀ (j : Nat) x, ws[j]? = some x → x.a = cost j ∧ x.b = (dig j 0 : Nat) ∧ @LT.lt Nat _ WL x.T) (hb : b ∈ ws) (hmin : ∀ x ∈ ws, b.a ≤ x.a) :
    (∃ c, c < 81 ∧ cost c = b.a) ∧ ∀ c, c < 81 → b.a ≤ cost c := by
  obtain ⟨j, hj⟩ := List.getElem?_of_mem hb
  refine ⟨⟨j, by rw [← hlen]; exact (List.getElem?_eq_some_iff.mp hj).1, (hws j b hj).1.symm⟩, fun c hc => ?_⟩
  obtain ⟨x, hx⟩ : ∃ x, ws[c]? = some x := ⟨_, List.getElem?_eq_getElem (by rw [hlen]; exact hc)⟩
  rw [← (hws c x hx).1]; exact hmin x (List.mem_of_getElem? hx)
def FewOk (ths : List (Int × Int)) (ups : List Int) (v : Value) (h h' : Heap) : Prop :=
  ∃ (T M : Addr) (ms : List (Int × Tok)) (t : Tok) (n : Nat) (F : Int), v = .ref T ∧ (∀ b o, h.get? b = some o → h'.get? b = some o) ∧ h'.get? T = some (tupO [.int F t, .ref M]) ∧ h'.get? M = some (listOf (intsV ms).toArray n) ∧ h.get? T = none ∧ h.get? M = none ∧
    (∃ c, c < 81 ∧ wayCost ths ups c = F) ∧ (∀ c, c < 81 → F ≤ wayCost ths ups c) ∧ ms.map (·.1) = ((List.range 3).filter (topAny (wayCost ths ups) F)).map fun i : Nat => (i : Int)
theorem few_made {s₀ g h' : Heap} {L T M : Addr} {m : Str → Option Value} {args news : List (Addr × Obj)} {ths : List (Int × Int)} {ups : List Int} {F : Int} {t : Tok} {ms : List (Int × Tok)} {n : Nat} (Fr' : Fr g L h' m) (N : News g L h' news)
    (hargs : ∀ p ∈ args, s₀.get? p.1 = some p.2 ∧ g.get? p.1 = none) (hfull : ∀ b o, s₀.get? b = some o → b ∉ args.map (·.1) → g.get? b = some o) (hlt : ∀ p ∈ args, p.1 < L) (sub : ∀ p ∈ args, p ∈ news)
    (hT : (T, tupO [.int F t, .ref M]) ∈ news) (hM : (M, listOf (intsV ms).toArray n) ∈ news) (lT : @LT.lt Nat _ L T) (lM : @LT.lt Nat _ L M)
    (h1 : (∃ c, c < 81 ∧ wayCost ths ups c = F) ∧ ∀ c, c < 81 → F ≤ wayCost ths ups c) (h2 : ms.map (·.1) = ((List.range 3).filter (topAny (wayCost ths ups) F)).map fun i : Nat => (i : Int)) : FewOk ths ups (.ref T) s₀ h' :=
  ⟨T, M, ms, t, n, F, rfl, keeps_all Fr' N hargs hfull sub, (N _ hT).1, (N _ hM).1, fresh_new N hT lT hlt hfull, fresh_new N hM lM hlt hfull, h1.1, h1.2, h2⟩
end Mine
end
section
namespace Mine
noncomputable def dd (a b : Nat) : Int := if a = b then 0 else 1
noncomputable def mn (D : Nat → Int) : Int := min (D 0) (min (D 1) (D 2))
noncomputable def tell (D : Nat → Int) (x : Nat) : Int := mn D + (if D x = mn D then 0 else 1)
noncomputable def hd3 (D : Nat → Int) : Nat := if D 0 = mn D then 0 else if D 1 = mn D then 1 else 2
noncomputable def pk (D : Nat → Int) (x : Nat) : Nat := if D x = mn D then x else hd3 D
theorem mn_le (D : Nat → Int) {y : Nat} (hy : y < 3) : mn D ≤ D y := by
  unfold mn
  match y, hy with
  | 0, _ => omega
  | 1, _ => omega
  | 2, _ => omega
theorem hd3_lt (D : Nat → Int) : hd3 D < 3 := by unfold hd3; split <;> (try split) <;> omega
theorem hd3_is (D : Nat → Int) : D (hd3 D) = mn D := by
  unfold hd3
  split
  · assumption
  · split
    · assumption
    · unfold mn at *; omega
theorem pk_lt (D : Nat → Int) {x : Nat} (hx : x < 3) : pk D x < 3 := by unfold pk; split; exact hx; exact hd3_lt D
theorem tell_le (D : Nat → Int) {x y : Nat} (hx : x < 3) (hy : y < 3) : tell D x ≤ D y + dd y x := by
  have h1 := mn_le D hy
  unfold tell dd
  by_cases e : y = x
  · subst e; rw [if_pos rfl]; split <;> omega
  · rw [if_neg e]; split <;> omega
theorem tell_pk (D : Nat → Int) (x : Nat) : tell D x = D (pk D x) + dd (pk D x) x := by
  unfold tell pk
  by_cases e : D x = mn D
  · rw [if_pos e, if_pos e, e]; unfold dd; rw [if_pos rfl]
  · rw [if_neg e, if_neg e, hd3_is D]
    have : hd3 D ≠ x := fun q => e (q ▸ hd3_is D)
    unfold dd; rw [if_neg this]
section
variable (u2 u3 : Nat) (a : Nat → Nat → Int)
noncomputable def D3 : Nat → Int := a 3
noncomputable def D2 (x : Nat) : Int := a 2 x + if u3 = 2 then tell (D3 a) x else 0
noncomputable def D1 (x : Nat) : Int := a 1 x + (if u2 = 1 then tell (D2 u3 a) x else 0) + if u3 = 1 then tell (D3 a) x else 0
noncomputable def D0 (x : Nat) : Int := a 0 x + tell (D1 u2 u3 a) x + (if u2 = 0 then tell (D2 u3 a) x else 0) + if u3 = 0 then tell (D3 a) x else 0
noncomputable def Dk : Nat → Nat → Int
  | 0 => D0 u2 u3 a
  | 1 => D1 u2 u3 a
  | 2 => D2 u3 a
  | _ => D3 a
noncomputable def wayE (y : Nat → Nat) : Int := a 0 (y 0) + a 1 (y 1) + a 2 (y 2) + a 3 (y 3) + dd (y 1) (y 0) + dd (y 2) (y u2) + dd (y 3) (y u3)
variable {u2 u3 a}
theorem two_parts (h2 : u2 < 2) (T : Nat → Int) (y : Nat → Nat) : (if u2 = 0 then T (y 0) else 0) + (if u2 = 1 then T (y 1) else 0) = T (y u2) := by
  match u2, h2 with
  | 0, _ => exact Int.add_zero _
  | 1, _ => exact Int.zero_add _
theorem three_parts (h3 : u3 < 3) (T : Nat → Int) (y : Nat → Nat) : (if u3 = 0 then T (y 0) else 0) + (if u3 = 1 then T (y 1) else 0) + (if u3 = 2 then T (y 2) else 0) = T (y u3) := by
  match u3, h3 with
  | 0, _ => exact (Int.add_zero _).trans (Int.add_zero _)
  | 1, _ => exact (Int.add_zero _).trans (Int.zero_add _)
  | 2, _ => exact Int.zero_add _
theorem sum_le {A0 A1 A2 A3 T1 T2 T3 p q r s t d1 d2 d3 : Int} (e2 : p + q = T2) (e3 : r + s + t = T3) (t1 : T1 ≤ A1 + q + s + d1) (t2 : T2 ≤ A2 + t + d2) (t3 : T3 ≤ A3 + d3) : A0 + T1 + p + r ≤ A0 + A1 + A2 + A3 + d1 + d2 + d3 := by omega
theorem sum_eq {A0 A1 A2 A3 T1 T2 T3 p q r s t d1 d2 d3 : Int} (e2 : p + q = T2) (e3 : r + s + t = T3) (t1 : T1 = A1 + q + s + d1) (t2 : T2 = A2 + t + d2) (t3 : T3 = A3 + d3) : A0 + A1 + A2 + A3 + d1 + d2 + d3 = A0 + T1 + p + r := by omega
theorem way_low (h2 : u2 < 2) (h3 : u3 < 3) {y : Nat → Nat} (hy : ∀ k, k < 4 → y k < 3) : D0 u2 u3 a (y 0) ≤ wayE u2 u3 a y :=
  sum_le (two_parts h2 (tell (D2 u3 a)) y) (three_parts h3 (tell (D3 a)) y) (tell_le (D1 u2 u3 a) (hy 0 (by decide)) (hy 1 (by decide))) (tell_le (D2 u3 a) (hy u2 (by omega)) (hy 2 (by decide))) (tell_le (D3 a) (hy u3 (by omega)) (hy 3 (by decide)))
theorem way_hit (h2 : u2 < 2) (h3 : u3 < 3) {y : Nat → Nat} (y1 : y 1 = pk (D1 u2 u3 a) (y 0)) (y2 : y 2 = pk (D2 u3 a) (y u2)) (y3 : y 3 = pk (D3 a) (y u3)) : wayE u2 u3 a y = D0 u2 u3 a (y 0) :=
  sum_eq (two_parts h2 (tell (D2 u3 a)) y) (three_parts h3 (tell (D3 a)) y) (by rw [y1]; exact tell_pk _ _) (by rw [y2]; exact tell_pk _ _) (by rw [y3]; exact tell_pk _ _)
noncomputable def downW (u2 u3 : Nat) (a : Nat → Nat → Int) (x : Nat) : Nat → Nat
  | 0 => x
  | 1 => pk (D1 u2 u3 a) x
  | 2 => pk (D2 u3 a) (if u2 = 0 then x else pk (D1 u2 u3 a) x)
  | _ => pk (D3 a) (if u3 = 0 then x else if u3 = 1 then pk (D1 u2 u3 a) x else pk (D2 u3 a) (if u2 = 0 then x else pk (D1 u2 u3 a) x))
theorem downW_hit (h2 : u2 < 2) (h3 : u3 < 3) (x : Nat) : wayE u2 u3 a (downW u2 u3 a x) = D0 u2 u3 a x := by
  refine way_hit h2 h3 rfl ?_ ?_
  · match u2, h2 with
    | 0, _ => rfl
    | 1, _ => rfl
  · match u3, h3 with
    | 0, _ => rfl
    | 1, _ => rfl
    | 2, _ => rfl
theorem downW_lt {x : Nat} (hx : x < 3) : ∀ k, downW u2 u3 a x k < 3
  | 0 => hx
  | 1 => pk_lt _ hx
  | 2 => by
    show pk _ _ < 3
    refine pk_lt _ ?_
    split
    · exact hx
    · exact pk_lt _ hx
  | k + 3 => by
    show pk _ _ < 3
    refine pk_lt _ ?_
    split
    · exact hx
    · split
      · exact pk_lt _ hx
      · refine pk_lt _ ?_
        split
        · exact hx
        · exact pk_lt _ hx
end
end Mine
end
section
open PySem PySem.W PySem.Calls PyProof.Rows
namespace Mine
noncomputable def upL (u2 u3 : Nat) : List Nat := [0,0, u2, u3]
noncomputable def nmL : List Str := [Str.ofString "t", Str.ofString "a", Str.ofString "ab", Str.ofString "b"]
noncomputable def fold2 (u2 : Nat) : Str := if u2 = 0 then Str.ofString "/t/ab" else Str.ofString "/t/a/ab"
noncomputable def foldL (u2 u3 : Nat) : List Str := [Str.ofString "/t", Str.ofString "/t/a", fold2 u2,
  if u3 = 0 then Str.ofString "/t/b" else if u3 = 1 then Str.ofString "/t/a/b" else fold2 u2 ++ Str.ofString "/b"]
theorem fold_step : ∀ u2 < 2, ∀ u3 < 3, ∀ i < 3, joinS ((foldL u2 u3).getD ((upL u2 u3).getD (i + 1) 0) (Str.ofString "")) (nmL.getD (i + 1) (Str.ofString "")) = (foldL u2 u3).getD (i + 1) (Str.ofString "") := by decide +kernel
noncomputable def fileN : List Str := [Str.ofString "a.py", Str.ofString "a.b.py", Str.ofString "ab.py", Str.ofString "b.a.py"]
noncomputable abbrev foldK (u2 u3 k : Nat) : Str := (foldL u2 u3).getD k (Str.ofString "")
noncomputable abbrev upK (u2 u3 k : Nat) : Nat := (upL u2 u3).getD k 0
noncomputable def fileP (u2 u3 f s : Nat) : Str := joinS (foldK u2 u3 f) (fileN.getD s (Str.ofString ""))
noncomputable def ordL (u2 u3 : Nat) : List Nat := if u2 = 0 then (if u3 = 0 then [1,2,3,0] else [3,1,2,0]) else if u3 = 0 then [2,1,3,0] else if u3 = 1 then [2,3,1,0] else [3,2,1,0]
theorem up_lt : ∀ u2 < 2, ∀ u3 < 3, ∀ c < 4, upK u2 u3 c < 4 := by decide +kernel
theorem ord_lt' : ∀ u2 < 2, ∀ u3 < 3, ∀ c ∈ ordL u2 u3, c < 4 := by decide +kernel
theorem ord_len : ∀ u2 < 2, ∀ u3 < 3, (ordL u2 u3).length = 4 := by decide +kernel
theorem ord_at' : ∀ u2 < 2, ∀ u3 < 3, ∀ j < 4, (ordL u2 u3)[j]? = some ((ordL u2 u3).getD j 0) ∧ (ordL u2 u3).getD j 0 < 4 := by decide +kernel
theorem ord_at {u2 u3 j : Nat} (h2 : u2 < 2) (h3 : u3 < 3) (hj : j < 4) : (ordL u2 u3).getD j 0 < 4 := (ord_at' u2 h2 u3 h3 j hj).2
theorem ord_get {u2 u3 j : Nat} (h2 : u2 < 2) (h3 : u3 < 3) (hj : j < 4) : (ordL u2 u3)[j]? = some ((ordL u2 u3).getD j 0) := (ord_at' u2 h2 u3 h3 j hj).1
theorem ord_all : ∀ u2 < 2, ∀ u3 < 3, ∀ k < 4, k ∈ ordL u2 u3 := by decide +kernel
theorem and2' {a b : Bool} (h : (a && b) = true) : a = true ∧ b = true := Bool.and_eq_true_iff.mp h
noncomputable abbrev two4 (x : Int) : Int × Int := (Int.fmod x 4, Int.fmod (Int.fdiv x 4) 4)
end Mine
end
section
open PySem PySem.W PySem.Calls PyProof.Rows
open PyProof.Rows.LCg (NsObj lst lst_snoc ns_obj)
namespace Mine
noncomputable def lawSt (i : Nat) : Stmt := qb90.getD i (.Pass default)
noncomputable def lawE (L : Addr) : Env := envOfC (Str.ofString "law") qs91 L 264 (.ref 263)
noncomputable abbrev LM (w : World) : Model := model PySem.Challenge.rw_kt0042_01.row.prog w
theorem join2 (w : World) (a b : Str) (t tb : Tok) (ha : a.length ≤ 900) (hb : b.length ≤ 900) : PureCall w 2 228 [.str a t, .str b tb] (fun t => .str (joinS a b) t) :=
  join_g w a [(b, tb)] t (fun i => by
    cases i with
    | zero => exact Nat.le_trans ha (by decide)
    | succ i =>
      have e : joinF a ([(b, tb)].take (i + 1)) = joinS a b := by simp [joinF]
      rw [e]
      have := joinS_len (p := a) (b := b)
      omega) (fun x hx => by rw [List.mem_singleton.mp hx]; exact Nat.le_trans hb (by decide)) (fun M A E Q s h => by
    show wpAny M A (do let D ← alloc { cls := .type "tuple", data := .seq (strsV [(b, tb)]).toArray }; pure [(Str.ofString "a", Value.str a t), (Str.ofString "p", .ref D)]) Q E s
    exact wpAny_bind (wpAny_alloc (wpAny_pure h)))

def LawGo (w : World) (A : Around) (L : Addr) (st : List Stmt) (Q : Flow → Shared → Prop) (s : Shared) : Prop :=
  wpAny (LM w) (A.deeper (lawE L)) (execs st (lawE L)) Q (fun _ _ => False) s
section
variable {g h h' : Heap} {L a : Addr} {o : Obj} {m m' : Str → Option Value} {l l' t : List (Addr × Obj)} {x : Addr × Obj}
theorem Led.off (H : Led g L m h ((a, o) :: t)) : ∀ p ∈ t, p.1 ≠ a := (Led.ne (pre := []) H).2
theorem Led.to (H : Led g L m h l) (F : Fr g L h' m') (N : News g L h' l') (e : l'.map (·.1) = l.map (·.1)) : Led g L m' h' l' := ⟨F, N, by rw [e]; exact H.D⟩
theorem Led.to1 (H : Led g L m h l) (F : Fr g L h' m') (N : News g L h' (x :: l')) (lt : ∀ p ∈ l', @LT.lt Nat _ p.1 x.1) (e : l'.map (·.1) = l.map (·.1)) : Led g L m' h' (x :: l') :=
  ⟨F, N, List.nodup_cons.mpr ⟨fun hm => by
    obtain ⟨p, hp, q⟩ := List.mem_map.mp hm
    exact absurd (q ▸ lt p hp) (Nat.lt_irrefl _), by rw [e]; exact H.D⟩⟩
theorem ltAll {d : Addr} : ∀ {l : List (Addr × Obj)}, AllLt d l → ∀ p ∈ l, @LT.lt Nat _ p.1 d
  | [], _, _, hp => by cases hp
  | q :: r, h, p, hp => by
    rcases List.mem_cons.mp hp with rfl | hp
    · exact h.1
    · exact ltAll h.2 p hp
end
inductive JN (rest : List (Addr × Obj)) (K : Nat → List Value → List (Addr × Obj) → Prop) (i : Nat) (ys : List Value) : List (Addr × Obj) → Prop
  | mk {c : List (Addr × Obj)} (hK : K i ys c) (hD : ((rest ++ c).map (·.1)).Nodup) : JN rest K i ys (rest ++ c)
theorem JN.news {h₀ h : Heap} {L : Addr} {rest : List (Addr × Obj)} {K : Nat → List Value → List (Addr × Obj) → Prop} {i : Nat} {ys : List Value} {nw : List (Addr × Obj)} (hJ : JN rest K i ys nw) (N : News h₀ L h nw) : News h₀ L h rest := by
  cases hJ; exact fun p hp => N p (List.mem_append_left _ hp)
theorem nodup_cons1 {l : List (Addr × Obj)} {x : Addr × Obj} (D : (l.map (·.1)).Nodup) (lt : ∀ p ∈ l, @LT.lt Nat _ p.1 x.1) : ((x :: l).map (·.1)).Nodup :=
  List.nodup_cons.mpr ⟨fun hm => by
    obtain ⟨p, hp, q⟩ := List.mem_map.mp hm
    exact absurd (q ▸ lt p hp) (Nat.lt_irrefl _), D⟩
theorem nodup_snoc {l : List (Addr × Obj)} {x : Addr × Obj} (D : (l.map (·.1)).Nodup) (lt : ∀ p ∈ l, @LT.lt Nat _ p.1 x.1) : ((l ++ [x]).map (·.1)).Nodup :=
  ((List.perm_append_comm (l₁ := [x]) (l₂ := l)).map _).nodup (nodup_cons1 D lt)
theorem nodup_right {a b : List (Addr × Obj)} (D : ((a ++ b).map (·.1)).Nodup) : (b.map (·.1)).Nodup := by
  rw [List.map_append, List.nodup_append] at D; exact D.2.1
theorem nodup_off {a : Addr} {o : Obj} {b : List (Addr × Obj)} (D : (((a, o) :: b).map (·.1)).Nodup) : ∀ p ∈ b, p.1 ≠ a := fun p hp e => (List.nodup_cons.mp D).1 (by show a ∈ _; rw [← e]; exact List.mem_map_of_mem hp)
theorem nodup_head {x : Addr × Obj} {b : List (Addr × Obj)} (D : (b.map (·.1)).Nodup) (hx : ∀ p ∈ b, p.1 ≠ x.1) : ((x :: b).map (·.1)).Nodup :=
  List.nodup_cons.mpr ⟨fun hm => by
    obtain ⟨p, hp, e⟩ := List.mem_map.mp hm
    exact hx p hp e, D⟩
theorem turn_snoc {i j k x : Addr × Obj} {rest c : List (Addr × Obj)} (lT : ∀ p ∈ i :: j :: k :: ([] ++ (rest ++ c)), @LT.lt Nat _ p.1 x.1) (ap : ∀ p ∈ rest ++ c, p.1 ∉ [i.1, j.1, k.1]) (hD : ((rest ++ c).map (·.1)).Nodup) :
    (∀ p ∈ rest ++ (c ++ [x]), p.1 ∉ [i.1, j.1, k.1]) ∧ ((rest ++ (c ++ [x])).map (·.1)).Nodup :=
  ⟨ap_snocT ap fun hm => by
    rcases List.mem_cons.mp hm with e | hm
    · exact Nat.ne_of_gt (lT i (.head _)) e
    rcases List.mem_cons.mp hm with e | hm
    · exact Nat.ne_of_gt (lT j (.tail _ (.head _))) e
    · exact Nat.ne_of_gt (lT k (.tail _ (.tail _ (.head _)))) (List.mem_singleton.mp hm), by
    rw [← List.append_assoc]; exact nodup_snoc hD fun p hp => lT p (.tail _ (.tail _ (.tail _ hp)))⟩
theorem lst_itemE {prog : Program} {w : World} {A : Around} {E : Value → Shared → Prop} {s : Shared} {h₀ : Heap} {L : Addr} {news : List (Addr × Obj)} {value slice : Expr} {l : Addr} {xs : List Value} {n : Nat} {k : Int} {u : Tok} {P : Value → Prop} {Q : Value → Shared → Prop} (N : News h₀ L s.heap news) (hm : (l, listOf xs.toArray n) ∈ news) (h0 : 0 ≤ k) (hhi : k < 2 ^ 63)
    (hx : ∃ x, xs[k.toNat]? = some x ∧ P x) (h : ∀ x, P x → Q x s)
    (hs : subscripted slice false (.ref l) (.int k u) = operate [.ref l, .int k u] (getItem (.ref l) (.int k u)) := by with_unfolding_all rfl) :
    wpAny (model prog w) A (subscriptTail value slice (.ref l) (.int k u)) Q E s :=
  have ⟨x, e, p⟩ := hx
  lst_item N hm h0 hhi e (h x p) hs
theorem tup_itemE {prog : Program} {w : World} {A : Around} {E : Value → Shared → Prop} {s : Shared} {h₀ : Heap} {L : Addr} {news : List (Addr × Obj)} {value slice : Expr} {l : Addr} {xs : List Value} {k : Nat} {u : Tok} {P : Value → Prop} {Q : Value → Shared → Prop} (N : News h₀ L s.heap news) (hm : (l, tupO xs) ∈ news) (hk : k < xs.length) (hhi : (k : Int) < 2 ^ 63)
    (hx : ∃ x, xs[k]? = some x ∧ P x) (h : ∀ x, P x → Q x s)
    (hs : subscripted slice false (.ref l) (.int (k : Int) u) = operate [.ref l, .int (k : Int) u] (getItem (.ref l) (.int (k : Int) u)) := by with_unfolding_all rfl) :
    wpAny (model prog w) A (subscriptTail value slice (.ref l) (.int (k : Int) u)) Q E s :=
  have ⟨x, e, p⟩ := hx
  tup_item N hm (by omega) hhi (by unfold seqIndex?; simp only [Int.natCast_nonneg]; first | (simp; omega) | trace_state) e (h x p) hs
theorem four_at {a b c d : Str} {ta tb tc td : Tok} {i : Nat} (hi : i < 4) : ∃ x, ([.str a ta, .str b tb, .str c tc, .str d td] : List Value)[((i : Nat) : Int).toNat]? = some x ∧ ∃ t, x = .str ([a, b, c, d].getD i (Str.ofString "")) t := by
  match i, hi with
  | 0, _ => exact ⟨_, rfl, _, rfl⟩
  | 1, _ => exact ⟨_, rfl, _, rfl⟩
  | 2, _ => exact ⟨_, rfl, _, rfl⟩
  | 3, _ => exact ⟨_, rfl, _, rfl⟩
theorem strs_at {fs : List (Str × Tok)} {xs : List Str} (h : fs.map (·.1) = xs) {i : Nat} {x : Str} (hx : xs[i]? = some x) : ∃ t, (strsV fs)[i]? = some (.str x t) := by
  subst h
  rw [List.getElem?_map, Option.map_eq_some_iff] at hx
  obtain ⟨⟨a, t⟩, e, rfl⟩ := hx
  exact ⟨t, by rw [List.getElem?_map, e]; rfl⟩
theorem up_le : ∀ u2 < 2, ∀ u3 < 3, ∀ i < 3, upK u2 u3 (i + 1) ≤ i := by decide +kernel
theorem fold_get : ∀ u2 < 2, ∀ u3 < 3, ∀ k < 4, (foldL u2 u3)[k]? = some (foldK u2 u3 k) := by decide +kernel
theorem up_get : ∀ u2 < 2, ∀ u3 < 3, ∀ k < 4, ((upL u2 u3).map fun x : Nat => (x : Int))[k]? = some ((upK u2 u3 k : Nat) : Int) := by decide +kernel
theorem fold_len : ∀ u2 < 2, ∀ u3 < 3, ∀ k < 4, (foldK u2 u3 k).length ≤ 900 := by decide +kernel
theorem nm_len : ∀ k < 4, (nmL.getD k (Str.ofString "")).length ≤ 900 := by decide +kernel
theorem news_sub3 {h₀ h : Heap} {L : Addr} {x y : Addr × Obj} {r : List (Addr × Obj)} (N : News h₀ L h (x :: y :: r)) : News h₀ L h (x :: r) := fun p hp => N p (by
  rcases List.mem_cons.mp hp with rfl | hp
  · exact .head _
  · exact .tail _ (.tail _ hp))
theorem four_atI {a b c d : Str} {ta tb tc td : Tok} {k : Int} (h0 : 0 ≤ k) (h4 : k < 4) : ∃ x, ([.str a ta, .str b tb, .str c tc, .str d td] : List Value)[k.toNat]? = some x ∧ ∃ t, x = .str ([a, b, c, d].getD k.toNat (Str.ofString "")) t :=
  four_at (i := k.toNat) (by omega)
abbrev In4 (k : Int) : Prop := 0 ≤ k ∧ k < 4
theorem strs_snoc {fs : List (Str × Tok)} {x : Str} {t : Tok} : strsV fs ++ [.str x t] = strsV (fs ++ [(x, t)]) := by simp
theorem file_nm : ∀ s < 4, [Str.ofString "a", Str.ofString "a.b", Str.ofString "ab", Str.ofString "b.a"].getD s (Str.ofString "") ++ Str.ofString ".py" = fileN.getD s (Str.ofString "") := by decide +kernel
theorem nmp_len : ∀ s < 4, ([Str.ofString "a", Str.ofString "a.b", Str.ofString "ab", Str.ofString "b.a"].getD s (Str.ofString "") ++ Str.ofString ".py").length ≤ 900 := by decide +kernel
theorem take_map {α β γ : Type} {ws : List α} {fl : List (β × γ)} {f : α → β} {i : Nat} {x : α} {b : β} {t : γ} (h : fl.map (·.1) = (ws.take i).map f) (hx : ws[i]? = some x) (e : b = f x) : (fl ++ [(b, t)]).map (·.1) = (ws.take (i + 1)).map f := by
  rw [List.map_append, h, take_at hx, List.map_append, e]; rfl
noncomputable def modL : List Str := [Str.ofString "a", Str.ofString "ab", Str.ofString "b.a"]
noncomputable def bitOn (b : Int) (i : Nat) : Bool := Builtin.bitAnd (b.fdiv (2 ^ i)) 1 == 1
theorem three_at {a b c : Str} {ta tb tc : Tok} {i : Nat} (hi : i < 3) : ∃ x, ([.str a ta, .str b tb, .str c tc] : List Value)[((i : Nat) : Int).toNat]? = some x ∧ ∃ t, x = .str ([a, b, c].getD i (Str.ofString "")) t := by
  match i, hi with
  | 0, _ => exact ⟨_, rfl, _, rfl⟩
  | 1, _ => exact ⟨_, rfl, _, rfl⟩
  | 2, _ => exact ⟨_, rfl, _, rfl⟩
theorem shift_at {a b c d : Tok} {s : Nat} (hs : s < 4) : ∃ x, ([.int 0 a, .int 0 b, .int 1 c, .int 2 d] : List Value)[s]? = some x ∧ ∃ (q : Nat) (t : Tok), q ≤ 2 ∧ q = [0,0,1,2].getD s 0 ∧ x = .int ((q : Nat) : Int) t := by
  match s, hs with
  | 0, _ => exact ⟨_, rfl, 0, _, by decide, rfl, rfl⟩
  | 1, _ => exact ⟨_, rfl, 0, _, by decide, rfl, rfl⟩
  | 2, _ => exact ⟨_, rfl, 1, _, by decide, rfl, rfl⟩
  | 3, _ => exact ⟨_, rfl, 2, _, by decide, rfl, rfl⟩
def TwoK (ds : List (Int × Int)) (i : Nat) (ys : List Value) (c : List (Addr × Obj)) : Prop :=
  ∃ ws : List Two, ws.length = i ∧ ys = twosV ws ∧ c = ws.map (fun x => (x.T, x.obj)) ∧ ws.map Two.abs = ds.take i
theorem TwoK.snoc {T : Addr} {ds : List (Int × Int)} {ws : List Two} {a b : Int} {ta tb : Tok} (h : ws.map Two.abs = ds.take ws.length) (hx : ds[ws.length]? = some (a, b)) :
    TwoK ds (ws.length + 1) (twosV ws ++ [.ref T]) (ws.map (fun x => (x.T, x.obj)) ++ [(T, tupO [.int a ta, .int b tb])]) :=
  ⟨ws ++ [⟨T, a, ta, b, tb⟩], by simp, by simp, by simp, by rw [List.map_append, h, List.take_add_one, hx]; rfl⟩
theorem news_snoc1 {h₀ h : Heap} {L : Addr} {x i j k : Addr × Obj} {rest c : List (Addr × Obj)} (N : News h₀ L h (x :: i :: j :: k :: ([] ++ (rest ++ c)))) : News h₀ L h (i :: j :: k :: ([] ++ (rest ++ (c ++ [x])))) := fun p hp => N p (by
  rcases List.mem_cons.mp hp with rfl | hp
  · exact .tail _ (.head _)
  rcases List.mem_cons.mp hp with rfl | hp
  · exact .tail _ (.tail _ (.head _))
  rcases List.mem_cons.mp hp with rfl | hp
  · exact .tail _ (.tail _ (.tail _ (.head _)))
  rcases List.mem_append.mp hp with hp | hp
  · cases hp
  rcases List.mem_append.mp hp with hp | hp
  · exact .tail _ (.tail _ (.tail _ (.tail _ (List.mem_append_right _ (List.mem_append_left _ hp)))))
  rcases List.mem_append.mp hp with hp | hp
  · exact .tail _ (.tail _ (.tail _ (.tail _ (List.mem_append_right _ (List.mem_append_right _ hp)))))
  · rw [List.mem_singleton.mp hp]; exact .head _)
theorem three_out {i j k : Addr × Obj} {x : Addr} {l : List (Addr × Obj)} (lT : ∀ p ∈ i :: j :: k :: l, @LT.lt Nat _ p.1 x) : x ∉ [i.1, j.1, k.1] := fun hm => by
  rcases List.mem_cons.mp hm with e | hm
  · exact Nat.ne_of_gt (lT i (.head _)) e
  rcases List.mem_cons.mp hm with e | hm
  · exact Nat.ne_of_gt (lT j (.tail _ (.head _))) e
  · exact Nat.ne_of_gt (lT k (.tail _ (.tail _ (.head _)))) (List.mem_singleton.mp hm)
noncomputable def inSh (sl : List (Int × Tok)) (k : Int) : Bool := (sl.map (·.1)).any (· == k)
noncomputable def lieF (u2 u3 : Nat) (sl : List (Int × Tok)) (f : Nat) : List Int := [((f : Nat) : Int), ((upK u2 u3 f : Nat) : Int), ((upK u2 u3 (upK u2 u3 f) : Nat) : Int)].filter (inSh sl)
noncomputable def dueF (u2 u3 : Nat) (sl : List (Int × Tok)) (b : Int) (f s : Nat) : Int := (if lieF u2 u3 sl f ≠ [] then 1 else 0) + Builtin.bitAnd (b.fdiv (2 ^ ([0,0,1,2].getD s 0))) 1
end Mine
end
section
open PySem PySem.W PySem.Calls PyProof.Rows
open PyProof.Rows.LCg (NsObj lst lst_snoc ns_obj)
namespace Mine
theorem room_tc {A : Around} {k : Nat} {C : Addr} {rest : List Value} (R : Room A (k + 1)) : Room (A.under (.builtin "type.__call__" ⟨.ref C :: rest, []⟩)) k := by
  have e1 : (Code.builtin "type.__call__" ⟨.ref C :: rest, []⟩).weight = 1 := by kernel_rfl
  have e2 : (Code.builtin "type.__call__" ⟨.ref C :: rest, []⟩).cUnits = 1 := by kernel_rfl
  refine ⟨R.hd, ?_, ?_⟩
  · have := R.dp
    show A.depth + (Code.builtin "type.__call__" ⟨.ref C :: rest, []⟩).weight + k < _
    rw [e1]; omega
  · have := R.un
    show A.units + (Code.builtin "type.__call__" ⟨.ref C :: rest, []⟩).cUnits + 10 * k + 10 < _
    rw [e2]; omega
noncomputable def xF (u2 u3 k : Nat) : Str := foldK u2 u3 k ++ Str.ofString "/x/../"
noncomputable def unF (u2 u3 : Nat) (b : Str) : Str := if b = xF u2 u3 1 then foldK u2 u3 1 else if b = xF u2 u3 2 then foldK u2 u3 2 else foldK u2 u3 3
noncomputable def gs2 (u2 : Nat) : List Str := if u2 = 0 then [Str.ofString "t", Str.ofString "ab"] else [Str.ofString "t", Str.ofString "a", Str.ofString "ab"]
noncomputable def gsF (u2 u3 k : Nat) : List Str := [[Str.ofString "t"], [Str.ofString "t", Str.ofString "a"], gs2 u2, if u3 = 0 then [Str.ofString "t", Str.ofString "b"] else if u3 = 1 then [Str.ofString "t", Str.ofString "a", Str.ofString "b"] else gs2 u2 ++ [Str.ofString "b"]].getD k []
noncomputable def goodB (g : Str) : Bool := decide (g.length ≤ 4096) && (decide ((g.length : Int) ≠ 0) && ((g == Str.ofString ".") == false && (g != Str.ofString "..")))
noncomputable def normB (p : Str) (gs : List Str) : Bool := decide (p.length ≤ 4096) && (decide ((p.length : Int) ≠ 0) && ((Txt.slice p none (some 1) != Str.ofString "/") == false && ((Txt.slice p (some 1) (some 2) != Str.ofString "/") &&
  (decide (Txt.split (Txt.slice p (some 1) none) (Str.ofString "/") = gs ++ [Str.ofString "x", Str.ofString "..", Str.ofString ""]) && (gs.all goodB && (decide (gs.length ≤ 100) && (decide ((gs.map (·.length)).sum + gs.length ≤ 4000) &&
  (decide ((Txt.join (Str.ofString "/") gs).length ≤ 4000) && (decide ((((Str.ofString "/" ++ Txt.join (Str.ofString "/") gs).length : Nat) : Int) ≠ 0) && decide ((Str.ofString "/" ++ Txt.join (Str.ofString "/") gs).length ≤ 4096))))))))))
theorem and2 {a b : Bool} (h : (a && b) = true) : a = true ∧ b = true := Bool.and_eq_true_iff.mp h
theorem goodB_ok {g : Str} (h : goodB g = true) : Good g := by
  have ⟨h1, h⟩ := and2 h
  have ⟨h2, h⟩ := and2 h
  have ⟨h3, h4⟩ := and2 h
  exact ⟨of_decide_eq_true h1, of_decide_eq_true h2, beq_iff_eq.mp h3, h4⟩
theorem normB_ok {p : Str} {gs : List Str} (h : normB p gs = true) : NormOk p gs := by
  have ⟨h1, h⟩ := and2 h
  have ⟨h2, h⟩ := and2 h
  have ⟨h3, h⟩ := and2 h
  have ⟨h4, h⟩ := and2 h
  have ⟨h5, h⟩ := and2 h
  have ⟨h6, h⟩ := and2 h
  have ⟨h7, h⟩ := and2 h
  have ⟨h8, h⟩ := and2 h
  have ⟨h9, h⟩ := and2 h
  have ⟨ha, hb⟩ := and2 h
  exact ⟨of_decide_eq_true h1, of_decide_eq_true h2, beq_iff_eq.mp h3, h4, of_decide_eq_true h5, fun g hg => goodB_ok (List.all_eq_true.mp h6 g hg), of_decide_eq_true h7, of_decide_eq_true h8, of_decide_eq_true h9, of_decide_eq_true ha, of_decide_eq_true hb⟩
theorem dir_b : ∀ u2 < 2, ∀ u3 < 3, ∀ k < 3, (normB (xF u2 u3 (k + 1)) (gsF u2 u3 (k + 1)) && normF (gsF u2 u3 (k + 1)) == foldK u2 u3 (k + 1)) = true := by decide +kernel
theorem dir_ok {u2 u3 k : Nat} (h2 : u2 < 2) (h3 : u3 < 3) (hk : k < 3) : DirOk (xF u2 u3 (k + 1)) (foldK u2 u3 (k + 1)) :=
  have h := and2 (dir_b u2 h2 u3 h3 k hk)
  ⟨_, normB_ok h.1, beq_iff_eq.mp h.2⟩
theorem un_is : ∀ u2 < 2, ∀ u3 < 3, ∀ k < 3, unF u2 u3 (xF u2 u3 (k + 1)) = foldK u2 u3 (k + 1) := by decide +kernel
theorem join_x : ∀ u2 < 2, ∀ u3 < 3, ∀ k < 4, joinS (joinS (joinS (foldK u2 u3 k) (Str.ofString "x")) (Str.ofString "..")) (Str.ofString "") = xF u2 u3 k := by decide +kernel
theorem join_x4 (w : World) (u2 u3 k : Nat) (t t1 t2 t3 : Tok) (h2 : u2 < 2) (h3 : u3 < 3) (hk : k < 4) : PureCall w 2 228 [.str (foldK u2 u3 k) t, .str (Str.ofString "x") t1, .str (Str.ofString "..") t2, .str (Str.ofString "") t3] (fun t => .str (xF u2 u3 k) t) := by
  have e := join_x u2 h2 u3 h3 k hk
  have hl := fold_len u2 h2 u3 h3 k hk
  rw [← e]
  refine join_g w (foldK u2 u3 k) [(Str.ofString "x", t1), (Str.ofString "..", t2), (Str.ofString "", t3)] t (fun i => ?_) (fun x hx => ?_) (fun M A E Q s h => ?_)
  · refine Nat.le_trans joinF_len (Nat.le_trans (Nat.add_le_add hl (d := 6) ?_) (by decide : 900 + 6 ≤ 2000))
    match i with
    | 0 => exact Nat.zero_le _
    | 1 => exact Nat.le_of_ble_eq_true rfl
    | 2 => exact Nat.le_of_ble_eq_true rfl
    | i + 3 => rw [List.take_of_length_le (Nat.le_add_left 3 i)]; exact Nat.le_of_ble_eq_true rfl
  · rcases List.mem_cons.mp hx with rfl | hx
    · exact Nat.le_of_ble_eq_true rfl
    rcases List.mem_cons.mp hx with rfl | hx
    · exact Nat.le_of_ble_eq_true rfl
    · rw [List.mem_singleton.mp hx]; exact Nat.le_of_ble_eq_true rfl
  · show wpAny M A (do let D ← alloc { cls := .type "tuple", data := .seq (strsV [(Str.ofString "x", t1), (Str.ofString "..", t2), (Str.ofString "", t3)]).toArray }; pure [(Str.ofString "a", Value.str (foldK u2 u3 k) t), (Str.ofString "p", .ref D)]) Q E s
    exact wpAny_bind (wpAny_alloc (wpAny_pure h))
section
variable {w : World} {A : Around} {loose : List Str} {mean : ExcName → Option Value} {mg mb : Str → Option Value} {g hp : Heap} {gs : Array GenState} {dr : Drawn} {tk : Nat} {os : OsState} {L : Addr} {m : Str → Option Value} {Q E : Value → Shared → Prop} {t : List (Addr × Obj)}
structure IgnAt (w : World) (S : Str → Bool) (ds : List Str) (x dx MS DD IG : Addr) (t1 t2 t3 : Tok) (oM : Obj) (l : List (Str × Tok)) (n : Nat) : Prop where
  hn : n ≤ 100
  hS : StrSet prg w S n oM
  hl : l.map (·.1) = ds
noncomputable abbrev ignLed (w : World) (x dx MS DD IG : Addr) (t1 t2 t3 : Tok) (oM oI : Obj) (l : List (Str × Tok)) : List (Addr × Obj) := [(IG, oI), (DD, lst (strValues l)), (MS, oM), (x, instObj 180 dx), (dx, dictOf (ignEs w t1 t2 t3 MS DD IG) 3)]
theorem ign_call {vs : List Value} {EL : Addr} {oE : Obj} {S : Str → Bool} {ds : List Str} (HC : ∀ x dx, @LT.lt Nat _ dx x → @LT.lt Nat _ EL dx → CodCall w 7 170 (.ref x :: vs) [(x, instObj 180 dx), (dx, dictOf [] 0), (EL, oE)] (fun v h h' => v = .none ∧ IgnMade w x dx S ds h h'))
    (G : Gnd w loose mean mg mb g) (R : Room A 10) (H : Led g L m hp ((EL, oE) :: t))
    (hq : ∀ x dx MS DD IG t1 t2 t3 tt oM oI l n h' tk' dr', Led g L m h' (ignLed w x dx MS DD IG t1 t2 t3 oM oI l ++ (EL, oE) :: t) → IgnAt w S ds x dx MS DD IG t1 t2 t3 oM l n → oI.IsDictOf (strKind prg w) [(Str.ofString "<string>", .int 1 tt)] → Q (.ref x) ⟨h', gs, dr', tk', os⟩) :
    wpAny (LM w) A (call (.ref 180) vs) Q E ⟨hp, gs, dr, tk, os⟩ := by
  have X := G.K
  refine call_cls (fI := 170) H.F X H.N (by kernel_rfl) (by kernel_rfl) (by kernel_rfl) fun x dx h1 F1 N1 l1 l2 => ?_
  have D1 : (((x, instObj 180 dx) :: (dx, dictOf [] 0) :: (EL, oE) :: t).map (·.1)).Nodup := nodup_cons1 (nodup_cons1 H.D l1) (fun p hp => by
    rcases List.mem_cons.mp hp with rfl | hp
    · exact l2
    · exact Nat.lt_trans (l1 p hp) l2)
  have sub : ∀ p ∈ [(x, instObj 180 dx), (dx, dictOf [] 0), (EL, oE)], p ∈ (x, instObj 180 dx) :: (dx, dictOf [] 0) :: (EL, oE) :: t := fun p hp => by
    rcases List.mem_cons.mp hp with rfl | hp
    · exact .head _
    rcases List.mem_cons.mp hp with rfl | hp
    · exact .tail _ (.head _)
    · rw [List.mem_singleton.mp hp]; exact .tail _ (.tail _ (.head _))
  refine HC x dx l2 (l1 _ (.head _)) loose mean mg mb _ _ _ g G F1.keep (led_size F1) (fun p hp => ⟨(N1 p (sub p hp)).1, (N1 p (sub p hp)).2.2⟩) (room_tc (R.less (by decide))) fun v h2 tk2 dr2 hv => ?_
  obtain ⟨rfl, M⟩ := hv
  obtain ⟨k, m1, m2, m3, hM, hD, hI, hdx, fM, fD, fI, hn, hS, hl, hd⟩ := M
  rename_i MS DD IG t1 t2 t3 tt oM oI l n
  refine ⟨rfl, hq x dx MS DD IG t1 t2 t3 tt oM oI l n h2 tk2 dr2 ?_ ⟨hn, hS, hl⟩ hd⟩
  have off : ∀ p ∈ (x, instObj 180 dx) :: (EL, oE) :: t, p.1 ∉ [dx] := fun p hp hm => by
    have e := List.mem_singleton.mp hm
    rcases List.mem_cons.mp hp with rfl | hp
    · exact absurd e (Nat.ne_of_gt l2)
    · exact absurd e (Nat.ne_of_lt (l1 p hp))
  obtain ⟨F2, N2⟩ := made_back (X := [dx]) (c := [(dx, dictOf [] 0)]) (c' := [(dx, dictOf (ignEs w t1 t2 t3 MS DD IG) 3), (MS, oM), (DD, lst (strValues l)), (IG, oI)]) (rest := (x, instObj 180 dx) :: (EL, oE) :: t) F1
    (fun p hp => N1 p (by
      rcases List.mem_cons.mp hp with rfl | hp
      · exact .tail _ (.head _)
      rcases List.mem_cons.mp hp with rfl | hp
      · exact .head _
      · exact .tail _ (.tail _ hp)))
    (fun hm => (N1 (dx, dictOf [] 0) (.tail _ (.head _))).2.1 (List.mem_singleton.mp hm).symm) (fun b hb => by rw [List.mem_singleton.mp hb]; exact (N1 (dx, dictOf [] 0) (.tail _ (.head _))).2.2) off
    (fun b o hb => k b o fun e => hb (e ▸ .head _)) (fun p hp => by
      rcases List.mem_cons.mp hp with rfl | hp
      · exact ⟨hdx, .inl (.head _)⟩
      rcases List.mem_cons.mp hp with rfl | hp
      · exact ⟨hM, .inr fM⟩
      rcases List.mem_cons.mp hp with rfl | hp
      · exact ⟨hD, .inr fD⟩
      · rw [List.mem_singleton.mp hp]; exact ⟨hI, .inr fI⟩)
  have new : ∀ a, h1.get? a = none → ∀ p ∈ (x, instObj 180 dx) :: (dx, dictOf [] 0) :: (EL, oE) :: t, p.1 ≠ a := fun a ha p hp e => by
    rw [← e, (N1 p hp).1] at ha; cases ha
  refine ⟨F2, fun p hp => N2 p ?_, ?_⟩
  · rcases List.mem_cons.mp hp with rfl | hp
    · exact .tail _ (.tail _ (.tail _ (.head _)))
    rcases List.mem_cons.mp hp with rfl | hp
    · exact .tail _ (.tail _ (.head _))
    rcases List.mem_cons.mp hp with rfl | hp
    · exact .tail _ (.head _)
    rcases List.mem_cons.mp hp with rfl | hp
    · exact .tail _ (.tail _ (.tail _ (.tail _ (.head _))))
    rcases List.mem_cons.mp hp with rfl | hp
    · exact .head _
    · exact .tail _ (.tail _ (.tail _ (.tail _ (.tail _ hp))))
  · have Dn : (((IG, oI) :: (DD, lst (strValues l)) :: (MS, oM) :: (x, instObj 180 dx) :: (dx, dictOf [] 0) :: (EL, oE) :: t).map (·.1)).Nodup := by
      refine nodup_head (x := (IG, oI)) (nodup_head (x := (DD, lst (strValues l))) (nodup_head (x := (MS, oM)) D1 (new MS fM)) fun p hp => ?_) fun p hp => ?_
      · rcases List.mem_cons.mp hp with rfl | hp
        · exact Nat.ne_of_lt m2
        · exact new DD fD p hp
      · rcases List.mem_cons.mp hp with rfl | hp
        · exact Nat.ne_of_lt m3
        rcases List.mem_cons.mp hp with rfl | hp
        · exact Nat.ne_of_lt (Nat.lt_trans m2 m3)
        · exact new IG fI p hp
    exact Dn
end
end Mine
end
section
open PySem PySem.W PySem.Calls PyProof.Rows
open PyProof.Rows.LCg (NsObj lst lst_snoc ns_obj)
namespace Mine
theorem updF_to {g h h' : Heap} {L a : Addr} {o o' : Obj} {m : Str → Option Value} {nw : List (Addr × Obj)} {f : Obj → List (Addr × Obj)} (U : UpdF a o nw f) (F : Fr g L h m) (N : News g L h nw) (k : ∀ b x, b ≠ a → h.get? b = some x → h'.get? b = some x) (e : h'.get? a = some o') :
    Fr g L h' m ∧ News g L h' (f o') := by
  obtain ⟨pre, post, rfl, hf, h1, h2⟩ := U.split
  rw [hf]
  have z := N (a, o) (List.mem_append_right _ (.head _))
  obtain ⟨oL, a1, a2, hoL, a3⟩ := F.ns
  refine ⟨⟨⟨oL, a1, a2, k L _ (Ne.symm z.2.1) hoL, a3⟩, fun b x q => k b x (fun hb => by rw [hb, z.2.2] at q; cases q) (F.keep b x q), F.above⟩, fun p hp => ?_⟩
  rcases List.mem_append.mp hp with hp | hp
  · have y := N p (List.mem_append_left _ hp)
    exact ⟨k _ _ (h1 p hp) y.1, y.2⟩
  rcases List.mem_cons.mp hp with rfl | hp
  · exact ⟨e, z.2⟩
  · have y := N p (List.mem_append_right _ (.tail _ hp))
    exact ⟨k _ _ (h2 p hp) y.1, y.2⟩
noncomputable abbrev strStr : Str := Str.ofString "<string>"
def GoodK (kvs : List (Str × Value)) (P : Str → Prop) : Prop := ∀ md v, md ≠ strStr → valueAt kvs md = some v → ∃ u t, v = .int u t ∧ Says (P md) u
theorem goodK_0 {t : Tok} {P : Str → Prop} : GoodK [(strStr, .int 1 t)] P := fun md v hn e => by
  unfold valueAt at e
  rw [List.find?_cons, show decide (strStr = md) = false from decide_eq_false fun q => hn q.symm] at e
  cases e
section
variable {w : World} {A : Around} {loose : List Str} {mean : ExcName → Option Value} {mg mb : Str → Option Value} {g hp : Heap} {gs : Array GenState} {dr : Drawn} {tk : Nat} {os : OsState} {L : Addr} {m : Str → Option Value} {Q E : Value → Shared → Prop}
theorem names_call {x dx MS DD IG : Addr} {t1 t2 t3 tf tm : Tok} {oM oI : Obj} {S : Str → Bool} {ds : List Str} {n : Nat} {l : List (Str × Tok)} {kvs : List (Str × Value)} {f md : Str} {P : Str → Prop} {nw : List (Addr × Obj)} {fU : Obj → List (Addr × Obj)}
    (I : IgnAt w S ds x dx MS DD IG t1 t2 t3 oM l n) (hd : oI.IsDictOf (strKind prg w) kvs) (hk9 : kvs.length ≤ 1000) (hf : f.length ≤ 4096) (hmd : md.length ≤ 4096) (hSl : ∀ k, S k = true → k.length ≤ 4096) (hll : ∀ d ∈ ds, d.length ≤ 4096) (hln : ds.length ≤ 1000)
    (hP : Hit S ds f md ↔ P md) (hG : GoodK kvs P) (hne : md ≠ strStr) (G : Gnd w loose mean mg mb g) (R : Room A 3) (F : Fr g L hp m) (N : News g L hp nw) (U : UpdF IG oI nw fU)
    (hs : ∀ p ∈ [(IG, oI), (DD, lst (strValues l)), (MS, oM), (x, instObj 180 dx), (dx, dictOf (ignEs w t1 t2 t3 MS DD IG) 3)], p ∈ nw)
    (hq : ∀ u t oI' kvs' h' tk' dr', Says (P md) u → oI'.IsDictOf (strKind prg w) kvs' → kvs'.length ≤ kvs.length + 1 → GoodK kvs' P → Fr g L h' m → News g L h' (fU oI') → Q (.int u t) ⟨h', gs, dr', tk', os⟩) :
    wpAny (LM w) A (call (.ref 177) [.ref x, .str f tf, .str md tm]) Q E ⟨hp, gs, dr, tk, os⟩ := by
  obtain ⟨hn, hS, hl⟩ := I
  subst hl
  refine PySem.wpAny_call ?_
  refine names_c w x dx MS DD IG t1 t2 t3 tf tm oM oI S n _ l kvs f md hS hd hk9 hf hmd hSl (fun b hb => hll _ (List.mem_map_of_mem (f := fun x : Str × Tok => x.1) hb)) (by simpa using hln) (fun v e => ?_) loose mean mg mb A _ _ g G F.keep (led_size F) (fun p hp => ⟨(N p (hs p hp)).1, (N p (hs p hp)).2.2⟩) R fun v h2 tk2 dr2 hv => ?_
  · obtain ⟨u, t, e1, e2⟩ := hG md v hne e
    exact ⟨u, t, e1, ⟨fun p => e2.1 (hP.mp p), fun p => e2.2 fun q => p (hP.mpr q)⟩⟩
  · obtain ⟨hu, hI, hd', hl', ho, hs', k⟩ := hv
    rename_i u t oI' kvs'
    have hu' : Says (P md) u := ⟨fun p => hu.1 (hP.mpr p), fun p => hu.2 fun q => p (hP.mp q)⟩
    obtain ⟨F', N'⟩ := updF_to U F N k hI
    refine hq u t oI' kvs' h2 tk2 dr2 hu' hd' hl' (fun md' v' hn' e => ?_) F' N'
    by_cases q : md' = md
    · subst q
      obtain ⟨t', e'⟩ := hs'
      rw [e'] at e; cases e
      exact ⟨u, t', rfl, hu'⟩
    · rw [ho md' q] at e
      exact hG md' v' hn' e
end
noncomputable def stemN : List Str := [Str.ofString "a", Str.ofString "a.b", Str.ofString "ab", Str.ofString "b.a"]
noncomputable abbrev stemK (s : Nat) : Str := stemN.getD s (Str.ofString "")
noncomputable def stemB (p : Str) : Bool := decide (p.length ≤ 4096) && (decide (Txt.rfind p (Str.ofString ".") > Txt.rfind p (Str.ofString "/")) && (decide (Txt.rfind p (Str.ofString "/") + 1 < Txt.rfind p (Str.ofString ".")) && (Txt.slice p (some (Txt.rfind p (Str.ofString "/") + 1)) (some (Txt.rfind p (Str.ofString "/") + 1 + 1)) != Str.ofString ".")))
theorem stemB_ok {p : Str} (h : stemB p = true) : StemOk p := by
  have ⟨h1, h⟩ := and2 h
  have ⟨h2, h⟩ := and2 h
  have ⟨h3, h4⟩ := and2 h
  exact ⟨of_decide_eq_true h1, of_decide_eq_true h2, of_decide_eq_true h3, h4⟩
theorem stem_b : ∀ u2 < 2, ∀ u3 < 3, ∀ f < 4, ∀ s < 4, ((stemB (baseF (fileP u2 u3 f s)) && stemF (baseF (fileP u2 u3 f s)) == stemK s) && (decide ((fileP u2 u3 f s).length ≤ 900) && fileP u2 u3 f s != strStr)) = true := by decide +kernel
theorem modname_p (w : World) (u2 u3 f s : Nat) (t : Tok) (h2 : u2 < 2) (h3 : u3 < 3) (hf : f < 4) (hs : s < 4) : PureCall w 4 191 [.str (fileP u2 u3 f s) t] (fun t => .str (stemK s) t) := by
  have ⟨h, h'⟩ := and2 (stem_b u2 h2 u3 h3 f hf s hs)
  have ⟨a, b⟩ := and2 h
  have ⟨c, _⟩ := and2 h'
  have e := modname_g w (fileP u2 u3 f s) t (Nat.le_trans (of_decide_eq_true c) (by decide)) (stemB_ok a)
  rw [beq_iff_eq.mp b] at e
  exact e
theorem file_ok {u2 u3 f s : Nat} (h2 : u2 < 2) (h3 : u3 < 3) (hf : f < 4) (hs : s < 4) : (fileP u2 u3 f s).length ≤ 900 ∧ fileP u2 u3 f s ≠ strStr := by
  have ⟨c, d⟩ := and2 (and2 (stem_b u2 h2 u3 h3 f hf s hs)).2
  exact ⟨of_decide_eq_true c, bne_iff_ne.mp d⟩
theorem stem_ok : ∀ s < 4, (stemK s).length ≤ 4096 ∧ stemK s ≠ strStr := by decide +kernel
open Classical in
noncomputable def sayI (P : Prop) : Int := if P then 1 else 0
theorem Says.is {P : Prop} {u : Int} (h : Says P u) : u = sayI P := by
  unfold sayI
  split
  · next p => exact h.1 p
  · next p => exact h.2 p
theorem hit_nil {S : Str → Bool} {f f' md : Str} : Hit S [] f md ↔ Hit S [] f' md := by
  unfold Hit
  simp only [List.not_mem_nil, false_and, exists_false]
theorem stem_is {u2 u3 f s : Nat} (h2 : u2 < 2) (h3 : u3 < 3) (hf : f < 4) (hs : s < 4) : stemF (baseF (fileP u2 u3 f s)) = stemK s :=
  beq_iff_eq.mp (and2 (and2 (stem_b u2 h2 u3 h3 f hf s hs)).1).2
end Mine
end
section
open PySem PySem.W PySem.Calls PyProof.Rows
open PyProof.Rows.LCg (NsObj lst lst_snoc ns_obj)
namespace Mine
theorem tf_le : ∀ (ts : List Str) (k : Nat) (acc : Str), (∀ t ∈ ts, t.length ≤ 1) → (textFrom k acc ts).length ≤ acc.length + 3 * ts.length
  | [], _, acc, _ => Nat.le_add_right _ _
  | t :: r, k, acc, h => by
    have ih := tf_le r (k + 1) (acc ++ (if k > 0 then ", " else "" : String) ++ t) fun t ht => h t (.tail _ ht)
    have ht := h t (.head _)
    have e : (acc ++ (if k > 0 then ", " else "" : String) ++ t).length ≤ acc.length + 2 + t.length := by
      rw [strLen_append, strLen_append]
      split
      · exact Nat.le_refl _
      · show acc.length + 0 + t.length ≤ _; omega
    show (textFrom (k + 1) _ r).length ≤ _
    rw [List.length_cons]; omega
theorem small_cases {x : Int} (h : 0 ≤ x ∧ x ≤ 2) : x = 0 ∨ x = 1 ∨ x = 2 := by omega
theorem shownAll_1 : ∀ ns : List Int, (∀ x ∈ ns, 0 ≤ x ∧ x ≤ 2) → (∀ t ∈ PyData.shownAll (ns.map PyData.int), t.length ≤ 1) ∧ (PyData.shownAll (ns.map PyData.int)).length = ns.length ∧ PyData.showableAll (ns.map PyData.int) = true ∧ PyData.hasDictAll (ns.map PyData.int) = false
  | [], _ => by
    simp only [List.map_nil, PyData.shownAll, PyData.showableAll, PyData.hasDictAll]
    exact ⟨fun t ht => (nomatch ht), rfl, True.intro, True.intro⟩
  | x :: r, h => by
    obtain ⟨h1, h2, h3, h4⟩ := shownAll_1 r fun y hy => h y (.tail _ hy)
    have e : (PyData.shown (.int x)).length ≤ 1 ∧ PyData.showable (.int x) = true := by
      simp only [PyData.shown, PyData.showable]
      rcases small_cases (h x (.head _)) with rfl | rfl | rfl <;> exact ⟨by decide +kernel, by decide +kernel⟩
    simp only [List.map_cons, PyData.shownAll, PyData.showableAll, PyData.hasDictAll, PyData.hasDict, Bool.false_or, List.length_cons, h2, h3, h4, e.2, Bool.and_true, and_true, true_and]
    intro t ht
    rcases List.mem_cons.mp ht with rfl | ht
    · exact e.1
    · exact h1 t ht
noncomputable def strF (ns : List Int) : Str := (PyData.list (ns.map PyData.int)).shown
theorem str_ints {prog : Program} {w : World} {A : Around} {E : Value → Shared → Prop} {s : Shared} {h₀ : Heap} {L l : Addr} {m : Str → Option Value} {news : List (Addr × Obj)} {ul : List (Int × Tok)} {n : Nat} {Q : Value → Shared → Prop}
    (hg : A.guards = some []) (hu : A.units + 10 < cLine) (F : Fr h₀ L s.heap m) (N : News h₀ L s.heap news) (hm : (l, listOf (intsV ul).toArray n) ∈ news) (sm : ∀ x ∈ ul.map (·.1), 0 ≤ x ∧ x ≤ 2) (hl : ul.length ≤ 1000)
    (h : ∀ h' tk t', Fr h₀ L h' m → News h₀ L h' news → Q (.str (strF (ul.map (·.1))) t') { s with heap := h', toks := tk }) : wpAny (model prog w) A (call (.type "str") [.ref l]) Q E s := by
  obtain ⟨h1, h2, h3, h4⟩ := shownAll_1 _ sm
  have hd : PyData.depth (.list ((ul.map (·.1)).map PyData.int)) ≤ 2 := by
    have := PySem.W.depthAll_ints (ul.map fun x : Int × Tok => x.1)
    simp only [PyData.depth]; omega
  refine str_of_reads (d := .list ((ul.map fun x : Int × Tok => x.1).map PyData.int)) (h₀ := s.heap) (reads_of_ints ⟨_, (N _ hm).1, rfl, _, rfl⟩ (ints_are ul)) ?_ ?_ hg (by omega) (fun _ _ e => e) (fun h' u tk hk => h h' tk u (F.keeps hk) (N.grown hk)) ?_
  · simp only [PyData.showable]; exact h3
  · exact PyData.noDict_hsm (by simp only [PyData.hasDict]; exact h4)
  · simp only [PyData.shown]
    show (textFrom 0 "[" _ ++ "]").length ≤ _
    rw [strLen_append]
    have := tf_le _ 0 "[" h1
    rw [h2, List.length_map] at this
    have e1 : (("[" : String) : Str).length = 1 := rfl
    have e2 : (("]" : String) : Str).length = 1 := rfl
    rw [e1] at this
    rw [e2]
    unfold sizeLine
    omega
end Mine
end
open PySem PySem.W PyProof.Rows in
local macro_rules | `(tactic| k_all) => `(tactic| assumption)
section
open PySem PySem.W PySem.Calls PyProof.Rows
open PyProof.Rows.LCg (NsObj lst lst_snoc ns_obj)
namespace Mine
theorem gather_c (w : World) (RL : Addr) (rows : List Row) (n : Nat) (folder : Str) (tf : Tok) (args : List (Addr × Obj)) (hRL : (RL, listOf (rows.map fun r => Value.ref r.T).toArray n) ∈ args) (hrow : ∀ r ∈ rows, ∀ p ∈ r.objs, p ∈ args) (hpath : ∀ r ∈ rows, r.path.length ≤ 4096) (hlen : rows.length ≤ 1000) :
    CodCall w 4 247 [.ref RL, .str folder tf] args (fun v h h' => Gathered rows folder v h h') := by
  k_with_none
  k_with "execs cons" => (k_fold; (with_reducible refine PySem.wpAny_execs_cons ?_))
  k_with "call ref" => ((with_reducible show wpAny _ _ (call (Value.ref 235) _) _ _ _); refine' dirname_p _ _ _ ?h0 _ _ _ _ _ _ _ _ ?kG ?kR ?_; (case h0 => first | assumption | (simp only [Str.length_append]; omega) | omega); (case kG => exact Gnd.keeps (by assumption) (Fr.keep (by assumption))); (case kR => first | assumption | exact Room.deeper (by assumption) _ | exact Room.less (Room.deeper (by assumption) _) (by decide)); (intro t' h' tk' k'; (rename Fr _ _ _ _ => F0); (rename News _ _ _ _ => N0); have F' := Fr.keeps F0 k'; have N' := News.grown N0 k'; clear F0 N0; (try dsimp only)))
  k_with "eval ListComp" => (k_here; k_dflt (first | refine comp_ev none (by k_asm) (by rfl) (by rfl) (by decide) (by intro _ _; rfl) (by intro _; rfl) ?_ | refine comp_ev (some (Str.ofString "x")) (by k_asm) (by rfl) (by rfl) (by decide) (by intro _ _; rfl) (by intro _; rfl) ?_))
  k_with "subscriptTail" => (k_here; k_dflt (first | (refine' lst_item (l := D3) ?li1 ?li4 ?li2 ?li3 hx8 ?_; (case li1 => k_asm); (case li4 => k_mem); (case li2 => exact Int.natCast_nonneg _); (case li3 => omega)) | refine' tup_item (t := r.T) ?ti1 ?ti6 ?ti2 ?ti3 ?ti4 ?ti5 ?_; (case ti1 => k_asm); (case ti6 => (repeat' (first | exact hT | refine List.mem_cons_of_mem _ ?_))); (case ti2 => decide); (case ti3 => decide); (case ti4 => rfl); (case ti5 => rfl)))
  k_with "storeName" => (first | ((with_reducible show wpAny _ _ (storeName (compEnvC _ _ _ _) _ _) _ _ _); k_here; k_dflt (refine' store_cel ?sc1 ?sc2 hcv rfl hIc hCc hDc hnc ?_ ?sc4 ?sc5; (case sc4 => rfl); (case sc5 => rfl); (case sc1 => k_asm); (case sc2 => k_asm)); (intro h' oc' F' N' hd')) | ((with_reducible show wpAny _ _ (storeName (compEnvC _ _ _ _) _ _) _ _ _); k_here; k_dflt (refine' store_own ?so1 ?so2 ?so3 hIC hnC ?_ ?so4 ?so5; (case so4 => rfl); (case so5 => rfl); (case so1 => k_asm); (case so2 => k_asm); (case so3 => k_asm)); (intro h' oC' m' F' N' hC' hx' hy')))
  k_with "compareOp In int ref" => (k_here; k_dflt (refine' in_ints ?ki1 ?ki2 ?_; (case ki1 => k_asm); (case ki2 => (repeat' (first | exact hM | refine List.mem_cons_of_mem _ ?_)))))
  k_with "call builtin:len" => (k_here; k_dflt (refine' len_lst ?kn1 ?kn2 ?kn3 ?_; (case kn3 => first | exact hz9 | exact hz8); (case kn1 => k_asm); (case kn2 => k_mem)))
  k_with "call builtin:max" => (k_here; k_dflt (refine' max_lst ?km1 ?km2 rfl ?km3 hne9 ?_; (case km1 => k_asm); (case km2 => k_asm); (case km3 => k_mem)); (intro h' M t' tk' F' N' hMm hMl))
  k_with "call builtin:sum" => (k_here; k_dflt (refine' sum_lst ?km1 ?km2 rfl ?km3 ?_; (case km1 => k_asm); (case km2 => k_asm); (case km3 => k_mem)); (intro h' tk' t' F' N'))
  k_with "binaryOp Add ref ref" => (k_here; k_dflt (refine' add_lst ?ka1 ?ka2 ?ka3 ?ka4 ?ka5 ?_; (case ka1 => k_asm); (case ka2 => k_asm); (case ka3 => (repeat' (first | exact hRL | refine List.mem_cons_of_mem _ ?_))); (case ka4 => exact .head _); (case ka5 => exact hz7)); (intro D8 h' F' N' l8))
  refine cod_intro ?_
  intro loose mean mg mb A s R' g G hkg hsz hargs hfull R hret
  obtain ⟨hd0, dp0, fr0, gd0, un0⟩ := A
  obtain rfl : hd0 = none := R.hd
  have X := G.K; revert X; k_fill; intro X
  have T := G.T
  refine' enterCG (binds := [(Str.ofString "rows", .ref RL), (Str.ofString "folder", .str folder tf)]) ?k1 hkg hsz hargs ?k2 ?k3 ?k4 ?k5 ?k6 ?k7 ?k8 ?_ ?c1 ?c2 ?c3
  (case k1 => assumption)
  (case k2 => exact T.nolimit)
  (case k3 => exact Nat.lt_of_le_of_lt (Nat.le_add_right _ _) R.dp)
  (case k4 => k_is)
  (case k5 => k_is)
  (case k6 => first | exact BindsTo.of_eq rfl | exact binds_K (Frag.In.keeps (by assumption) hkg) rfl (by k_is) rfl rfl rfl)
  (case k7 => exact rfl)
  (case k8 => decide +kernel)
  (case c1 => exact rfl)
  (case c2 => exact rfl)
  (case c3 => exact rfl)
  intro L h₁ tk0 cells F N Y hlt
  obtain ⟨o4, o3, o2, o1, hE, d4, d3, d2, d1⟩ := CellsAre.four Y
  try dsimp only
  try k_fold
  subst hE
  clear Y
  replace d1 : o1.data = .cell (some (.str folder tf)) := d1
  replace d2 : o2.data = .cell none := d2
  replace d3 : o3.data = .cell none := d3
  replace d4 : o4.data = .cell none := d4
  have a1 : ∀ p ∈ args, p.1 ≠ L + 1 := fun p hp => Nat.ne_of_lt (Nat.lt_succ_of_lt (hlt p hp))
  have a2 : ∀ p ∈ args, p.1 ≠ L + 1 + 1 := fun p hp => Nat.ne_of_lt (Nat.lt_succ_of_lt (Nat.lt_succ_of_lt (hlt p hp)))
  have a3 : ∀ p ∈ args, p.1 ≠ L + 1 + 1 + 1 := fun p hp => Nat.ne_of_lt (Nat.lt_succ_of_lt (Nat.lt_succ_of_lt (Nat.lt_succ_of_lt (hlt p hp))))
  have a4 : ∀ p ∈ args, p.1 ≠ L + 1 + 1 + 1 + 1 := fun p hp => Nat.ne_of_lt (Nat.lt_succ_of_lt (Nat.lt_succ_of_lt (Nat.lt_succ_of_lt (Nat.lt_succ_of_lt (hlt p hp)))))
  simp only [List.cons_append, List.nil_append] at N
  k_steps
  (rename Fr _ _ _ _ => F0); (rename News _ _ _ _ => N0)
  refine CompGo.lst (c₀ := []) (fun i ys c => c = [] ∧ ys = ((rows.take i).filter fun r => dirnameF r.path == folder).map fun r => .ref r.T) F0 N0 rfl ⟨_, News.get N0 (by (repeat' (first | exact hRL | refine List.mem_cons_of_mem _ ?_))), rfl, _, rfl⟩ (by simp; unfold sizeLine; omega) (fun _ _ _ _ _ _ _ h => go_name h)
    (fun h' k N => ⟨_, News.get N (by (repeat' (first | exact hRL | refine List.mem_cons_of_mem _ ?_))), rfl, _, rfl⟩) ⟨rfl, rfl⟩ ?_ ?_
  · intro I C D cx o1 o2 o3 i v ys oI oC m₂ cells nw h tk dr E' hi hv hJ hoC hcc F N ap
    obtain ⟨rfl, rfl⟩ := hJ
    obtain ⟨r, hri, rfl⟩ := rows_at hv
    have hr := List.mem_of_getElem? hri
    have hT : (r.T, r.tup) ∈ args := hrow r hr _ (.head _)
    have hpl := hpath r hr
    obtain ⟨hIC, hnC⟩ := turn_off o1 o2 o3 hcc ap
    obtain rfl := hcc
    dsimp only
    try k_fold
    k_steps
    ·
      refine' TurnEnd.mk (cells := []) ?te1 ?te2 ?te3 ?te4 ?te5 ?te6
      (case te1 => assumption)
      (case te2 => exact rfl)
      (case te3 => assumption)
      (case te4 => walk_at "te4")
      (case te5 => exact ap)
      (case te6 => exact JC.mk (c := []) ⟨rfl, filt_yes hri (by assumption)⟩)
    ·
      refine' TurnEnd.mk (cells := []) ?te1 ?te2 ?te3 ?te4 ?te5 ?te6
      (case te1 => assumption)
      (case te2 => exact rfl)
      (case te3 => assumption)
      (case te4 => walk_at "te4")
      (case te5 => exact ap)
      (case te6 => exact JC.mk (c := []) ⟨rfl, filt_no hri (by assumption)⟩)
  · intro D h' tk dr ys nw hD F N ap hJ
    obtain ⟨rfl, rfl⟩ := hJ
    have l1 := lt_all N0 hD
    clear N0 F0
    simp only [List.nil_append, List.size_toArray, List.length_map, List.take_length] at N ap ⊢
    have l4 : @LT.lt Nat _ (L + 1 + 1 + 1 + 1) D := l1 _ (.head _)
    clear l1 ap
    have hin : ∀ r ∈ rows.filter (fun r => dirnameF r.path == folder), r ∈ rows := fun r hr => (List.mem_filter.mp hr).1
    have hil : (rows.filter (fun r => dirnameF r.path == folder)).length ≤ rows.length := List.length_filter_le _ _
    have hA : gIns (rows.map Row.abs) folder = (rows.filter (fun r => dirnameF r.path == folder)).map Row.abs := by unfold gIns; rw [List.filter_map]; rfl
    generalize rows.filter (fun r => dirnameF r.path == folder) = ins at *
    have hV : ∀ j : Int, gVote (gIns (rows.map Row.abs) folder) j = ((ins.filter fun r => r.marks.any (· == j)).length : Nat) := fun j => by rw [hA]; unfold gVote; rw [List.filter_map, List.length_map]; rfl
    k_steps
    (rename Fr _ _ _ _ => F0); (rename News _ _ _ _ => N0)
    refine CompGo.tup (c₀ := []) (fun i ys c => c = [] ∧ ∃ l : List (Int × Tok), ys = intsV l ∧ l.map (·.1) = (List.range i).map fun j : Nat => gVote (gIns (rows.map Row.abs) folder) j) F0 N0 rfl ⟨_, News.get N0 (by k_mem), rfl, _, rfl⟩ (Nat.le_of_ble_eq_true rfl) (fun _ _ _ _ _ _ _ h => go_name h)
      (fun h' k N => ⟨_, News.get N (by k_mem), rfl, _, rfl⟩) ⟨rfl, [], rfl, rfl⟩ ?_ ?_
    · intro I C D3 cx o1 o2 o3 i v ys oI oC m₂ cells nw h tk dr E' hi hv hJ hoC hcc F N ap
      obtain ⟨rfl, l, rfl, hl⟩ := hJ
      obtain ⟨hi3, t, rfl⟩ := tri_at hv
      obtain ⟨hIc, hCc, hDc, hnc⟩ := turn_cel o1 o2 o3 ap
      obtain ⟨oc, rfl, vc, hcv⟩ := hcc
      dsimp only
      simp only [List.cons_append, List.nil_append] at N
      try k_fold
      k_steps
      (rename Fr _ _ _ _ => F0); (rename News _ _ _ _ => N0)
      refine CompGo.lst (c₀ := []) (fun j ys c => c = [] ∧ ys = ((ins.take j).filter fun r => r.marks.any (· == (i : Int))).map fun r => .ref r.T) F0 N0 rfl ⟨_, News.get N0 (by k_mem), rfl, _, rfl⟩ (by simp; unfold sizeLine; omega) (fun _ _ _ _ _ _ _ h => go_name h)
        (fun h' k N => ⟨_, News.get N (by k_mem), rfl, _, rfl⟩) ⟨rfl, rfl⟩ ?_ ?_
      · intro I5 C5 D5 cx5 o1 o2 o3 j v ys5 oI5 oC5 m₅ cells5 nw5 h tk dr E5 hj hv hJ hoC5 hcc5 F N ap5
        obtain ⟨rfl, rfl⟩ := hJ
        obtain ⟨r, hri, rfl⟩ := rows_at hv
        have hr := hin r (List.mem_of_getElem? hri)
        have hT : (r.T, r.tup) ∈ args := hrow r hr _ (.head _)
        have hM : (r.M, r.lst) ∈ args := hrow r hr _ (.tail _ (.head _))
        obtain ⟨hIC, hnC⟩ := turn_off o1 o2 o3 hcc5 ap5
        obtain rfl := hcc5
        dsimp only
        try k_fold
        k_steps
        ·
          refine' TurnEnd.mk (cells := []) ?te1 ?te2 ?te3 ?te4 ?te5 ?te6
          (case te1 => assumption)
          (case te2 => exact rfl)
          (case te3 => assumption)
          (case te4 => walk_at "te4")
          (case te5 => exact ap5)
          (case te6 => exact JC.mk (c := []) ⟨rfl, filt_yes hri (by assumption)⟩)
        ·
          refine' TurnEnd.mk (cells := []) ?te1 ?te2 ?te3 ?te4 ?te5 ?te6
          (case te1 => assumption)
          (case te2 => exact rfl)
          (case te3 => assumption)
          (case te4 => walk_at "te4")
          (case te5 => exact ap5)
          (case te6 => exact JC.mk (c := []) ⟨rfl, filt_no hri (by assumption)⟩)
      · intro D5 h' tk dr ys nw5 hD F N ap5 hJ
        obtain ⟨rfl, rfl⟩ := hJ
        simp only [List.nil_append, List.size_toArray, List.length_map, List.take_length] at N ⊢
        have hz9 : ((ins.filter fun r => r.marks.any (· == (i : Int))).map fun r => Value.ref r.T).length ≤ 4096 := by
          rw [List.length_map]; exact Nat.le_trans (List.length_filter_le _ _) (by omega)
        k_steps
        refine' TurnEnd.mk (cells := [(cx, oc')]) ?te1 ?te2 ?te3 ?te4 ?te5 ?te6
        (case te1 => assumption)
        (case te2 => exact ⟨_, rfl, _, hd'⟩)
        (case te3 => assumption)
        (case te4 => walk_at "te4")
        (case te5 => exact ap)
        (case te6 => exact JC.mk (c := []) ⟨rfl, _, intsV_snoc, by rw [List.map_append, hl, ← range_yes, hV]; simp⟩)
    · intro D3 h' tk dr ys nw hD F N ap hJ
      obtain ⟨rfl, l, rfl, hl⟩ := hJ
      have l1 := lt_all N0 hD
      clear N0 F0
      simp only [List.nil_append] at N
      have l5 : @LT.lt Nat _ D D3 := l1 (D, _) (by k_mem)
      clear l1 ap
      have hne9 : 0 < l.length := by
        have := congrArg List.length hl
        simp at this; omega
      have hz8 : (ins.map fun r => Value.ref r.T).length ≤ 4096 := by rw [List.length_map]; omega
      k_steps
      (rename Fr _ _ _ _ => F0); (rename News _ _ _ _ => N0)
      refine CompGo.lst (c₀ := []) (fun j ys c => c = [] ∧ ys = intsV ((ins.take j).map fun r => (r.ch, r.tc))) F0 N0 rfl ⟨_, News.get N0 (by k_mem), rfl, _, rfl⟩ (by simp; unfold sizeLine; omega) (fun _ _ _ _ _ _ _ h => go_name h)
        (fun h' k N => ⟨_, News.get N (by k_mem), rfl, _, rfl⟩) ⟨rfl, rfl⟩ ?_ ?_
      · intro I5 C5 D5 cx5 o1 o2 o3 j v ys5 oI5 oC5 m₅ cells5 nw5 h tk dr E5 hj hv hJ hoC5 hcc5 F N ap5
        obtain ⟨rfl, rfl⟩ := hJ
        obtain ⟨r, hri, rfl⟩ := rows_at hv
        have hr := hin r (List.mem_of_getElem? hri)
        have hT : (r.T, r.tup) ∈ args := hrow r hr _ (.head _)
        obtain ⟨hIC, hnC⟩ := turn_off o1 o2 o3 hcc5 ap5
        obtain rfl := hcc5
        dsimp only
        try k_fold
        k_steps
        refine' TurnEnd.mk (cells := []) ?te1 ?te2 ?te3 ?te4 ?te5 ?te6
        (case te1 => assumption)
        (case te2 => exact rfl)
        (case te3 => assumption)
        (case te4 => walk_at "te4")
        (case te5 => exact ap5)
        (case te6 => exact JC.mk (c := []) ⟨rfl, intsV_snoc.trans (by rw [take_at hri, List.map_append]; rfl)⟩)
      · intro D5 h' tk dr ys nw5 hD F N ap5 hJ
        obtain ⟨rfl, rfl⟩ := hJ
        simp only [List.nil_append, List.size_toArray, List.length_map, List.take_length] at N ⊢
        have l1 := lt_all N0 hD
        have l6 : @LT.lt Nat _ D D5 := l1 (D, _) (by k_mem)
        clear l1 N0 F0 ap5
        have hMM : M = gMost (gIns (rows.map Row.abs) folder) := most_is (by rw [hl] at hMm; exact hMm) (by rw [hl] at hMl; exact hMl)
        k_steps
        (rename Fr _ _ _ _ => F0); (rename News _ _ _ _ => N0)
        refine CompGo.tup (c₀ := []) (fun i ys c => c = [] ∧ ∃ l : List (Int × Tok), ys = intsV l ∧ l.map (·.1) = ((List.range i).filter fun j : Nat => gVote (gIns (rows.map Row.abs) folder) j == M).map fun j : Nat => (j : Int)) F0 N0 rfl ⟨_, News.get N0 (by k_mem), rfl, _, rfl⟩ (Nat.le_of_ble_eq_true rfl) (fun _ _ _ _ _ _ _ h => go_name h)
          (fun h' k N => ⟨_, News.get N (by k_mem), rfl, _, rfl⟩) ⟨rfl, [], rfl, rfl⟩ ?_ ?_
        · intro I6 C6 D6 cx6 o1 o2 o3 i v ys6 oI6 oC6 m6 cells6 nw6 h tk dr E6 hi hv hJ hoC6 hcc6 F N ap6
          obtain ⟨rfl, l6, rfl, hl6⟩ := hJ
          obtain ⟨hi3, t, rfl⟩ := tri_at hv
          obtain ⟨hIC, hnC⟩ := turn_off o1 o2 o3 hcc6 ap6
          obtain rfl := hcc6
          obtain ⟨t8, ht8⟩ := intsV_at hl (i := i) (x := gVote (gIns (rows.map Row.abs) folder) i) (by rw [List.getElem?_map, List.getElem?_range (by simpa using hi3)]; rfl)
          have hx8 : (intsV l)[((i : Nat) : Int).toNat]? = some (.int (gVote (gIns (rows.map Row.abs) folder) i) t8) := by rw [Int.toNat_natCast]; exact ht8
          dsimp only
          try k_fold
          k_steps
          ·
            refine' TurnEnd.mk (cells := []) ?te1 ?te2 ?te3 ?te4 ?te5 ?te6
            (case te1 => assumption)
            (case te2 => exact rfl)
            (case te3 => assumption)
            (case te4 => walk_at "te4")
            (case te5 => exact ap6)
            (case te6 => exact JC.mk (c := []) ⟨rfl, _, intsV_snoc, by rw [List.map_append, hl6]; exact rfilt_yes (by first | assumption | exact beq_iff_eq.mpr (by assumption))⟩)
          ·
            refine' TurnEnd.mk (cells := []) ?te1 ?te2 ?te3 ?te4 ?te5 ?te6
            (case te1 => assumption)
            (case te2 => exact rfl)
            (case te3 => assumption)
            (case te4 => walk_at "te4")
            (case te5 => exact ap6)
            (case te6 => exact JC.mk (c := []) ⟨rfl, l6, rfl, by rw [hl6]; exact rfilt_no (by first | assumption | exact beq_eq_false_iff_ne.mpr (by assumption))⟩)
        · intro D6 h' tk dr ys nw6 hD F N ap6 hJ
          obtain ⟨rfl, l6, rfl, hl6⟩ := hJ
          have l1 := lt_all N0 hD
          have l7 : @LT.lt Nat _ D D6 := l1 (D, _) (by k_mem)
          clear l1 N0 F0 ap6
          simp only [List.nil_append] at N
          have hz7 : (rows.map fun r => Value.ref r.T).length + 1 ≤ 4096 := by rw [List.length_map]; omega
          k_steps
          (rename News _ _ _ _ => N0)
          have l9 : @LT.lt Nat _ D D8 := l8 (D, _) (by k_mem)
          refine' hret _ _ _ _ (gathered ?ga1 N0 hargs hfull hlt ?ga2 (.head _) ?ga3 ?ga4 ?ga5 ?ga6 ?ga7 ?ga8)
          (case ga1 => assumption)
          (case ga2 => (intro p hp; (repeat' (first | exact hp | refine List.mem_cons_of_mem _ ?_))))
          (case ga3 => k_mem)
          (case ga4 => exact show (D6, lst (intsV l6)) ∈ _ by k_mem)
          (case ga5 => (refine ltN ?_; omega))
          (case ga6 => (refine ltN ?_; omega))
          (case ga7 => (refine ltN ?_; omega))
          rw [hl6, hMM]
          unfold gRow
          rw [hA]
          congr 1
          rw [List.map_map, List.map_map, List.length_map, List.length_map]; rfl
end Mine
end
section
open PySem PySem.W PySem.Calls PyProof.Rows
namespace Mine
structure Ins where
  I : Nat
  d1 : Nat
  v : Str
  t : Tok
noncomputable abbrev Ins.ent (p : KP) (x : Ins) : Addr × Obj := (x.I + 8, insK p x.d1 #[some (.str x.v x.t)])
noncomputable abbrev Ins.key (x : Ins) : Value := .ref (x.I + 8)
noncomputable abbrev ledS (w : World) (p : KP) (ins : List Ins) (kS : Addr) (e : Nat) (rest : List (Addr × Obj)) : List (Addr × Obj) :=
  p.led w ++ (ins.map (Ins.ent p) ++ (kS, seqObj "list" (List.toArray (ins.map Ins.key)) e) :: rest)
noncomputable abbrev strV2 (x : Str × Tok) : Value := .str x.1 x.2
section
variable {w : World} {A : Around} {E : Value → Shared → Prop} {g h : Heap} {gs : Array GenState} {d : Drawn} {os : OsState} {m : Str → Option Value} {L tk kS : Nat} {p : KP} {news rest : List (Addr × Obj)} {all : List (Str × Tok)}
theorem Led.same {l l' : List (Addr × Obj)} (H : Led g L m h l) {h' : Heap} (F : Fr g L h' m) (N : News g L h' l') (e : l'.map (·.1) = l.map (·.1)) : Led g L m h' l' := ⟨F, N, by rw [e]; exact H.D⟩
theorem keys_ok (hkn : ∀ p ∈ knK w, g.get? p.1 = some p.2) (hlo : 8 ≤ g.objs.size) (hl : g.NoLimit) (hd : A.depth + 1 < recursionLimit) {Fin : List Value → Nat → Shared → Prop}
    (fin : ∀ ins e h tk, ins.map (fun x => (x.v, x.t)) = all → Led g L m h (ledS w p ins kS e rest) → Fin (ins.map Ins.key) e ⟨h, gs, d, tk, os⟩) :
    ∀ (r : List (Str × Tok)) (ins : List Ins) (e : Nat) (h : Heap) (tk : Nat), ins.map (fun x => (x.v, x.t)) ++ r = all → Led g L m h (ledS w p ins kS e rest) →
      KatKeys pQ w A g L m kS (.ref (p.E3 + 8)) Fin (r.map strV2) (ins.map Ins.key) e ⟨h, gs, d, tk, os⟩
  | [], ins, e, h, tk, hall, H => KatKeys.nil (fin ins e h tk (by rw [← hall, List.append_nil]) H)
  | (v, t) :: r, ins, e, h, tk, hall, H => by
    refine KatKeys.cons (wpAny_call (key_make hkn hlo hl hd H fun D1 I h' H' => ?_))
    have H2 : Led g L m h' (((I + 8, insK p D1 #[some (.str v t)]) :: (p.led w ++ ins.map (Ins.ent p))) ++ (kS, seqObj "list" (List.toArray (ins.map Ins.key)) e) :: rest) := by
      rw [List.cons_append, List.append_assoc]; exact H'
    refine KatBack.intro H2.F H2.N H2.updF fun h2 c F2 N2 => ?_
    have H3 := H2.same F2 N2 (by simp only [List.map_append, List.map_cons])
    have e1 : (ins ++ [(⟨I, D1, v, t⟩ : Ins)]).map Ins.key = ins.map Ins.key ++ [.ref (I + 8)] := by rw [List.map_append]; rfl
    have q := keys_ok hkn hlo hl hd fin r (ins ++ [⟨I, D1, v, t⟩]) c h2 (tk + 3) (by rw [← hall]; simp) (H3.perm (by
      show (p.led w ++ (List.map (Ins.ent p) (ins ++ [⟨I, D1, v, t⟩]) ++ _)).Perm _
      rw [e1, List.map_append, List.append_assoc, ← List.append_assoc, List.cons_append]
      exact List.perm_middle))
    rw [e1] at q
    exact q
end
noncomputable def askRun {α : Type} (ans : Nat → Nat → Bool) : KasT α → α
  | .ret a => a
  | .ask i j k => askRun ans (k (ans i j))
noncomputable def askOk {α : Type} (n : Nat) : KasT α → Bool
  | .ret _ => true
  | .ask i j k => decide (i < n) && decide (j < n) && (i != j) && askOk n (k true) && askOk n (k false)
theorem ask_wp {α : Type} {cmp : Nat → Nat → (Bool → Shared → Prop) → Shared → Prop} {Inv : Shared → Prop} {n : Nat} {ans : Nat → Nat → Bool} (step : ∀ i j C s, i < n → j < n → i ≠ j → Inv s → (∀ s', Inv s' → C (ans i j) s') → cmp i j C s) :
    ∀ (t : KasT α) (Q : α → Shared → Prop) (s : Shared), askOk n t = true → Inv s → (∀ s', Inv s' → Q (askRun ans t) s') → t.kasWp cmp Q s
  | .ret a, Q, s, _, hs, h => h s hs
  | .ask i j k, Q, s, ok, hs, h => by
    simp only [askOk, Bool.and_eq_true, decide_eq_true_eq, bne_iff_ne, ne_eq] at ok
    obtain ⟨⟨⟨⟨hi, hj⟩, hij⟩, h1⟩, h2⟩ := ok
    refine step i j _ s hi hj hij hs fun s' hs' => ask_wp step (k (ans i j)) Q s' ?_ hs' h
    cases ans i j
    · exact h2
    · exact h1
theorem perm_two {α : Type} {l : List α} {i j : Nat} (hi : i < l.length) (hj : j < l.length) (hij : i ≠ j) : ∃ r, (l[i] :: l[j] :: r).Perm l := by
  have p1 : (l[i] :: l.eraseIdx i).Perm l := by
    rw [List.eraseIdx_eq_take_drop_succ]
    have q := List.perm_middle (a := l[i]) (l₁ := l.take i) (l₂ := l.drop (i + 1))
    rw [List.getElem_cons_drop, List.take_append_drop] at q
    exact q.symm
  have hm : l[j] ∈ l.eraseIdx i := List.mem_eraseIdx_iff_getElem.mpr ⟨j, hj, fun e => hij e.symm, rfl⟩
  obtain ⟨s, t, e⟩ := List.append_of_mem hm
  refine ⟨s ++ t, (List.Perm.cons _ ?_).trans p1⟩
  rw [e]
  exact List.perm_middle.symm
theorem looks_ref {M : Model} {h : Heap} {a : Addr} {o : Obj} (ho : h.get? a = some o) : Looks M h (typeOf (.ref a)) o.cls := (Looks.ld ho).andThen .now
noncomputable abbrev cntOf (vs : List (Str × Tok)) (i : Nat) : Int := Txt.count ((vs[i]?.map (·.1)).getD (Str.ofString "")) (Str.ofString "/")
noncomputable def sortOut (vs : List (Str × Tok)) : List Value := (askRun (fun i j => decide (cntOf vs j - cntOf vs i < 0)) (kas_sort 4)).toList.map fun i => (vs.map strV2).getD i Value.none
section
variable {w : World} {A : Around} {E : Value → Shared → Prop} {Q : Value → Shared → Prop} {g h : Heap} {gs : Array GenState} {d : Drawn} {os : OsState} {m : Str → Option Value} {L tk l : Nat} {p : KP} {news : List (Addr × Obj)} {vs : List (Str × Tok)}
theorem sorted4 {loose : List Str} {mean : ExcName → Option Value} {mg mb : Str → Option Value} (G : Gnd w loose mean mg mb g) (Rm : Room A 7) (hkn : ∀ p ∈ knK w, g.get? p.1 = some p.2) (hlo : 8 ≤ g.objs.size) (hlen : ∀ x ∈ vs, x.1.length ≤ 4096) (h4 : vs.length = 4)
    (hls : h.IsList l (vs.map strV2).toArray) (H : Led g L m h (p.led w ++ news))
    (hq : ∀ D c h' tk' d', Fr g L h' m → News g L h' ((D, listOf (List.toArray (sortOut vs)) c) :: news) → (∀ q ∈ news, @LT.lt Nat _ q.1 D) → Q (.ref D) ⟨h', gs, d', tk', os⟩) :
    wpAny (model pQ w) A (call (.builtin "sorted") [.ref l] [(Str.ofString "key", .ref (p.E3 + 8))]) Q E ⟨h, gs, d, tk, os⟩ := by
  have hl4 : (vs.map strV2).length = 4 := by rw [List.length_map, h4]
  refine kat_sortedK (b := false) H.F H.N hls (by omega) (by omega) (ksk_s1 _ _) (fun x => ksk_l1 _ _) (fun x => ksk_t1 _ _) fun D kS e1 h' F' N' l1 l2 => ?_
  have H1 : Led g L m h' ((kS, seqObj "list" #[] 0) :: (D, seqObj "list" #[] e1) :: (p.led w ++ news)) := ⟨F', N', by
    refine List.nodup_cons.mpr ⟨fun hm => ?_, List.nodup_cons.mpr ⟨fun hm => ?_, H.D⟩⟩
    · rcases List.mem_cons.mp hm with e | hm
      · exact absurd e (Nat.ne_of_gt l1)
      · obtain ⟨q, hq', e⟩ := List.mem_map.mp hm
        have a : @LT.lt Nat _ q.1 D := l2 q hq'
        have b : @LT.lt Nat _ D kS := l1
        have e' : @Eq Nat q.1 kS := e
        omega
    · obtain ⟨q, hq', e⟩ := List.mem_map.mp hm
      have a : @LT.lt Nat _ q.1 D := l2 q hq'
      have e' : @Eq Nat q.1 D := e
      omega⟩
  have hd : A.in1.in1.depth + 1 < recursionLimit := by have := Rm.dp; show A.depth + 1 < _; omega
  have Rm5 : Room A.in1.in1 5 := ⟨Rm.hd, by have := Rm.dp; show A.depth + 5 < _; omega, by have := Rm.un; show A.units + 1 + 1 + _ + _ < _; omega⟩
  refine keys_ok (all := vs) (rest := (D, seqObj "list" #[] e1) :: news) hkn hlo G.T.nolimit hd (fun ins e h2 tk2 hall H2 => ?_) vs [] 0 h' tk rfl (H1.perm ?_)
  · have hins : ins.length = 4 := by rw [← h4, ← hall, List.length_map]
    have hsl : ∀ x ∈ ins, x.v.length ≤ 4096 := fun x hx => hlen (x.v, x.t) (by rw [← hall]; exact List.mem_map_of_mem hx)
    refine kas_kind (T := .ref (p.E3 + 8)) (by rw [List.length_map]; omega) (fun v hv => ?_) rfl (by simp) ?_
    · obtain ⟨x, hx, rfl⟩ := List.mem_map.mp hv
      have ho := (H2.N (x.ent p) (List.mem_append_right _ (List.mem_append_left _ (List.mem_map_of_mem hx)))).1
      exact looks_ref ho
    · rw [hl4]
      refine ask_wp (n := 4) (Inv := fun s => ∃ h tk d, s = ⟨h, gs, d, tk, os⟩ ∧ Led g L m h (ledS w p ins kS e ((D, seqObj "list" #[] e1) :: news))) (ans := fun i j => decide (cntOf vs j - cntOf vs i < 0))
        (fun i j C s hi hj hij hI k => ?_) (kas_sort 4) _ _ (by decide +kernel) ⟨h2, tk2, d, rfl, H2⟩ ?_
      · obtain ⟨h3, tk3, d3, rfl, H3⟩ := hI
        have hi' : i < ins.length := by omega
        have hj' : j < ins.length := by omega
        obtain ⟨r, pr⟩ := perm_two hi' hj' hij
        have at_ : ∀ k (hk : k < ins.length), (katRev false (ins.map Ins.key)).getD k Value.none = .ref (ins[k].I + 8) ∧ cntOf vs k = Txt.count (ins[k].v) (Str.ofString "/") := fun k hk => by
          constructor
          · show (List.map Ins.key ins).getD k Value.none = _
            simp [hk]
          · unfold cntOf
            rw [← hall, List.getElem?_map, List.getElem?_eq_getElem hk]
            rfl
        show wpAny _ _ (keyLt' oneType' _ _) C _ _
        rw [(at_ i hi').1, (at_ j hj').1]
        rw [(at_ i hi').2, (at_ j hj').2] at k
        have pm : (ledP w p (ins[i].I) (ins[j].I) (ins[i].d1) (ins[j].d1) (ins[i].t) (ins[j].t) (ins[i].v) (ins[j].v) ++ (r.map (Ins.ent p) ++ (kS, seqObj "list" (List.toArray (ins.map Ins.key)) e) :: (D, seqObj "list" #[] e1) :: news)).Perm (ledS w p ins kS e ((D, seqObj "list" #[] e1) :: news)) := by
          have q := ((pr.map (Ins.ent p)).append_right ((kS, seqObj "list" (List.toArray (ins.map Ins.key)) e) :: (D, seqObj "list" #[] e1) :: news)).append_left (p.led w)
          refine List.Perm.trans ?_ q
          rw [List.map_cons, List.map_cons, List.cons_append, List.cons_append]
          exact ((List.perm_middle.trans (.cons _ List.perm_middle))).symm
        exact key_lt G (hsl _ (List.getElem_mem hi')) (hsl _ (List.getElem_mem hj')) Rm5 hkn hlo (H3.perm pm) fun h4 tk4 H4 d4 => k _ ⟨h4, tk4, d4, rfl, H4.perm pm.symm⟩
      · rintro s' ⟨h3, tk3, d3, rfl, H3⟩
        have H4 : Led g L m h3 ((p.led w ++ ins.map (Ins.ent p)) ++ (kS, seqObj "list" (List.toArray (ins.map Ins.key)) e) :: (D, seqObj "list" #[] e1) :: news) := by
          rw [List.append_assoc]; exact H3
        refine KatFin.intro H4.F H4.N H4.updF fun h5 c5 F5 N5 => ?_
        have H5 : Led g L m h5 ((p.led w ++ ins.map (Ins.ent p) ++ [(kS, seqObj "list" #[] c5)]) ++ (D, seqObj "list" #[] e1) :: news) := by
          have q := H4.same F5 N5 (by simp only [List.map_append, List.map_cons])
          rw [List.append_assoc] at q ⊢
          rw [List.append_assoc]
          exact q
        refine KasFin.intro H5.F H5.N H5.updF fun h6 c6 F6 N6 => ?_
        exact hq D c6 h6 _ _ F6 (fun q hq' => N6 q (List.mem_append_right _ hq')) fun q hq' => l2 q (List.mem_append_right _ hq')
  · show (p.led w ++ (kS, _) :: (D, _) :: news).Perm _
    exact List.perm_middle.trans (.cons _ List.perm_middle)
end
end Mine
end
section
open PySem PySem.W PySem.Calls PyProof.Rows
open PyProof.Rows.LCg (NsObj lst lst_snoc ns_obj)
namespace Mine
theorem knK_in {w : World} {g : Heap} (X : (K2 w.params).In g) : ∀ p ∈ knK w, g.get? p.1 = some p.2 := fun p hp => by
  unfold knK at hp
  rcases List.mem_cons.mp hp with rfl | hp
  · exact X _ _ rfl
  rcases List.mem_cons.mp hp with rfl | hp
  · exact X _ _ rfl
  rcases List.mem_cons.mp hp with rfl | hp
  · exact X _ _ rfl
  rcases List.mem_cons.mp hp with rfl | hp
  · exact X _ _ rfl
  rw [List.mem_singleton.mp hp]
  exact X _ _ rfl
theorem lo_in {w : World} {g : Heap} (X : (K2 w.params).In g) : 8 ≤ g.objs.size := Nat.le_trans (by decide) (Nat.le_of_lt (Heap.lt_size (X 264 _ rfl)))
section
variable {w : World} {A : Around} {loose : List Str} {mean : ExcName → Option Value} {mg mb : Str → Option Value} {g hp : Heap} {gs : Array GenState} {dr : Drawn} {tk : Nat} {os : OsState} {L : Addr} {m : Str → Option Value} {Q E : Value → Shared → Prop} {t : List (Addr × Obj)}
theorem cmp_call (G : Gnd w loose mean mg mb g) (R : Room A 4) (H : Led g L m hp ((193, tabObj #[]) :: t))
    (hq : ∀ (p : KP) (ps : Array Value) h' tk' dr', Led g L m h' (p.led w ++ (193, tabObj ps) :: t) → Q (.ref (p.E3 + 8)) ⟨h', gs, dr', tk', os⟩) : wpAny (LM w) A (call (.ref 198) [.ref 242]) Q E ⟨hp, gs, dr, tk, os⟩ := by
  refine PySem.wpAny_call ?_
  refine cmp_c w loose mean mg mb A _ _ g G H.F.keep (led_size H.F) (fun p hp => ⟨(H.N p ?_).1, (H.N p ?_).2.2⟩) R fun v h2 tk2 dr2 hv => ?_
  · rw [List.mem_singleton.mp hp]; exact .head _
  · rw [List.mem_singleton.mp hp]; exact .head _
  obtain ⟨p, rfl, hl, hn, ⟨ps, ho⟩, hk⟩ := hv
  refine hq p ps h2 tk2 dr2 ?_
  obtain ⟨F2, N2⟩ := made_back (X := [193]) (c := [(193, tabObj #[])]) (c' := p.led w ++ [(193, tabObj ps)]) (rest := t) H.F H.N (fun hm => (H.N (193, tabObj #[]) (.head _)).2.1 (List.mem_singleton.mp hm).symm)
    (fun b hb => by rw [List.mem_singleton.mp hb]; exact (H.N (193, tabObj #[]) (.head _)).2.2) (fun q hq hm => H.off q hq (List.mem_singleton.mp hm)) (fun b x hb e => hk b x (fun q => hb (q ▸ .head _)) e)
    (fun q hq => (List.mem_append.mp hq).elim (fun hq => ⟨(hl q hq).1, .inr (hl q hq).2⟩) fun hq => by rw [List.mem_singleton.mp hq]; exact ⟨ho, .inl (.head _)⟩)
  refine ⟨F2, fun q hq => N2 q (by rw [List.append_assoc]; exact hq), ?_⟩
  rw [List.map_append, List.nodup_append]
  refine ⟨hn, H.D, fun a ha b hb e => ?_⟩
  obtain ⟨q, hq, rfl⟩ := List.mem_map.mp ha
  have hb' : b ∈ ((193, tabObj #[]) :: t).map (·.1) := hb
  obtain ⟨x, hx, ex⟩ := List.mem_map.mp hb'
  have := (hl q hq).2
  rw [e, ← ex, (H.N x hx).1] at this
  cases this
end
noncomputable def cntL (u2 u3 : Nat) (i : Nat) : Int := Txt.count (((foldL u2 u3)[i]?).getD (Str.ofString "")) (Str.ofString "/")
theorem ord_is : ∀ u2 < 2, ∀ u3 < 3, (askRun (fun i j => decide (cntL u2 u3 j - cntL u2 u3 i < 0)) (kas_sort 4)).toList = ordL u2 u3 := by decide +kernel
theorem sort_is {u2 u3 : Nat} (h2 : u2 < 2) (h3 : u3 < 3) {vs : List (Str × Tok)} (hv : vs.map (·.1) = foldL u2 u3) : sortOut vs = (ordL u2 u3).map fun i => (vs.map strV2).getD i Value.none := by
  unfold sortOut
  have e : cntOf vs = cntL u2 u3 := funext fun i => by
    unfold cntL
    rw [← hv, List.getElem?_map]
  rw [show (fun i j => decide (cntOf vs j - cntOf vs i < 0)) = fun i j => decide (cntL u2 u3 j - cntL u2 u3 i < 0) by rw [← e], ord_is u2 h2 u3 h3]
theorem sort_at {u2 u3 : Nat} (h2 : u2 < 2) (h3 : u3 < 3) {vs : List (Str × Tok)} (hv : vs.map (·.1) = foldL u2 u3) {j : Nat} {v : Value} (h : (sortOut vs)[j]? = some v) : j < 4 ∧ ∃ t, v = .str (foldK u2 u3 ((ordL u2 u3).getD j 0)) t := by
  rw [sort_is h2 h3 hv, List.getElem?_map, Option.map_eq_some_iff] at h
  obtain ⟨k, hk, rfl⟩ := h
  have hk4 := ord_lt' u2 h2 u3 h3 k (List.mem_of_getElem? hk)
  have hj := (List.getElem?_eq_some_iff.mp hk).1
  rw [ord_len u2 h2 u3 h3] at hj
  obtain ⟨t, ht⟩ := strs_at hv (fold_get u2 h2 u3 h3 k hk4)
  refine ⟨hj, t, ?_⟩
  rw [List.getD_eq_getElem?_getD (l := vs.map strV2), ht, List.getD_eq_getElem?_getD (l := ordL u2 u3), hk]; rfl
end Mine
end
section
open PySem PySem.W PySem.Calls PyProof.Rows
open PyProof.Rows.LCg (NsObj lst lst_snoc ns_obj)
namespace Mine
theorem CodCall.mono {w : World} {k : Nat} {f : Addr} {vs : List Value} {args : List (Addr × Obj)} {R R' : Value → Heap → Heap → Prop} (h : CodCall w k f vs args R) (imp : ∀ v s h', (∀ p ∈ args, s.get? p.1 = some p.2) → R v s h' → R' v s h') : CodCall w k f vs args R' :=
  fun loose mean mg mb A s R'' g G hk hs ha Rm hret => h loose mean mg mb A s R'' g G hk hs ha Rm fun v h' tk dr hv => hret v h' tk dr (imp v _ _ (fun p hp => (ha p hp).1) hv)
noncomputable def rowObjs (rs : List Row) : List (Addr × Obj) := rs.flatMap Row.objs
noncomputable abbrev rowsO (rs : List Row) (n : Nat) : Obj := listOf (rs.map fun r => Value.ref r.T).toArray n
noncomputable def gathF (rs0 : List PRow) (fo : List Str) : List PRow := fo.foldl (fun R f => R ++ [gRow R f]) rs0
def GathK (rs0 : List PRow) (fo : List Str) (i : Nat) (acc : Value) (c : List (Addr × Obj)) : Prop :=
  ∃ (RL : Addr) (rs : List Row) (n : Nat), acc = .ref RL ∧ c = (RL, rowsO rs n) :: rowObjs rs ∧ rs.map Row.abs = gathF rs0 (fo.take i) ∧ rs.length = rs0.length + i ∧ ∀ r ∈ rs, r.path.length ≤ 4096
theorem rowObjs_mem {rs : List Row} {r : Row} (hr : r ∈ rs) : ∀ p ∈ r.objs, p ∈ rowObjs rs := fun p hp => List.mem_flatMap.mpr ⟨r, hr, hp⟩
theorem gath_step {w : World} {X : List Addr} {rs0 : List PRow} {fo : List Str} {i : Nat} {f : Str} {tf : Tok} {acc : Value} {c rest : List (Addr × Obj)} (hf : fo[i]? = some f) (hfl : f.length ≤ 4096) (h0 : rs0.length ≤ 20) (hi : i < 4) (hK : GathK rs0 fo i acc c) :
    CodCall w 4 247 [acc, .str f tf] (c ++ rest) (Made X (GathK rs0 fo (i + 1)) c) := by
  obtain ⟨RL, rs, n, rfl, rfl, ha, hn, hp⟩ := hK
  refine CodCall.mono (gather_c w RL rs n f tf _ (.head _) (fun r hr p hp => List.mem_append_left _ (.tail _ (rowObjs_mem hr p hp))) hp (by omega)) fun v s h' hs hv => ?_
  obtain ⟨RL', r, n', rfl, hk, h1, h2, h3, h4, h5⟩ := hv
  refine ⟨(RL', rowsO (rs ++ [r]) n') :: rowObjs (rs ++ [r]), ⟨RL', rs ++ [r], n', rfl, rfl, ?_, ?_, ?_⟩, fun b o _ e => hk b o e, fun p hp' => ?_⟩
  · rw [List.map_append, ha, take_at hf]
    unfold gathF
    rw [List.foldl_append]
    show _ ++ [r.abs] = _ ++ [gRow _ f]
    rw [h5, ha]; rfl
  · rw [List.length_append, hn]; rfl
  · intro q hq
    rcases List.mem_append.mp hq with hq | hq
    · exact hp q hq
    · rw [List.mem_singleton.mp hq]
      have : r.path = f := congrArg PRow.path h5
      rw [this]; exact hfl
  · rcases List.mem_cons.mp hp' with rfl | hp'
    · exact ⟨h1, .inr h3⟩
    · unfold rowObjs at hp'
      rw [List.flatMap_append] at hp'
      rcases List.mem_append.mp hp' with hp' | hp'
      · exact ⟨hk _ _ (hs p (List.mem_append_left _ (.tail _ hp'))), .inl (List.mem_map_of_mem (f := Prod.fst) (List.mem_cons_of_mem _ hp'))⟩
      · have e : [r].flatMap Row.objs = r.objs := List.append_nil _
        rw [e] at hp'
        exact ⟨h2 p hp', .inr (h4 p hp')⟩
section
variable {w : World} {A : Around} {loose : List Str} {mean : ExcName → Option Value} {mg mb : Str → Option Value} {g hp : Heap} {gs : Array GenState} {dr : Drawn} {tk : Nat} {os : OsState} {L : Addr} {m : Str → Option Value} {Q E : Value → Shared → Prop} {t : List (Addr × Obj)}
theorem made_cod {k : Nat} {f : Addr} {vs : List Value} {c t0 : List (Addr × Obj)} {K : Value → List (Addr × Obj) → Prop} (HC : CodCall w k f vs (c ++ t0) (Made (c.map (·.1)) K c)) (G : Gnd w loose mean mg mb g) (R : Room A k) (F : Fr g L hp m) (N : News g L hp (c ++ t)) (sub : ∀ p ∈ t0, p ∈ t)
    (off : ∀ p ∈ t, p.1 ∉ c.map (·.1)) (hq : ∀ v c' h' tk' dr', K v c' → Fr g L h' m → News g L h' (c' ++ t) → (∀ p ∈ c', p.1 ∈ c.map (·.1) ∨ hp.get? p.1 = none) → Q v ⟨h', gs, dr', tk', os⟩) : wpAny (LM w) A (call (.ref f) vs) Q E ⟨hp, gs, dr, tk, os⟩ := by
  refine PySem.wpAny_call ?_
  have N0 : ∀ p ∈ c ++ t0, hp.get? p.1 = some p.2 ∧ p.1 ≠ L ∧ g.get? p.1 = none := fun p hp => N p ((List.mem_append.mp hp).elim (List.mem_append_left _) fun h => List.mem_append_right _ (sub p h))
  refine HC loose mean mg mb A _ _ g G F.keep (led_size F) (fun p hp => ⟨(N0 p hp).1, (N0 p hp).2.2⟩) R fun v h2 tk2 dr2 hv => ?_
  obtain ⟨c', hK, hk, hc⟩ := hv
  obtain ⟨F2, N2⟩ := made_back (X := c.map (·.1)) (c := c) (c' := c') (rest := t) F N (fun hm => by
      obtain ⟨p, hp, e⟩ := List.mem_map.mp hm
      exact (N p (List.mem_append_left _ hp)).2.1 e)
    (fun b hb => by
      obtain ⟨p, hp, rfl⟩ := List.mem_map.mp hb
      exact (N p (List.mem_append_left _ hp)).2.2) off hk hc
  exact hq v c' h2 tk2 dr2 hK F2 N2 fun p hp => (hc p hp).2
end
theorem red_gath {w : World} {SL RL0 : Addr} {els : List Value} {n n0 : Nat} {rs : List Row} {fo : List Str} (hels : els.length = 4) (hfo : ∀ (i : Nat) (v : Value), els[i]? = some v → ∃ (f : Str) (t : Tok), v = .str f t ∧ fo[i]? = some f ∧ f.length ≤ 4096) (hrs : rs.length ≤ 20) (hp : ∀ r ∈ rs, r.path.length ≤ 4096)
    (hdis : SL ∉ (((RL0, rowsO rs n0) :: rowObjs rs).map (·.1))) :
    CodCall w 5 207 [.ref 247, .ref SL, .ref RL0] (((RL0, rowsO rs n0) :: rowObjs rs) ++ [(SL, listOf els.toArray n)]) (Made (((RL0, rowsO rs n0) :: rowObjs rs).map (·.1)) (GathK (rs.map Row.abs) fo 4) ((RL0, rowsO rs n0) :: rowObjs rs)) := by
  rw [← hels]
  refine reduce_l w 4 247 SL els n (.ref RL0) _ [(SL, listOf els.toArray n)] (GathK (rs.map Row.abs) fo) (.head _) (fun p hp => by rw [List.mem_singleton.mp hp]; exact hdis) ⟨RL0, rs, n0, rfl, rfl, rfl, by rw [List.length_map]; rfl, hp⟩ (by kernel_rfl)
    ⟨RL0, _, rfl, .head _, fun e => by have := Value.type.inj e; exact absurd this (by decide)⟩ fun i v acc c hv hK => ?_
  obtain ⟨f, t, rfl, hf, hfl⟩ := hfo i v hv
  have hi : i < 4 := by rw [← hels]; exact (List.getElem?_eq_some_iff.mp hv).1
  exact gath_step hf hfl (by rw [List.length_map]; exact hrs) hi hK
theorem rng_small : ∀ n < 13, Builtin.Range.small 0 ((n : Nat) : Int) 1 = true ∧ Builtin.Range.rangeSize 0 ((n : Nat) : Int) 1 = n := by decide +kernel
theorem Led.subl {g h : Heap} {L : Addr} {m : Str → Option Value} {l l' : List (Addr × Obj)} (H : Led g L m h l) (s : l'.Sublist l) : Led g L m h l' := ⟨H.F, fun p hp => H.N p (s.subset hp), (s.map _).nodup H.D⟩
theorem news_snoc2 {h₀ h : Heap} {L : Addr} {x y i j k : Addr × Obj} {rest c : List (Addr × Obj)} (N : News h₀ L h (x :: y :: i :: j :: k :: ([] ++ (rest ++ c)))) : News h₀ L h (i :: j :: k :: ([] ++ (rest ++ (c ++ [x, y])))) := fun p hp => N p (by
  rcases List.mem_cons.mp hp with rfl | hp
  · exact .tail _ (.tail _ (.head _))
  rcases List.mem_cons.mp hp with rfl | hp
  · exact .tail _ (.tail _ (.tail _ (.head _)))
  rcases List.mem_cons.mp hp with rfl | hp
  · exact .tail _ (.tail _ (.tail _ (.tail _ (.head _))))
  rcases List.mem_append.mp hp with hp | hp
  · cases hp
  rcases List.mem_append.mp hp with hp | hp
  · exact .tail _ (.tail _ (.tail _ (.tail _ (.tail _ (List.mem_append_right _ (List.mem_append_left _ hp))))))
  rcases List.mem_append.mp hp with hp | hp
  · exact .tail _ (.tail _ (.tail _ (.tail _ (.tail _ (List.mem_append_right _ (List.mem_append_right _ hp))))))
  rcases List.mem_cons.mp hp with rfl | hp
  · exact .head _
  · rw [List.mem_singleton.mp hp]; exact .tail _ (.head _))
theorem turn_snoc2 {i j k x y : Addr × Obj} {rest c : List (Addr × Obj)} (lx : ∀ p ∈ y :: i :: j :: k :: ([] ++ (rest ++ c)), @LT.lt Nat _ p.1 x.1) (ly : ∀ p ∈ i :: j :: k :: ([] ++ (rest ++ c)), @LT.lt Nat _ p.1 y.1) (ap : ∀ p ∈ rest ++ c, p.1 ∉ [i.1, j.1, k.1]) (hD : ((rest ++ c).map (·.1)).Nodup) :
    (∀ p ∈ rest ++ (c ++ [x, y]), p.1 ∉ [i.1, j.1, k.1]) ∧ ((rest ++ (c ++ [x, y])).map (·.1)).Nodup := by
  have h1 := turn_snoc ly ap hD
  have h2 := turn_snoc (i := i) (j := j) (k := k) (x := x) (rest := rest) (c := c ++ [y]) (fun p hp => by
    rcases List.mem_cons.mp hp with rfl | hp
    · exact lx _ (.tail _ (.head _))
    rcases List.mem_cons.mp hp with rfl | hp
    · exact lx _ (.tail _ (.tail _ (.head _)))
    rcases List.mem_cons.mp hp with rfl | hp
    · exact lx _ (.tail _ (.tail _ (.tail _ (.head _))))
    rcases List.mem_append.mp hp with hp | hp
    · cases hp
    rcases List.mem_append.mp hp with hp | hp
    · exact lx _ (.tail _ (.tail _ (.tail _ (.tail _ (List.mem_append_right _ (List.mem_append_left _ hp))))))
    rcases List.mem_append.mp hp with hp | hp
    · exact lx _ (.tail _ (.tail _ (.tail _ (.tail _ (List.mem_append_right _ (List.mem_append_right _ hp))))))
    · rw [List.mem_singleton.mp hp]; exact lx _ (.head _)) h1.1 h1.2
  have pm : (rest ++ (c ++ [y] ++ [x])).Perm (rest ++ (c ++ [x, y])) := by
    rw [List.append_assoc]
    exact ((List.Perm.swap x y []).append_left c).append_left rest
  exact ⟨fun p hp => h2.1 p (pm.mem_iff.mpr hp), (pm.map _).nodup h2.2⟩
def RowsK (ps : List PRow) (i : Nat) (ys : List Value) (c : List (Addr × Obj)) : Prop :=
  ∃ rs : List Row, rs.length = i ∧ ys = rs.map (fun r => Value.ref r.T) ∧ c = rowObjs rs ∧ rs.map Row.abs = ps.take i
theorem RowsK.snoc {ps : List PRow} {rs : List Row} {r : Row} (h : rs.map Row.abs = ps.take rs.length) (hr : ps[rs.length]? = some r.abs) : RowsK ps (rs.length + 1) (rs.map (fun r => Value.ref r.T) ++ [.ref r.T]) (rowObjs rs ++ r.objs) :=
  ⟨rs ++ [r], by simp, by simp, by unfold rowObjs; rw [List.flatMap_append]; rfl, by rw [List.map_append, h, take_at hr]; rfl⟩
theorem comp_split {g h : Heap} {L D : Addr} {o : Obj} {rest c : List (Addr × Obj)} (N : News g L h ((D, o) :: (rest ++ c))) (ap : ∀ p ∈ rest ++ c, p.1 ≠ D) (hD : ((rest ++ c).map (·.1)).Nodup) :
    News g L h (((D, o) :: c) ++ rest) ∧ ∀ p ∈ rest, p.1 ∉ ((D, o) :: c).map (·.1) := by
  refine ⟨fun p hp => N p ?_, fun p hp hm => ?_⟩
  · rcases List.mem_append.mp hp with hp | hp
    · rcases List.mem_cons.mp hp with rfl | hp
      · exact .head _
      · exact .tail _ (List.mem_append_right _ hp)
    · exact .tail _ (List.mem_append_left _ hp)
  · rw [List.map_append, List.nodup_append] at hD
    rcases List.mem_cons.mp hm with e | hm
    · exact ap p (List.mem_append_left _ hp) e
    · exact hD.2.2 _ (List.mem_map_of_mem hp) _ hm rfl
theorem split_off {h : Heap} {x : Addr × Obj} {c c' rest : List (Addr × Obj)} (hx : x ∈ rest) (Nx : h.get? x.1 = some x.2) (off : ∀ p ∈ rest, p.1 ∉ c.map (·.1)) (hfr : ∀ p ∈ c', p.1 ∈ c.map (·.1) ∨ h.get? p.1 = none) : ∀ p ∈ c', p.1 ≠ x.1 := fun p hp e => by
  rcases hfr p hp with q | q
  · exact off x hx (e ▸ q)
  · rw [e, Nx] at q; cases q
end Mine
end
section
open PySem PySem.W PySem.Calls PyProof.Rows
open PyProof.Rows.LCg (NsObj lst lst_snoc ns_obj)
namespace Mine
theorem few_c (w : World) (UL TL : Addr) (ups : List (Int × Tok)) (things : List Two) (n n2 : Nat) (args : List (Addr × Obj)) (hUL : (UL, listOf (intsV ups).toArray n) ∈ args) (hTL : (TL, listOf (twosV things).toArray n2) ∈ args) (hth : ∀ x ∈ things, (x.T, x.obj) ∈ args) (hlen : things.length ≤ 1000) (hups : UpsOk ups) :
    CodCall w 4 259 [.ref UL, .ref TL] args (fun v h h' => FewOk (things.map Two.abs) (ups.map (·.1)) v h h') := by
  k_with_none
  k_with "execs cons" => (k_fold; (with_reducible refine PySem.wpAny_execs_cons ?_))
  k_with "eval ListComp" => (k_here; k_dflt (first | refine comp_ev none (by k_asm) (by rfl) (by rfl) (by decide) (by intro _ _; rfl) (by intro _; rfl) ?_ | refine comp_ev (some (Str.ofString "x")) (by k_asm) (by rfl) (by rfl) (by decide) (by intro _ _; rfl) (by intro _; rfl) ?_ | refine comp_ev (some (Str.ofString "k")) (by k_asm) (by rfl) (by rfl) (by decide) (by intro _ _; rfl) (by intro _; rfl) ?_))
  k_with "storeName" => (first | ((with_reducible show wpAny _ _ (storeName (compEnvC _ _ _ _) _ _) _ _ _); k_here; k_dflt (refine' store_cel ?sc1 ?sc2 hcv rfl hIc hCc hDc hnc ?_ ?sc4 ?sc5; (case sc4 => rfl); (case sc5 => rfl); (case sc1 => k_asm); (case sc2 => k_asm)); (intro h' oc' F' N' hd')) | ((with_reducible show wpAny _ _ (storeName (compEnvC _ _ _ _) _ _) _ _ _); k_here; k_dflt (refine' store_own ?so1 ?so2 ?so3 hIC hnC ?_ ?so4 ?so5; (case so4 => rfl); (case so5 => rfl); (case so1 => k_asm); (case so2 => k_asm); (case so3 => k_asm)); (intro h' oC' m' F' N' hC' hx' hy')))
  k_with "call builtin:list.append" => (k_here; k_dflt (refine' append_K ?ap1 ?ap2 ?ap3 ?_ ?ap4; (case ap1 => k_asm); (case ap2 => k_asm); (case ap3 => k_upd); (case ap4 => exact hsz9)); (intro h' F' N'; (try k_sweep)))
  k_with "call builtin:sum" => (k_here; k_dflt (refine' sum_lst ?km1 ?km2 rfl ?km3 ?_; (case km1 => k_asm); (case km2 => k_asm); (case km3 => k_mem)); (intro h' tk' t' F' N'))
  k_with "subscriptTail" => (k_here; k_dflt (first
    | (refine' tup_item (t := b9.T) ?tb1 ?tb2 ?tb3 ?tb4 ?tb5 ?tb6 ?_; (case tb1 => k_asm); (case tb2 => (repeat' (first | exact hTw _ hb9 | refine List.mem_cons_of_mem _ ?_))); (case tb3 => decide); (case tb4 => decide); (case tb5 => rfl); (case tb6 => rfl))
    | (refine' lst_item (l := D) ?li1 ?li4 (Int.natCast_nonneg _) ?li3 hD8 ?_; (case li1 => k_asm); (case li4 => k_mem); (case li3 => omega))
    | (refine' lst_item (l := WL) ?li1 ?li4 (Int.natCast_nonneg _) ?li3 hW8 ?_; (case li1 => k_asm); (case li4 => k_mem); (case li3 => omega))
    | (refine' lst_item (l := Mk) ?li1 ?li4 (Int.natCast_nonneg _) ?li3 hM8 ?_; (case li1 => k_asm); (case li4 => (repeat' (first | exact List.mem_append_left _ (List.mem_append_right _ hMc) | refine List.mem_cons_of_mem _ ?_))); (case li3 => omega))
    | (refine' lst_item (l := UL) ?li1 ?li4 (Int.natCast_nonneg _) ?li3 hU8 ?_; (case li1 => k_asm); (case li4 => (repeat' (first | exact List.mem_append_left _ (List.mem_append_left _ hUL) | refine List.mem_cons_of_mem _ ?_))); (case li3 => omega))
    | (refine' lst_item (l := WL) ?li1 ?li4 (Int.natCast_nonneg _) ?li3 hW7 ?_; (case li1 => k_asm); (case li4 => k_mem); (case li3 => omega))
    | (refine' lst_item (l := WL) ?li1 ?li4 (by decide) (by decide) hW9 ?_; (case li1 => k_asm); (case li4 => k_mem))))
  k_with "call builtin:min" => (k_here; k_dflt (refine' min_twos rfl ?mt0 ?mt1 ?mt2 ?mt3 ?mt4 hwn ?_; (case mt1 => k_asm); (case mt2 => k_asm); (case mt3 => k_mem); (case mt4 => exact fun x hx => by (repeat' (first | exact hTw x hx | refine List.mem_cons_of_mem _ ?_))); (case mt0 => first | (show un0 + 3 + 1 < cLine; omega) | (show un0 + 4 < cLine; omega) | (show un0 + 3 + 3 < cLine; omega) | (show un0 + 3 + 2 < cLine; omega))); (intro b9 h' tk' hb9 hmin9 F' N'))
  k_with "newTuple" => ((k_here; k_dflt (refine' kup_newTuple ?nt1 ?nt2 ?_ ?nt3; (case nt1 => k_asm); (case nt2 => k_asm); (case nt3 => kmk_size))); (intro T0 h' F' N' lT); (have lT2 := lT); (try k_lt lT2))
  k_with "compareOp In ref ref" => (k_here; k_dflt (refine' in_twos ?it0 ?it1 ?it2 ?it3 ?it4 ?it5 ?_; (case it1 => k_asm); (case it2 => k_mem); (case it3 => exact fun x hx => by (repeat' (first | exact hTw x hx | refine List.mem_cons_of_mem _ ?_))); (case it4 => exact .head _); (case it5 => exact fun x hx => Nat.ne_of_lt (lT (x.T, x.obj) (by (repeat' (first | exact hTw x hx | refine List.mem_cons_of_mem _ ?_))))); (case it0 => first | (show un0 + 3 + 1 < cLine; omega) | (show un0 + 4 < cLine; omega) | (show un0 + 3 + 3 < cLine; omega) | (show un0 + 3 + 2 < cLine; omega))))
  k_with "newList" => ((k_here; k_dflt (refine' newList_K ?nl1 ?nl2 ?_; (case nl1 => k_asm); (case nl2 => k_asm); k_whole)); (intro WL h' F' N' lW); (have lW2 := lW); (try k_lt lW2))
  k_with "exec For Name Call cons nil" => (k_here; k_dflt (refine for_exD (by k_asm) ?_))
  k_with "exec For Name Tuple cons nil" => (k_here; k_dflt (refine for_ex (by k_asm) ?_))
  k_with "eval Name" => (first | ((with_reducible show wpAny _ _ (eval (Expr.Name _ _) (compEnvC _ _ _ _)) _ _ _); k_here; k_dflt (refine LCgL.ld_own (by k_asm) (by k_mem) (by assumption) ((hy' _ (by decide)).trans (by assumption)) ?_)) | (k_here; k_dflt (refine' nameX_L ?kl1 ?kl2 ?_ ?kl3 ?kl4; (case kl1 => k_asm); (case kl3 => rfl); (case kl4 => rfl); (case kl2 => first | exact rfl | exact hch | exact (hm2 _ (by decide)).trans rfl | exact (hm2 _ (by decide)).trans ((hm _ (by decide)).trans rfl) | exact (hm _ (by decide)).trans rfl); k_whole)))
  k_with "assign Tuple" => (k_here; k_dflt (refine' unpackN_ (items := #[Value.int x.a x.ta, Value.int x.b x.tb]) ?ua1 ?ua2 ?ua3 ?ua5 ?ua6 ?ua7 ?_; (case ua1 => k_asm); (case ua2 => k_asm); (case ua3 => exact ⟨_, News.get (by k_asm) (by (repeat' (first | exact hT | exact List.mem_append_left _ hT | refine List.mem_cons_of_mem _ ?_))), rfl, _, rfl⟩); (case ua5 => exact rfl); (case ua6 => exact rfl); (case ua7 => exact rfl)); (intro h' F' N'))
  k_with "call builtin:len" => (k_here; k_dflt (refine' len_lst ?kn1 ?kn2 hz9 ?_; (case kn1 => k_asm); (case kn2 => k_mem)))
  refine cod_intro ?_
  intro loose mean mg mb A s R' g G hkg hsz hargs hfull R hret
  obtain ⟨hd0, dp0, fr0, gd0, un0⟩ := A
  obtain rfl : hd0 = none := R.hd
  have X := G.K; revert X; k_fill; intro X
  have T := G.T
  refine' enterCG (binds := [(Str.ofString "ups", .ref UL), (Str.ofString "things", .ref TL)]) ?k1 hkg hsz hargs ?k2 ?k3 ?k4 ?k5 ?k6 ?k7 ?k8 ?_ ?c1 ?c2 ?c3
  (case k1 => assumption)
  (case k2 => exact T.nolimit)
  (case k3 => exact Nat.lt_of_le_of_lt (Nat.le_add_right _ _) R.dp)
  (case k4 => k_is)
  (case k5 => k_is)
  (case k6 => first | exact BindsTo.of_eq rfl | exact binds_K (Frag.In.keeps (by assumption) hkg) rfl (by k_is) rfl rfl rfl)
  (case k7 => exact rfl)
  (case k8 => decide +kernel)
  (case c1 => exact rfl)
  (case c2 => exact rfl)
  (case c3 => exact rfl)
  intro L h₁ tk0 cells F N Y hlt
  obtain ⟨o5, o4, o3, o2, o1, hE, d5, d4, d3, d2, d1⟩ := kc_five Y
  try dsimp only
  try k_fold
  subst hE
  clear Y
  replace d1 : o1.data = .cell (some (.ref TL)) := d1
  replace d2 : o2.data = .cell none := d2
  replace d3 : o3.data = .cell none := d3
  replace d4 : o4.data = .cell none := d4
  replace d5 : o5.data = .cell none := d5
  have a1 : ∀ p ∈ args, p.1 ≠ L + 1 := fun p hp => Nat.ne_of_lt (Nat.lt_succ_of_lt (hlt p hp))
  have a2 : ∀ p ∈ args, p.1 ≠ L + 1 + 1 := fun p hp => Nat.ne_of_lt (Nat.lt_succ_of_lt (Nat.lt_succ_of_lt (hlt p hp)))
  have a3 : ∀ p ∈ args, p.1 ≠ L + 1 + 1 + 1 := fun p hp => Nat.ne_of_lt (Nat.lt_succ_of_lt (Nat.lt_succ_of_lt (Nat.lt_succ_of_lt (hlt p hp))))
  have a4 : ∀ p ∈ args, p.1 ≠ L + 1 + 1 + 1 + 1 := fun p hp => Nat.ne_of_lt (Nat.lt_succ_of_lt (Nat.lt_succ_of_lt (Nat.lt_succ_of_lt (Nat.lt_succ_of_lt (hlt p hp)))))
  have a5 : ∀ p ∈ args, p.1 ≠ L + 1 + 1 + 1 + 1 + 1 := fun p hp => Nat.ne_of_lt (Nat.lt_succ_of_lt (Nat.lt_succ_of_lt (Nat.lt_succ_of_lt (Nat.lt_succ_of_lt (Nat.lt_succ_of_lt (hlt p hp))))))
  simp only [List.cons_append, List.nil_append] at N
  k_steps
  (rename Fr _ _ _ _ => F0); (rename News _ _ _ _ => N0)
  (rename IsRange _ _ _ _ _ _ _ _ => hR0)
  refine CompGo.rngJ (n := 4) (nw₀ := _ ++ []) (JT _ (MissK (L + 1 + 1 + 1 + 1 + 1) (things.map Two.abs))) (fun _ _ _ _ hJ N => hJ.news N) F0 (by rw [List.append_nil]; exact N0) rfl hR0 (by rfl) (by rfl) (Nat.le_of_ble_eq_true rfl) (fun _ _ _ _ _ h => go_name h)
    (JT.mk ⟨[], rfl, rfl, rfl, fun j r h => by simp at h⟩) ?_ ?_
  ·
    --[
    intro I C D cx q1 q2 q3 i v ys oI oC m₂ cells nw h tk dr E' hi hv hJ hoC hcc F N ap
    cases hJ with
    | mk hJ =>
    rename_i c
    obtain ⟨rws, rfl, rfl, rfl, hrw⟩ := hJ
    obtain ⟨t, rfl⟩ := hv
    obtain ⟨hIc, hCc, hDc, hnc⟩ := turn_cel q1 q2 q3 ap
    obtain ⟨oc, rfl, vc, hcv⟩ := hcc
    dsimp only
    simp only [List.cons_append, List.nil_append, Int.zero_add] at N hnc ⊢
    try k_fold
    k_steps
    (rename Fr _ _ _ _ => F0); (rename News _ _ _ _ => N0)
    refine CompGo.tup (c₀ := []) (fun i2 ys c => c = [] ∧ ∃ l : List (Int × Tok), ys = intsV l ∧ l.map (·.1) = (List.range i2).map fun x : Nat => mis (things.map Two.abs) (rws.length : Int) (x : Int)) F0 N0 rfl ⟨_, News.get N0 (by k_mem), rfl, _, rfl⟩ (Nat.le_of_ble_eq_true rfl) (fun _ _ _ _ _ _ _ h => go_name h)
      (fun h' k N => ⟨_, News.get N (by k_mem), rfl, _, rfl⟩) ⟨rfl, [], rfl, rfl⟩ ?_ ?_
    · intro I2 C2 D2 cx2 q1 q2 q3 i2 v ys2 oI2 oC2 m2 cells2 nw2 h tk dr E2 hi2 hv hJ hoC2 hcc2 F N ap2
      obtain ⟨rfl, l, rfl, hl⟩ := hJ
      obtain ⟨hi3, t, rfl⟩ := tri_at hv
      obtain ⟨hIc, hCc, hDc, hnc⟩ := turn_cel q1 q2 q3 ap2
      obtain ⟨oc2, rfl, vc2, hcv⟩ := hcc2
      dsimp only
      simp only [List.cons_append, List.nil_append] at N hnc ⊢
      try k_fold
      k_steps
      (rename Fr _ _ _ _ => F0); (rename News _ _ _ _ => N0)
      refine CompGo.lst (c₀ := []) (fun j ys c => c = [] ∧ ys = ((things.take j).filter fun t => t.a == (rws.length : Int) && t.b != (i2 : Int)).map fun t => .int t.b t.tb) F0 N0 rfl ⟨_, News.get N0 (by (repeat' (first | exact hTL | exact List.mem_append_left _ hTL | refine List.mem_cons_of_mem _ ?_))), rfl, _, rfl⟩ (by simp; unfold sizeLine; omega) (fun _ _ _ _ _ _ hit h => go_tup hit h)
        (fun h' k N => ⟨_, News.get N (by (repeat' (first | exact hTL | exact List.mem_append_left _ hTL | refine List.mem_cons_of_mem _ ?_))), rfl, _, rfl⟩) ⟨rfl, rfl⟩ ?_ ?_
      · intro I5 C5 D5 cx5 q1 q2 q3 j v ys5 oI5 oC5 m₅ cells5 nw5 h tk dr E5 hj hv hJ hoC5 hcc5 F N ap5
        obtain ⟨hIC, hnC⟩ := turn_off (ys := ys5) q1 q2 q3 hcc5 ap5
        obtain ⟨rfl, rfl⟩ := hJ
        obtain ⟨x, hri, rfl⟩ := rows_at hv
        have hT := hth x (List.mem_of_getElem? hri)
        obtain rfl := hcc5
        dsimp only
        try k_fold
        k_steps
        ·
          refine' TurnEnd.mk (cells := []) ?te1 ?te2 ?te3 ?te4 ?te5 ?te6
          (case te1 => assumption)
          (case te2 => exact rfl)
          (case te3 => assumption)
          (case te4 => walk_at "te4")
          (case te5 => exact ap5)
          (case te6 => exact JC.mk (c := []) ⟨rfl, filt_yes hri (Bool.and_eq_true_iff.mpr ⟨beq_iff_eq.mpr (by assumption), bne_iff_ne.mpr (by assumption)⟩)⟩)
        ·
          refine' TurnEnd.mk (cells := []) ?te1 ?te2 ?te3 ?te4 ?te5 ?te6
          (case te1 => assumption)
          (case te2 => exact rfl)
          (case te3 => assumption)
          (case te4 => walk_at "te4")
          (case te5 => exact ap5)
          (case te6 => exact JC.mk (c := []) ⟨rfl, filt_no hri (Bool.and_eq_false_iff.mpr (.inr (bne_eq_false_iff_eq.mpr (by first | assumption | exact Classical.not_not.mp (by assumption)))))⟩)
        ·
          refine' TurnEnd.mk (cells := []) ?te1 ?te2 ?te3 ?te4 ?te5 ?te6
          (case te1 => assumption)
          (case te2 => exact rfl)
          (case te3 => assumption)
          (case te4 => walk_at "te4")
          (case te5 => exact ap5)
          (case te6 => exact JC.mk (c := []) ⟨rfl, filt_no hri (Bool.and_eq_false_iff.mpr (.inl (beq_eq_false_iff_ne.mpr (by assumption))))⟩)
      · intro D5 h' tk dr ys nw5 hD F N ap5 hJ
        obtain ⟨rfl, rfl⟩ := hJ
        simp only [List.nil_append, List.size_toArray, List.length_map, List.take_length] at N ⊢
        have hz9 : ((things.filter fun t => t.a == (rws.length : Int) && t.b != (i2 : Int)).map fun t => Value.int t.b t.tb).length ≤ 4096 := by
          rw [List.length_map]; exact Nat.le_trans (List.length_filter_le _ _) (by omega)
        k_steps
        refine' TurnEnd.mk (cells := [(cx2, oc')]) ?te1 ?te2 ?te3 ?te4 ?te5 ?te6
        (case te1 => assumption)
        (case te2 => exact ⟨_, rfl, _, hd'⟩)
        (case te3 => assumption)
        (case te4 => walk_at "te4")
        (case te5 => exact ap2)
        (case te6 => exact JC.mk (c := []) ⟨rfl, _, intsV_snoc, by rw [List.map_append, hl, ← range_yes, mis_two]; simp⟩)
    · intro D2 h' tk dr ys nw2 hD F N ap2 hJ
      obtain ⟨rfl, l, rfl, hl⟩ := hJ
      have l1 := lt_all N0 hD
      clear N0 F0
      simp only [List.nil_append] at N
      k_steps
      have z1 := l1 (I, oI) (by k_mem)
      have z2 := l1 (C, oC) (by k_mem)
      have z3 := l1 (D, _) (by k_mem)
      have z4 := l1 (cx, oc') (by k_mem)
      have z5 := l1 (L + 1 + 1 + 1 + 1 + 1, o5) (by k_mem)
      refine' TurnEnd.mk (cells := [(cx, oc')]) ?te1 ⟨_, rfl, _, hd'⟩ ?te3 (news_snocT (a := [_, _, _, _]) ?te4) (ap_snocT ap (out4 z1 z2 z3 z4)) (JT.mk (MissK.snoc hrw z5 hl))
      (case te1 => assumption)
      (case te3 => assumption)
      (case te4 => assumption)
    --]
  · intro D h' tk dr ys nw hD F N ap hJ
    cases hJ with
    | mk hJ =>
    rename_i c
    obtain ⟨rws, hrl, rfl, rfl, hrw⟩ := hJ
    have l1 := lt_all N0 hD
    have l4 : @LT.lt Nat _ (L + 1 + 1 + 1 + 1 + 1) D := l1 _ (.head _)
    clear l1
    simp only [List.cons_append, List.nil_append] at N
    generalize hc : rws.map (fun r => (r.1, lst (intsV r.2))) = c at N ap
    have hcB : ∀ p ∈ c, @LT.lt Nat _ (L + 1 + 1 + 1 + 1 + 1) p.1 := fun p hp => by
      rw [← hc] at hp
      obtain ⟨r, hr, rfl⟩ := List.mem_map.mp hp
      obtain ⟨j, hj⟩ := List.getElem?_of_mem hr
      exact (hrw j r hj).2
    have b2 : ∀ p ∈ args ++ c, p.1 ≠ L + 1 + 1 := fun p hp => (List.mem_append.mp hp).elim (a2 p) fun hp => Nat.ne_of_gt (by have := hcB p hp; omega)
    have b3 : ∀ p ∈ args ++ c, p.1 ≠ L + 1 + 1 + 1 := fun p hp => (List.mem_append.mp hp).elim (a3 p) fun hp => Nat.ne_of_gt (by have := hcB p hp; omega)
    k_steps
    obtain ⟨WW, hWW⟩ : ∃ x, x = WL := ⟨_, rfl⟩
    subst hWW
    (rename Fr _ _ _ _ => F0); (rename News _ _ _ _ => N0)
    (rename IsRange _ _ _ _ _ _ _ _ => hR0)
    have hW0 : ∀ p ∈ args ++ c, p.1 < WW := fun p hp => lW p (by (repeat' (first | exact hp | refine List.mem_cons_of_mem _ ?_)))
    have b4 : ∀ p ∈ args ++ c, p.1 ≠ L + 1 + 1 + 1 + 1 := fun p hp => (List.mem_append.mp hp).elim (a4 p) fun hp => Nat.ne_of_gt (by have := hcB p hp; omega)
    have b5 : ∀ p ∈ args ++ c, p.1 ≠ L + 1 + 1 + 1 + 1 + 1 := fun p hp => (List.mem_append.mp hp).elim (a5 p) fun hp => Nat.ne_of_gt (by have := hcB p hp; omega)
    have lW4 : @LT.lt Nat _ (L + 1 + 1 + 1 + 1) WW := lW (L + 1 + 1 + 1 + 1, o4) (by k_mem)
    have lDW : @LT.lt Nat _ D WW := lW (D, _) (by k_mem)
    refine' ForGoD.rngJ (n := 81) (WaysJ WW (L + 1 + 1 + 1 + 1) _ _ _ _ (wayCost (things.map Two.abs) (ups.map (·.1)))) rfl F0 ?fwN hR0 (by rfl) (by rfl) (fun _ _ _ _ _ h => go_name h) (WaysJ.mk (ws := []) (rest := _ :: _ :: _ :: (args ++ c)) rfl (fun _ _ => rfl) d4 (fun j x h => by simp at h)) ?_ ?_
    (case fwN => (show News g L _ _; simp only [List.map_nil, List.append_nil]; exact N0))
    · intro I s9 i v m nw oI h tk dr hi hv hJ F N ap
      cases hJ with
      | mk hlen hm h4 hws =>
      rename_i ws o4 v4 k4
      obtain ⟨t, rfl⟩ := hv
      obtain rfl := hlen
      obtain ⟨f4, fW⟩ := ways_tail hW0 b4 lW4 hws
      dsimp only
      simp only [List.cons_append, Int.zero_add] at N ⊢
      have hI4 : @Ne Nat (L + 1 + 1 + 1 + 1) I := ap (L + 1 + 1 + 1 + 1, o4) (by k_mem)
      have hIW : @Ne Nat WW I := ap (WW, _) (by k_mem)
      try k_fold
      k_steps
      (rename Fr _ _ _ _ => F0); (rename News _ _ _ _ => N0)
      obtain ⟨lw, hlw, N0⟩ := way_list N0 (way_ok ws.length)
      (rename IsRange _ _ _ _ _ _ _ _ => hR1)
      refine CompGo.rngJ (n := 4) (nw₀ := _) (JC _ fun i ys c => c = [] ∧ ∃ l : List (Int × Tok), ys = intsV l ∧ l.map (·.1) = (List.range i).map fun k : Nat => mis (things.map Two.abs) (k : Int) ((dig ws.length k : Nat) : Int)) (fun _ _ _ _ hJ N => hJ.news N) F0 N0 rfl hR1 (by rfl) (by rfl) (Nat.le_of_ble_eq_true rfl) (fun _ _ _ _ _ h => go_name h)
        (JC.mk (c := []) ⟨rfl, [], rfl, rfl⟩) ?_ ?_
      ·
        --[
        intro I5 C5 D5 cx5 q1 q2 q3 k v ys5 oI5 oC5 m₅ cells5 nw5 h tk dr E5 hk4 hv hJ hoC5 hcc5 F N ap5
        obtain ⟨hIC, hnC⟩ := turn_off (ys := ys5) q1 q2 q3 hcc5 ap5
        cases hJ with
        | mk hJ =>
        obtain ⟨rfl, l5, rfl, hl5⟩ := hJ
        obtain ⟨t5, rfl⟩ := hv
        obtain rfl := hcc5
        have hd3 := dig_lt ws.length k hi
        obtain ⟨Mk, lk, tk9, hrk, hD8, hM8⟩ := miss_at hrw hrl hk4 hd3
        obtain ⟨tw, hW8⟩ := way_at hlw hk4
        have hMc : (Mk, lst (intsV lk)) ∈ c := hc ▸ List.mem_map.mpr ⟨_, List.mem_of_getElem? hrk, rfl⟩
        dsimp only
        simp only [Int.zero_add]
        try k_fold
        k_steps
        refine' TurnEnd.mk (cells := []) ?te1 ?te2 ?te3 ?te4 ?te5 ?te6
        (case te1 => assumption)
        (case te2 => exact rfl)
        (case te3 => assumption)
        (case te4 => walk_at "te4")
        (case te5 => exact ap5)
        (case te6 => exact JC.mk (c := []) ⟨rfl, _, intsV_snoc, by rw [List.map_append, hl5]; exact range_yes (f := fun k : Nat => mis (things.map Two.abs) (k : Int) ((dig ws.length k : Nat) : Int))⟩)
        --]
      ·
        --[
        intro D5 h' tk dr ys nw5 hD F N ap5 hJ
        cases hJ with
        | mk hJ =>
        obtain ⟨rfl, l5, rfl, hl5⟩ := hJ
        simp only [List.nil_append] at N
        have l7 : @LT.lt Nat _ WW D5 := lt_all N0 hD (WW, _) (by k_mem)
        k_steps
        (rename Fr _ _ _ _ => F0); (rename News _ _ _ _ => N0)
        refine ForGo.tupF (c₀ := []) F0 N0 [Str.ofString "changes", Str.ofString "k"] (fun i m c => c = [] ∧ ∃ t, m (Str.ofString "changes") = some (.int (((List.range 4).map fun k : Nat => mis (things.map Two.abs) (k : Int) ((dig ws.length k : Nat) : Int)).sum + kMore ws.length (ups.map (·.1)) i) t)) rfl ⟨_, News.get N0 (by k_mem), rfl, _, rfl⟩
          (fun h' k N => ⟨_, News.get N (by k_mem), rfl, _, rfl⟩) ⟨rfl, _, by rw [show kMore ws.length (ups.map (·.1)) 0 = 0 from rfl, Int.add_zero, ← hl5]; rfl⟩ ?_ ?_
        ·
          intro I3 i3 v m3 c3 oI3 h tk hi3 hv hm2 hK F N ap3
          obtain ⟨rfl, tc3, hch⟩ := hK
          obtain ⟨hi4, t3, rfl⟩ := tri1_at hv
          simp only [List.nil_append] at N
          obtain ⟨tu, hU8, hu4⟩ := hups (i3 + 1) (by omega)
          obtain ⟨tw, hW8⟩ := way_at hlw (k := i3 + 1) (by omega)
          obtain ⟨tw2, hW7⟩ := way_at hlw hu4
          try k_fold
          k_steps
          ·
            (refine' ForEnd.mk ?eF ?eN ?eA ?eJ; (case eF => assumption); (case eN => assumption); (case eA => exact ap3); (case eJ => exact JF.mk (c := []) (setM (.head _) (setM (.tail _ (.head _)) hm2)) ⟨rfl, _, by rw [kMore_yes (by assumption), ← Int.add_assoc]; rfl⟩))
          ·
            (refine' ForEnd.mk ?eF ?eN ?eA ?eJ; (case eF => assumption); (case eN => assumption); (case eA => exact ap3); (case eJ => exact JF.mk (c := []) (setM (.tail _ (.head _)) hm2) ⟨rfl, _, by rw [kMore_no (by assumption)]; exact hch⟩))
        · intro h2 tk2 m3 c3 hm2 hK F N
          obtain ⟨rfl, tc3, hch⟩ := hK
          simp only [List.nil_append] at N
          obtain ⟨tw, hW9⟩ := way_at hlw (k := 0) (by decide)
          have hsz9 : (twosV ws).toArray.size ≤ sizeLine := Nat.le_trans (Nat.le_of_lt (by simpa using hi)) (Nat.le_of_ble_eq_true (m := 16777216) rfl)
          dsimp only
          k_steps
          show ForEndD _ _ _ _ _ _ _
          refine' ways_end (a := [_, _, _, _]) (x := ⟨_, _, _, _, _⟩) ?we1 ?we2 (.head _) ap ?we3 ?we4 ?we5 hws ⟨?we6, rfl, ?we7⟩
          (case we1 => assumption)
          (case we2 => assumption)
          (case we5 => assumption)
          (case we3 => (refine neN ?_; dsimp only; omega))
          (case we6 => rfl)
          (case we7 => (refine ltN ?_; dsimp only; omega))
          intro y hy
          have h1 : y ≠ Str.ofString "code" := fun e => hy (e ▸ .head _)
          have h2 : y ≠ Str.ofString "changes" := fun e => hy (e ▸ .tail _ (.head _))
          have h3 : y ≠ Str.ofString "k" := fun e => hy (e ▸ .tail _ (.tail _ (.head _)))
          rw [hm2 y (fun hm => by
            rcases List.mem_cons.mp hm with e | hm
            · exact h2 e
            · exact h3 (List.mem_singleton.mp hm))]
          simp only [if_neg h1, if_neg h2]
          exact hm y hy
        --]
    · intro h' tk dr m nw F N hJ
      cases hJ with
      | mk hlen hm h4 hws =>
      rename_i ws o4 v4 k4
      obtain ⟨f4, fW⟩ := ways_tail hW0 b4 lW4 hws
      have f5 : ∀ p ∈ args ++ c ++ ws.map (fun x => (x.T, x.obj)), p.1 ≠ L + 1 + 1 + 1 + 1 + 1 := fun p hp => (List.mem_append.mp hp).elim (b5 p) fun hp => by
        obtain ⟨x, hx, rfl⟩ := List.mem_map.mp hp
        obtain ⟨j, hj⟩ := List.getElem?_of_mem hx
        have := (hws j x hj).2.2
        exact Nat.ne_of_gt (by omega)
      have hTw : ∀ x ∈ ws, (x.T, x.obj) ∈ args ++ c ++ ws.map (fun x => (x.T, x.obj)) := fun x hx => List.mem_append_right _ (List.mem_map.mpr ⟨x, hx, rfl⟩)
      have hwn : 0 < ws.length := by omega
      have hu9 : un0 + 40 < cLine := by have := R.un; dsimp only at this; omega
      simp only [List.cons_append] at N
      k_steps
      (rename Fr _ _ _ _ => F0); (rename News _ _ _ _ => N0)
      refine CompGo.tup (c₀ := []) (fun i ys c => c = [] ∧ ∃ l : List (Int × Tok), ys = intsV l ∧ l.map (·.1) = ((List.range i).filter (topAny (wayCost (things.map Two.abs) (ups.map (·.1))) b9.a)).map fun j : Nat => (j : Int)) F0 N0 rfl ⟨_, News.get N0 (by k_mem), rfl, _, rfl⟩ (Nat.le_of_ble_eq_true rfl) (fun _ _ _ _ _ _ _ h => go_name h)
        (fun h' k N => ⟨_, News.get N (by k_mem), rfl, _, rfl⟩) ⟨rfl, [], rfl, rfl⟩ ?_ ?_
      · intro I6 C6 D6 cx6 q1 q2 q3 i v ys6 oI6 oC6 m6 cells6 nw6 h tk dr E6 hi6 hv hJ hoC6 hcc6 F N ap6
        obtain ⟨hIC, hnC⟩ := turn_off (ys := ys6) q1 q2 q3 hcc6 ap6
        obtain ⟨rfl, l6, rfl, hl6⟩ := hJ
        obtain ⟨hi3, t, rfl⟩ := tri_at hv
        obtain rfl := hcc6
        have hany := ways_any hlen hws b9.a i
        dsimp only
        try k_fold
        k_steps
        ·
          refine' TurnEnd.mk (cells := []) ?te1 ?te2 ?te3 ?te4 ?te5 ?te6
          (case te1 => assumption)
          (case te2 => exact rfl)
          (case te3 => assumption)
          (case te4 => walk_at "te4")
          (case te5 => exact ap6)
          (case te6 => exact JC.mk (c := []) ⟨rfl, _, intsV_snoc, by rw [List.map_append, hl6]; exact rfilt_yes (by rw [← hany]; assumption)⟩)
        ·
          refine' TurnEnd.mk (cells := []) ?te1 ?te2 ?te3 ?te4 ?te5 ?te6
          (case te1 => assumption)
          (case te2 => exact rfl)
          (case te3 => assumption)
          (case te4 => walk_at "te4")
          (case te5 => exact ap6)
          (case te6 => exact JC.mk (c := []) ⟨rfl, l6, rfl, by rw [hl6]; exact rfilt_no (by rw [← hany]; assumption)⟩)
      · intro D6 h' tk dr ys nw6 hD F N ap6 hJ
        obtain ⟨rfl, l6, rfl, hl6⟩ := hJ
        have l7 : @LT.lt Nat _ WW D6 := lt_all N0 hD (WW, _) (by k_mem)
        clear N0 F0
        simp only [List.nil_append] at N
        k_steps
        (rename News _ _ _ _ => N0)
        refine' hret _ _ _ _ (few_made ?ga1 N0 hargs hfull hlt ?ga2 (.head _) ?ga4 ?ga5 ?ga6 (ways_least hlen hws hb9 hmin9) hl6)
        (case ga1 => assumption)
        (case ga2 => (intro p hp; (repeat' (first | exact List.mem_append_left _ (List.mem_append_left _ hp) | refine List.mem_cons_of_mem _ ?_))))
        (case ga4 => exact show (D6, lst (intsV l6)) ∈ _ by k_mem)
        (case ga5 => (refine ltN ?_; omega))
        (case ga6 => (refine ltN ?_; omega))
end Mine
end
section
open PySem PySem.W PySem.Calls PyProof.Rows
open PyProof.Rows.LCg (NsObj lst lst_snoc ns_obj)
namespace Mine
theorem ups_at : ∀ u2 < 2, ∀ u3 < 3, ∀ k < 4, upAt ((upL u2 u3).map fun x : Nat => (x : Int)) k = upK u2 u3 k ∧ upK u2 u3 k < 4 := by decide +kernel
theorem ups_ok {u2 u3 : Nat} (h2 : u2 < 2) (h3 : u3 < 3) {ul : List (Int × Tok)} (hu : ul.map (·.1) = (upL u2 u3).map fun x : Nat => (x : Int)) : UpsOk ul := fun k hk => by
  obtain ⟨e, h4⟩ := ups_at u2 h2 u3 h3 k hk
  obtain ⟨t, ht⟩ := intsV_at hu (up_get u2 h2 u3 h3 k hk)
  rw [hu, e]
  exact ⟨t, ht, h4⟩
structure FewIs (ths : List (Int × Int)) (ups : List Int) (F : Int) (ms : List Int) : Prop where
  hit : ∃ c, c < 81 ∧ wayCost ths ups c = F
  low : ∀ c, c < 81 → F ≤ wayCost ths ups c
  tops : ms = ((List.range 3).filter (topAny (wayCost ths ups) F)).map fun i : Nat => (i : Int)
section
variable {w : World} {A : Around} {loose : List Str} {mean : ExcName → Option Value} {mg mb : Str → Option Value} {g hp : Heap} {gs : Array GenState} {dr : Drawn} {tk : Nat} {os : OsState} {L : Addr} {m : Str → Option Value} {Q E : Value → Shared → Prop} {t : List (Addr × Obj)}
theorem few_call {UL TL : Addr} {ups : List (Int × Tok)} {things : List Two} {n n2 : Nat} {nw : List (Addr × Obj)} (hUL : (UL, listOf (intsV ups).toArray n) ∈ nw) (hTL : (TL, listOf (twosV things).toArray n2) ∈ nw) (hth : ∀ x ∈ things, (x.T, x.obj) ∈ nw) (hlen : things.length ≤ 1000) (hups : UpsOk ups)
    (G : Gnd w loose mean mg mb g) (R : Room A 4) (F : Fr g L hp m) (N : News g L hp nw)
    (hq : ∀ (T M : Addr) (ms : List (Int × Tok)) (tt : Tok) (n : Nat) (Fw : Int) (h' : Heap) (tk' : Nat) (dr' : Drawn), FewIs (things.map Two.abs) (ups.map (·.1)) Fw (ms.map (·.1)) → Fr g L h' m → News g L h' ((T, tupO [.int Fw tt, .ref M]) :: (M, listOf (intsV ms).toArray n) :: nw) → (∀ p ∈ nw, p.1 ≠ M) → Q (.ref T) ⟨h', gs, dr', tk', os⟩) :
    wpAny (LM w) A (call (.ref 259) [.ref UL, .ref TL]) Q E ⟨hp, gs, dr, tk, os⟩ := by
  refine PySem.wpAny_call ?_
  refine few_c w UL TL ups things n n2 nw hUL hTL hth hlen hups loose mean mg mb A _ _ g G F.keep (led_size F) (fun p hp => ⟨(N p hp).1, (N p hp).2.2⟩) R fun v h2 tk2 dr2 hv => ?_
  obtain ⟨T, M, ms, tt, n3, Fw, rfl, hk, h1, h2', h3, h4, h5, h6, h7⟩ := hv
  have gn : ∀ b, hp.get? b = none → g.get? b = none := fun b e => by
    cases q : g.get? b with
    | none => rfl
    | some o => rw [F.keep b o q] at e; cases e
  have nl : ∀ b, hp.get? b = none → b ≠ L := fun b e q => by
    obtain ⟨oL, _, _, hoL, _⟩ := F.ns
    rw [q, hoL] at e; cases e
  refine hq T M ms tt n3 Fw h2 tk2 dr2 ⟨h5, h6, h7⟩ (F.keeps hk) (news_cons h1 (nl T h3) (gn T h3) (news_cons h2' (nl M h4) (gn M h4) (N.grown hk))) fun p hp e => ?_
  rw [← e, (N p hp).1] at h4; cases h4
end
end Mine
end
section
open PySem PySem.W PySem.Calls PyProof.Rows
open PyProof.Rows.LCg (NsObj lst lst_snoc ns_obj)
namespace Mine
noncomputable abbrev rowP (p : Str) (F : Int) (ns : List Int) : PyData := .tuple [.str p, .int F, .list (ns.map PyData.int)]
theorem shaped_row (p : Str) (hp : PyData.strOk p = true) (F : Int) (ns : List Int) : PySem.SeqAt.shaped (rowP p F ns) = true := by
  have h1 := PySem.W.depthAll_ints ns
  have h2 : PyData.depth (rowP p F ns) ≤ 64 := by simp only [PyData.depth, PyData.depthAll]; omega
  show (PyData.canLay0 (rowP p F ns) && decide (PyData.depth (rowP p F ns) ≤ 64)) = true
  rw [Bool.and_eq_true]
  exact ⟨by simp only [PyData.canLay0, PyData.canLayAll0, canLayAll0_ints, Bool.and_true, hp], decide_eq_true h2⟩
theorem row_self (p : Str) (F : Int) (ns : List Int) : PySem.SeqAt.noMix (rowP p F ns) (rowP p F ns) = true ∧ PySem.Spec.same (rowP p F ns) (rowP p F ns) = true := by
  constructor
  · simp only [PySem.SeqAt.noMix, PySem.SeqAt.noMixAll, noMix_ints, Bool.and_true]
  · simp only [PySem.Spec.same, PySem.Spec.sameAll, same_ints, beq_self_eq_true, Bool.and_true, decide_true]
section
variable {prog : Program} {w : World} {A : Around} {E : Value → Shared → Prop} {s : Shared} {h₀ : Heap} {L : Addr} {m : Str → Option Value} {nw : List (Addr × Obj)}
theorem reads_row {T M : Addr} {p : Str} {tp tF : Tok} {F : Int} {ms : List (Int × Tok)} {n : Nat} (N : News h₀ L s.heap nw) (hT : (T, tupO [.str p tp, .int F tF, .ref M]) ∈ nw) (hM : (M, listOf (intsV ms).toArray n) ∈ nw) :
    ∃ as, Reads s.heap (.ref T) (rowP p F (ms.map (·.1))) as :=
  ⟨_, Reads.tuple (N _ hT).1 rfl rfl (.cons (.str p tp) (.cons (.int F tF) (.cons (reads_of_ints ⟨_, (N _ hM).1, rfl, _, rfl⟩ (ints_are ms)) .nil)))⟩
theorem top_ne {T M T2 M2 : Addr} {p : Str} {t1 t2 t3 t4 : Tok} {F : Int} {ms ms2 : List (Int × Tok)} {n n2 : Nat} {Q : Value → Shared → Prop} (N : News h₀ L s.heap nw) (hT : (T, tupO [.str p t1, .int F t2, .ref M]) ∈ nw) (hM : (M, listOf (intsV ms).toArray n) ∈ nw)
    (hT2 : (T2, tupO [.str p t3, .int F t4, .ref M2]) ∈ nw) (hM2 : (M2, listOf (intsV ms2).toArray n2) ∈ nw) (e : ms2.map (·.1) = ms.map (·.1)) (hp : PyData.strOk p = true) (hu : A.units + 64 < cLine) (h : Q (.bool false) s) : wpAny (model prog w) A (compareOp .NotEq (.ref T) (.ref T2)) Q E s := by
  obtain ⟨as, r1⟩ := reads_row N hT hM
  obtain ⟨bs, r2⟩ := reads_row N hT2 hM2
  rw [e] at r2
  have rs := row_self p F (ms.map (·.1))
  exact ne_dataH_same r1 r2 (shaped_row _ hp _ _) (shaped_row _ hp _ _) hu rs.1 (by rw [rs.2]; exact h)
theorem last_item {value slice : Expr} {l : Addr} {vs : List Value} {x : Value} {n : Nat} {u : Tok} {Q : Value → Shared → Prop} (N : News h₀ L s.heap nw) (hm : (l, listOf (vs ++ [x]).toArray n) ∈ nw) (h : Q x s)
    (hs : subscripted slice false (.ref l) (.int (-1) u) = operate [.ref l, .int (-1) u] (getItem (.ref l) (.int (-1) u)) := by with_unfolding_all rfl) :
    wpAny (model prog w) A (subscriptTail value slice (.ref l) (.int (-1) u)) Q E s :=
  kde_neg (j := vs.length) ⟨_, (N _ hm).1, rfl, _, rfl⟩ (by decide) (by decide) (by unfold seqIndex?; simp; omega) (by simp) h hs
end
end Mine
end
section
open PySem PySem.W PySem.Calls PyProof.Rows
open PyProof.Rows.LCg (NsObj lst lst_snoc ns_obj)
namespace Mine
theorem down_end {w : World} {g s₀ h' : Heap} {L CD : Addr} {m : Str → Option Value} {o o' : Obj} {kvs : List (Str × Value)} {d : Str → Option Int} {path : Str} {marks : List Int} {u : Int} {t : Tok} {rest : List (Addr × Obj)} (F : Fr g L h' m) (N : News g L h' ((CD, o') :: rest))
    (hargs : ∀ p ∈ [(CD, o)] ++ rest, s₀.get? p.1 = some p.2 ∧ g.get? p.1 = none) (hfull : ∀ b x, s₀.get? b = some x → b ∉ ([(CD, o)] ++ rest).map (·.1) → g.get? b = some x) (RD : RelD kvs d) (hd : o'.IsDictOf (strKind prg w) (stored kvs path (.int u t))) (hu : u = downMark d path marks) :
    Made [CD] (fun v c => v = .ref CD ∧ ∃ o' kvs', c = [(CD, o')] ∧ o'.IsDictOf (strKind prg w) kvs' ∧ kvs'.length ≤ kvs.length + 1 ∧ RelD kvs' (downF d path marks)) [(CD, o)] (.ref CD) s₀ h' := by
  subst hu
  refine ⟨_, ⟨rfl, o', _, rfl, hd, stored_len, RD.set path _ t⟩, fun b x hb e => ?_, fun p hp => ?_⟩
  · by_cases hm : b ∈ ([(CD, o)] ++ rest).map (·.1)
    · obtain ⟨p, hp, rfl⟩ := List.mem_map.mp hm
      rw [(hargs p hp).1] at e
      rcases List.mem_append.mp hp with hp | hp
      · exact absurd (by rw [List.mem_singleton.mp hp]; exact .head _) hb
      · rw [(N p (.tail _ hp)).1]; exact e
    · exact F.keep _ _ (hfull b x e hm)
  · obtain rfl := List.mem_singleton.mp hp
    exact ⟨(N _ (.head _)).1, .inl (.head _)⟩
theorem mark0 {ms : List (Int × Tok)} {x : Int × Tok} (h : ms[0]? = some x) : (ms.map (·.1)).headD 0 = x.1 := by
  cases ms with
  | nil => cases h
  | cons y ms => cases h; rfl
theorem down_l (w : World) (CD : Addr) (o : Obj) (kvs : List (Str × Value)) (d : Str → Option Int) (r : Row) (rest : List (Addr × Obj)) (hr : ∀ p ∈ r.objs, p ∈ rest) (off : ∀ p ∈ rest, p.1 ∉ [CD]) (hd : o.IsDictOf (strKind prg w) kvs) (RD : RelD kvs d) (hl : kvs.length ≤ 4000)
    (hp : r.path.length ≤ 4096) (x0 : Int × Tok) (hx0 : r.ms[0]? = some x0) :
    CodCall w 3 254 [.ref CD, .ref r.T] ([(CD, o)] ++ rest) (Made [CD] (fun v c => v = .ref CD ∧ ∃ o' kvs', c = [(CD, o')] ∧ o'.IsDictOf (strKind prg w) kvs' ∧ kvs'.length ≤ kvs.length + 1 ∧ RelD kvs' (downF d r.path r.marks)) [(CD, o)]) := by
  k_with_none
  k_with "execs cons" => (k_fold; (with_reducible refine PySem.wpAny_execs_cons ?_))
  k_with "call ref" => ((with_reducible show wpAny _ _ (call (Value.ref 235) _) _ _ _); refine' dirname_p _ _ _ ?h0 _ _ _ _ _ _ _ _ ?kG ?kR ?_; (case h0 => first | assumption | (simp only [Str.length_append]; omega) | omega); (case kG => exact Gnd.keeps (by assumption) (Fr.keep (by assumption))); (case kR => first | assumption | exact Room.deeper (by assumption) _ | exact Room.less (Room.deeper (by assumption) _) (by decide)); (intro t' h' tk' k'; (rename Fr _ _ _ _ => F0); (rename News _ _ _ _ => N0); have F' := Fr.keeps F0 k'; have N' := News.grown N0 k'; clear F0 N0; (try dsimp only)))
  k_with "subscriptTail" => (first | ((with_reducible show wpAny _ _ (subscriptTail _ _ (Value.ref CD) _) _ _ _); (first | (have e9' := e9) | (obtain ⟨u9, t9, e9, hu9⟩ := RD.got (by assumption))); k_here; k_dflt (refine' kda_item ?kt1 (.head _) hd (strKind_is _ _ _ _) e9 ?_; (case kt1 => k_asm))) | (k_here; k_dflt (first
    | (refine' tup_item (t := r.T) ?ti1 (List.mem_cons_of_mem _ hT) ?ti2 ?ti3 ?ti4 ?ti5 ?_; (case ti1 => k_asm); (case ti2 => decide); (case ti3 => decide); (case ti4 => rfl); (case ti5 => rfl))
    | (refine' lst_item (l := r.M) ?li1 (List.mem_cons_of_mem _ hM) ?li2 ?li3 hx1 ?_; (case li1 => k_asm); (case li2 => decide); (case li3 => decide)))))
  k_with "compareOp In str ref" => (k_here; k_dflt (refine' kda_in ?ki1 (.head _) hd hCD (strKind_is _ _ _ _) _ rfl ?_; (case ki1 => k_asm)))
  k_with "compareOp In int ref" => (k_here; k_dflt (refine' in_ints ?ki1 (List.mem_cons_of_mem _ hM) ?_; (case ki1 => k_asm)))
  k_with "setItem ref str int" => (k_here; k_dflt (refine' dict_set_head ?ds1 ?ds2 hoff hd (Nat.le_trans hl (by decide)) ?_; (case ds1 => k_asm); (case ds2 => k_asm)); (intro h' o' F' N' hd'))
  refine cod_intro ?_
  intro loose mean mg mb A s R' g G hkg hsz hargs hfull R hret
  obtain ⟨hd0, dp0, fr0, gd0, un0⟩ := A
  obtain rfl : hd0 = none := R.hd
  have X := G.K; revert X; k_fill; intro X
  have T := G.T
  refine' enterGC (binds := [(Str.ofString "chosen", .ref CD), (Str.ofString "row", .ref r.T)]) ?k1 hkg hsz hargs ?k2 ?k3 ?k4 ?k5 ?k6 ?k7 ?_ ?c1 ?c2 ?c3 ?c4
  (case k1 => assumption)
  (case k2 => exact T.nolimit)
  (case k3 => exact Nat.lt_of_le_of_lt (Nat.le_add_right _ _) R.dp)
  (case k4 => k_is)
  (case k5 => k_is)
  (case k6 => first | exact BindsTo.of_eq rfl | exact binds_K (Frag.In.keeps (by assumption) hkg) rfl (by k_is) rfl rfl rfl)
  (case k7 => exact locs rfl)
  (case c1 => exact rfl)
  (case c2 => exact rfl)
  (case c3 => exact rfl)
  (case c4 => decide)
  intro L h₁ F N
  try dsimp only
  try k_fold
  have hT : (r.T, r.tup) ∈ rest := hr _ (.head _)
  have hM : (r.M, r.lst) ∈ rest := hr _ (.tail _ (.head _))
  have hoff : ∀ p ∈ rest, p.1 ≠ CD := fun p hp e => off p hp (e ▸ .head _)
  have hCD := not_modules X (hargs (CD, o) (.head _)).2
  have hx1 : (intsV r.ms)[(0 : Int).toNat]? = some (.int x0.1 x0.2) := by rw [List.getElem?_map, show (0 : Int).toNat = 0 from rfl, hx0]; rfl
  simp only [List.cons_append, List.nil_append] at N
  k_steps
  · exact hret _ _ _ _ (down_end (by assumption) (by assumption) hargs hfull RD hd' (by unfold downMark; rw [hu9]; dsimp only; exact (if_pos (by assumption)).symm))
  · exact hret _ _ _ _ (down_end (by assumption) (by assumption) hargs hfull RD hd' (by rename_i hb; unfold downMark; rw [hu9]; dsimp only; rw [if_neg (by rw [hb]; exact Bool.false_ne_true), mark0 hx0]))
  · exact hret _ _ _ _ (down_end (by assumption) (by assumption) hargs hfull RD hd' (by (rename (valueAt _ _).isSome = false => ha); unfold downMark; rw [RD.miss ha]; exact (mark0 hx0).symm))
end Mine
end
section
open PySem PySem.W PySem.Calls PyProof.Rows
open PyProof.Rows.LCg (NsObj lst lst_snoc ns_obj)
namespace Mine
noncomputable def downAll (rs : List PRow) (d : Str → Option Int) : Str → Option Int := rs.foldl (fun d r => downF d r.path r.ms) d
def DownK (w : World) (CD : Addr) (rs : List Row) (i : Nat) (acc : Value) (c : List (Addr × Obj)) : Prop :=
  ∃ (o : Obj) (kvs : List (Str × Value)), acc = .ref CD ∧ c = [(CD, o)] ∧ o.IsDictOf (strKind prg w) kvs ∧ kvs.length ≤ i ∧ RelD kvs (downAll ((rs.take i).map Row.abs) fun _ => none)
theorem red_down {w : World} {CD RV : Addr} {o : Obj} {n : Nat} {rs : List Row} (hd : o.IsDictOf (strKind prg w) []) (hc : o.cls ≠ .type "tuple") (hrl : rs.length ≤ 100) (hp4 : ∀ r ∈ rs, r.path.length ≤ 4096) (hms : ∀ r ∈ rs, r.ms ≠ []) (off : ∀ p ∈ (RV, rowsO rs n) :: rowObjs rs, p.1 ∉ [CD]) :
    CodCall w 4 207 [.ref 254, .ref RV, .ref CD] ([(CD, o)] ++ ((RV, rowsO rs n) :: rowObjs rs)) (Made [CD] (DownK w CD rs rs.length) [(CD, o)]) := by
  have e : rs.length = (rs.map fun r => Value.ref r.T).length := (List.length_map _).symm
  rw [e]
  refine reduce_l w 3 254 RV _ n (.ref CD) [(CD, o)] _ (DownK w CD rs) (.head _) off ⟨o, [], rfl, rfl, hd, Nat.le_refl _, ⟨fun p v h => (by cases h), fun p => rfl⟩⟩ (by kernel_rfl) ⟨CD, o, rfl, .head _, hc⟩ fun i v acc c hv hK => ?_
  obtain ⟨o1, kvs, rfl, rfl, h1, h2, h3⟩ := hK
  obtain ⟨r, hr, rfl⟩ := rows_at (rows := rs) (f := fun r => Value.ref r.T) (i := i) (v := v) (by simpa using hv)
  have hm := List.mem_of_getElem? hr
  have hi := (List.getElem?_eq_some_iff.mp hr).1
  obtain ⟨x0, hx0⟩ : ∃ x0, r.ms[0]? = some x0 := by
    cases q : r.ms with
    | nil => exact absurd q (hms r hm)
    | cons x l => exact ⟨x, rfl⟩
  refine CodCall.mono (down_l w CD o1 kvs _ r _ (fun p hp => .tail _ (rowObjs_mem hm p hp)) off h1 h3 (by omega) (hp4 r hm) x0 hx0) fun v s h' hs hv => ?_
  obtain ⟨c', ⟨rfl, o', kvs', rfl, k1, k2, k3⟩, b, c⟩ := hv
  refine ⟨_, ⟨o', kvs', rfl, rfl, k1, by omega, ?_⟩, b, c⟩
  rw [take_at hr, List.map_append]
  unfold downAll
  rw [List.foldl_append]
  exact k3
end Mine
end
section
open PySem PySem.W PySem.Calls PyProof.Rows
open PyProof.Rows.LCg (NsObj lst lst_snoc ns_obj)
namespace Mine
section
variable {w : World} {A : Around} {loose : List Str} {mean : ExcName → Option Value} {mg mb : Str → Option Value} {g hp : Heap} {gs : Array GenState} {dr : Drawn} {tk : Nat} {os : OsState} {L : Addr} {m : Str → Option Value} {Q : Flow → Shared → Prop} {rest : List Stmt} {t : List (Addr × Obj)}
theorem law_283 {S : Addr} {oS : Obj} {l : List (Int × Tok)} (hoS : oS.cls = .type "list" ∧ ∃ n, oS.data = .seq (intsV l).toArray n) (hSg : g.get? S = some oS) (hm : m (Str.ofString "script") = some (.ref S)) (G : Gnd w loose mean mg mb g) (R : Room A 30) (H : Led g L m hp t)
    (hgo : ∀ (h' : Heap) (tk' : Nat) (m' : Str → Option Value) (tt : Tok), (∀ y, y ≠ Str.ofString "total" → m' y = m y) → m' (Str.ofString "total") = some (.int (l.map (·.1)).sum tt) → Led g L m' h' t → LawGo w A L rest Q ⟨h', gs, dr, tk', os⟩) :
    LawGo w A L (lawSt 0 :: rest) Q ⟨hp, gs, dr, tk, os⟩ := by
  k_with_none
  k_with "execs cons" => (k_fold; (with_reducible refine PySem.wpAny_execs_cons ?_))
  k_with "eval Name" => (k_here; k_dflt (refine' nameX_L ?kl1 ?kl2 ?_ ?kl3 ?kl4; (case kl1 => k_asm); (case kl3 => rfl); (case kl4 => rfl); (case kl2 => exact hm); k_whole))
  k_with "call builtin:sum" => (k_here; k_dflt (refine' LSm.sum_ints ?km1 ?km2 rfl ⟨oS, Fr.keep (by k_asm) _ _ hSg, hoS.1, hoS.2⟩ (ints_are l) ?_; (case km1 => k_asm); (case km2 => k_asm)); (intro h' tk' t' F' N'))
  obtain ⟨hd0, dp0, fr0, gd0, un0⟩ := A
  obtain rfl : hd0 = none := R.hd
  have T := G.T
  have hun : un0 + 10 * 30 + 10 < cLine := R.un
  have F := H.F
  have N := H.N
  change wpAny (model _ _) (Around.deeper _ (envOfC _ ⟨_, _, _, _, _⟩ _ _ _)) (execs (Stmt.Assign _ _ _ :: rest) (envOfC _ ⟨_, _, _, _, _⟩ _ _ _)) _ _ _
  have X := G.K; revert X; k_fill; intro X
  k_steps
  (rename Fr _ _ _ _ => F9); (rename News _ _ _ _ => N9)
  exact hgo _ _ _ _ (fun y hy => if_neg hy) (if_pos rfl) (H.to F9 N9 rfl)
theorem law_284 {T : Int} {tt : Tok} (hm : m (Str.ofString "total") = some (.int T tt)) (G : Gnd w loose mean mg mb g) (R : Room A 30) (H : Led g L m hp t)
    (hgo : ∀ (h' : Heap) (tk' : Nat) (m' : Str → Option Value) (U : Addr) (nu : Nat) (ul : List (Int × Tok)), (∀ y, y ≠ Str.ofString "ups" → m' y = m y) → m' (Str.ofString "ups") = some (.ref U) → ul.map (·.1) = [0,0, T.fmod 2, (T.fdiv 2).fmod 3] → Led g L m' h' ((U, listOf (intsV ul).toArray nu) :: t) → LawGo w A L rest Q ⟨h', gs, dr, tk', os⟩) :
    LawGo w A L (lawSt 1 :: rest) Q ⟨hp, gs, dr, tk, os⟩ := by
  k_with_none
  k_with "execs cons" => (k_fold; (with_reducible refine PySem.wpAny_execs_cons ?_))
  k_with "eval Name" => (k_here; k_dflt (refine' nameX_L ?kl1 ?kl2 ?_ ?kl3 ?kl4; (case kl1 => k_asm); (case kl3 => rfl); (case kl4 => rfl); (case kl2 => exact hm); k_whole))
  obtain ⟨hd0, dp0, fr0, gd0, un0⟩ := A
  obtain rfl : hd0 = none := R.hd
  have T := G.T
  have hun : un0 + 10 * 30 + 10 < cLine := R.un
  have F := H.F
  have N := H.N
  change wpAny (model _ _) (Around.deeper _ (envOfC _ ⟨_, _, _, _, _⟩ _ _ _)) (execs (Stmt.Assign _ _ _ :: rest) (envOfC _ ⟨_, _, _, _, _⟩ _ _ _)) _ _ _
  have X := G.K; revert X; k_fill; intro X
  k_steps
  (rename Fr _ _ _ _ => F9); (rename News _ _ _ _ => N9)
  exact hgo _ _ _ _ _ [(_, _), (_, _), (_, _), (_, _)] (fun y hy => if_neg hy) (if_pos rfl) rfl (H.to1 F9 N9 (by assumption) rfl)
theorem law_285 {T : Int} {tt : Tok} {o1 : Obj} (d1 : o1.data = .cell none) (hm : m (Str.ofString "total") = some (.int T tt)) (G : Gnd w loose mean mg mb g) (R : Room A 30) (H : Led g L m hp ((L + 1, o1) :: t))
    (hgo : ∀ (h' : Heap) (tk' : Nat) (o1' : Obj) (D : Addr) (nd : Nat) (sl : List (Int × Tok)), o1'.data = .cell (some (.ref D)) → sl.map (·.1) = [1 + (T.fdiv 6).fmod 3,1 + (T.fdiv 18).fmod 3] → Led g L m h' ((D, listOf (intsV sl).toArray nd) :: (L + 1, o1') :: t) → LawGo w A L rest Q ⟨h', gs, dr, tk', os⟩) :
    LawGo w A L (lawSt 2 :: rest) Q ⟨hp, gs, dr, tk, os⟩ := by
  have ht := H.off
  k_with_none
  k_with "execs cons" => (k_fold; (with_reducible refine PySem.wpAny_execs_cons ?_))
  k_with "eval Name" => (k_here; k_dflt (refine' nameX_L ?kl1 ?kl2 ?_ ?kl3 ?kl4; (case kl1 => k_asm); (case kl3 => rfl); (case kl4 => rfl); (case kl2 => exact hm); k_whole))
  obtain ⟨hd0, dp0, fr0, gd0, un0⟩ := A
  obtain rfl : hd0 = none := R.hd
  have T := G.T
  have hun : un0 + 10 * 30 + 10 < cLine := R.un
  have F := H.F
  have N := H.N
  change wpAny (model _ _) (Around.deeper _ (envOfC _ ⟨_, _, _, _, _⟩ _ _ _)) (execs (Stmt.Assign _ _ _ :: rest) (envOfC _ ⟨_, _, _, _, _⟩ _ _ _)) _ _ _
  have X := G.K; revert X; k_fill; intro X
  k_steps
  (rename Fr _ _ _ _ => F9); (rename News _ _ _ _ => N9)
  exact hgo _ _ _ _ _ [(_, _), (_, _)] (by assumption) rfl (H.to1 F9 N9 (ltAll (by assumption)) rfl)
theorem law_286 {T : Int} {tt : Tok} {o2 : Obj} (d2 : o2.data = .cell none) (hm : m (Str.ofString "total") = some (.int T tt)) (G : Gnd w loose mean mg mb g) (R : Room A 30) (H : Led g L m hp ((L + 1 + 1, o2) :: t))
    (hgo : ∀ (h' : Heap) (tk' : Nat) (o2' : Obj) (tb : Tok), o2'.data = .cell (some (.int ((T.fdiv 54 + 5).fmod 8) tb)) → Led g L m h' ((L + 1 + 1, o2') :: t) → LawGo w A L rest Q ⟨h', gs, dr, tk', os⟩) :
    LawGo w A L (lawSt 3 :: rest) Q ⟨hp, gs, dr, tk, os⟩ := by
  have ht := H.off
  k_with_none
  k_with "execs cons" => (k_fold; (with_reducible refine PySem.wpAny_execs_cons ?_))
  k_with "eval Name" => (k_here; k_dflt (refine' nameX_L ?kl1 ?kl2 ?_ ?kl3 ?kl4; (case kl1 => k_asm); (case kl3 => rfl); (case kl4 => rfl); (case kl2 => exact hm); k_whole))
  obtain ⟨hd0, dp0, fr0, gd0, un0⟩ := A
  obtain rfl : hd0 = none := R.hd
  have T := G.T
  have hun : un0 + 10 * 30 + 10 < cLine := R.un
  have F := H.F
  have N := H.N
  change wpAny (model _ _) (Around.deeper _ (envOfC _ ⟨_, _, _, _, _⟩ _ _ _)) (execs (Stmt.Assign _ _ _ :: rest) (envOfC _ ⟨_, _, _, _, _⟩ _ _ _)) _ _ _
  have X := G.K; revert X; k_fill; intro X
  k_steps
  (rename Fr _ _ _ _ => F9); (rename News _ _ _ _ => N9)
  exact hgo _ _ _ _ (by assumption) (H.to F9 N9 rfl)
theorem up7 {l : List (Int × Tok)} : kms_pick (intsV l).toArray.toList none (some 7) = intsV (l.take 7) := by
  have h : (7 : Int).toNat = 7 := rfl
  simp only [kms_pick, kms_lo, kms_hi, List.drop_zero, Nat.sub_zero]
  simp [h, List.map_take, List.take_eq_take_iff]
theorem two_at4 {xl : List (Int × Tok)} {i : Nat} {r : Int × Tok} (h : xl[i]? = some r) : ((xl.map (fun x : Int × Tok => x.1)).map two4)[i]? = some (two4 r.1) := by rw [List.getElem?_map, List.getElem?_map, h]; rfl
theorem news5 {h₀ h : Heap} {L D : Addr} {n : Nat} {a b : List (Int × Tok)} {y z : Addr × Obj} {r : List (Addr × Obj)} (N : News h₀ L h ((D, listOf (intsV a ++ intsV b).toArray n) :: y :: z :: r)) : News h₀ L h ((D, listOf (intsV (a ++ b)).toArray n) :: r) := fun p hp => N p (by
  rcases List.mem_cons.mp hp with rfl | hp
  · rw [show intsV (a ++ b) = intsV a ++ intsV b from List.map_append]; exact .head _
  · exact .tail _ (.tail _ (.tail _ hp)))
theorem law_287 {S : Addr} {oS : Obj} {l : List (Int × Tok)} {o3 : Obj} (hoS : oS.cls = .type "list" ∧ ∃ n, oS.data = .seq (intsV l).toArray n) (hSg : g.get? S = some oS) (d3 : o3.data = .cell none) (hm : m (Str.ofString "script") = some (.ref S)) (hl : l.length ≤ 63) (G : Gnd w loose mean mg mb g) (R : Room A 30) (H : Led g L m hp ((L + 1 + 1 + 1, o3) :: t))
    (hgo : ∀ (h' : Heap) (tk' : Nat) (dr' : Drawn) (o3' : Obj) (D : Addr) (ws : List Two), o3'.data = .cell (some (.ref D)) → ws.map Two.abs = (([9,2,11,12,1] ++ (l.take 7).map (fun x : Int × Tok => x.1)).map two4) → Led g L m h' ((D, lst (twosV ws)) :: (L + 1 + 1 + 1, o3') :: (t ++ ws.map fun x : Two => (x.T, x.obj))) → LawGo w A L rest Q ⟨h', gs, dr', tk', os⟩) :
    LawGo w A L (lawSt 4 :: rest) Q ⟨hp, gs, dr, tk, os⟩ := by
  have ht := H.off
  k_with_none
  k_with "execs cons" => (k_fold; (with_reducible refine PySem.wpAny_execs_cons ?_))
  k_with "eval Name" => (first | ((with_reducible show wpAny _ _ (eval (Expr.Name _ _) (compEnvC _ _ _ _)) _ _ _); k_here; k_dflt (refine LCgL.ld_own (by k_asm) (by k_mem) (by assumption) ((hy' _ (by decide)).trans (by assumption)) ?_)) | (k_here; k_dflt (refine' nameX_L ?kl1 ?kl2 ?_ ?kl3 ?kl4; (case kl1 => k_asm); (case kl3 => rfl); (case kl4 => rfl); (case kl2 => exact hm); k_whole)))
  k_with "subscriptTail Name Slice ref ref" => (k_here; k_dflt (refine' kms_slice_lit ?sl1 ?sl2 ?sl3 ?sl4 ?sl5 up7 ?_ ?sl6 ?sl7 ?sl8; (case sl1 => k_asm); (case sl2 => k_asm); (case sl3 => exact ⟨oS, Fr.keep (by k_asm) _ _ hSg, hoS.1, hoS.2⟩); (case sl4 => kmk_part); (case sl5 => kmk_part); (case sl6 => with_unfolding_all rfl); (case sl7 => kmk_pure); (case sl8 => (simp; unfold sizeLine; omega))); (intro D' h' F' N' l1))
  k_with "eval ListComp" => (k_here; k_dflt (refine comp_ev none (by k_asm) (by rfl) (by rfl) (by decide) (by intro _ _; rfl) (by intro _; rfl) ?_))
  k_with "storeName" => ((with_reducible show wpAny _ _ (storeName (compEnvC _ _ _ _) _ _) _ _ _); k_here; k_dflt (refine' store_own ?so1 ?so2 ?so3 hIC hnC ?_ ?so4 ?so5; (case so4 => rfl); (case so5 => rfl); (case so1 => k_asm); (case so2 => k_asm); (case so3 => k_asm)); (intro h' oC' m' F' N' hC' hx' hy'))
  k_with "binaryOp Add ref ref" => (k_here; k_dflt (refine' add_lst ?ka1 ?ka2 ?ka3 ?ka4 ?ka5 ?_; (case ka1 => k_asm); (case ka2 => k_asm); (case ka3 => k_mem); (case ka4 => exact .head _); (case ka5 => (simp; omega))); (intro D8 h' F' N' l8))
  k_with "newTuple" => ((k_here; k_dflt (refine' kup_newTuple ?nt1 ?nt2 ?_ ?nt3; (case nt1 => k_asm); (case nt2 => k_asm); (case nt3 => kmk_size))); (intro T0 h' F' N' lT))
  obtain ⟨hd0, dp0, fr0, gd0, un0⟩ := A
  obtain rfl : hd0 = none := R.hd
  have T := G.T
  have hun : un0 + 10 * 30 + 10 < cLine := R.un
  have F := H.F
  have N := H.N
  change wpAny (model _ _) (Around.deeper _ (envOfC _ ⟨_, _, _, _, _⟩ _ _ _)) (execs (Stmt.Assign _ _ _ :: rest) (envOfC _ ⟨_, _, _, _, _⟩ _ _ _)) _ _ _
  have X := G.K; revert X; k_fill; intro X
  k_steps
  (rename Fr _ _ _ _ => F0); (rename News _ _ _ _ => N0)
  obtain ⟨xl, hxl, N1⟩ : ∃ xl : List (Int × Tok), xl.map (fun x : Int × Tok => x.1) = [9,2,11,12,1] ++ (l.take 7).map (fun x : Int × Tok => x.1) ∧ News g L h' ((D8, listOf (intsV xl).toArray 0) :: (L + 1 + 1 + 1, o3) :: t) := ⟨[(9, tk), (2, tk + 1), (11, tk + 1 + 1), (12, tk + 1 + 1 + 1), (1, tk + 1 + 1 + 1 + 1)] ++ l.take 7, rfl, news5 (a := [(9, tk), (2, tk + 1), (11, tk + 1 + 1), (12, tk + 1 + 1 + 1), (1, tk + 1 + 1 + 1 + 1)]) N0⟩
  have D1 : (((D8, listOf (intsV xl).toArray 0) :: (L + 1 + 1 + 1, o3) :: t).map (·.1)).Nodup := nodup_cons1 H.D fun p hp => l8 p (.tail _ (.tail _ hp))
  have hx12 : xl.length ≤ 12 := by
    have := congrArg List.length hxl
    simp at this; omega
  clear N0 l8 N'
  rw [← hxl] at hgo
  refine CompGo.lstJ (nw₀ := _ ++ []) (JN ((D8, listOf (intsV xl).toArray 0) :: (L + 1 + 1 + 1, o3) :: t) (TwoK ((xl.map (fun x : Int × Tok => x.1)).map two4))) (fun _ _ _ _ hJ N => hJ.news N) F0 (by rw [List.append_nil]; exact N1) rfl ⟨_, News.get N1 (.head _), rfl, _, rfl⟩ (by simp; unfold sizeLine; omega) (fun _ _ _ _ _ _ _ h => go_name h)
    (fun h' k N => ⟨_, News.get N (.head _), rfl, _, rfl⟩) (JN.mk ⟨[], rfl, rfl, rfl, rfl⟩ (by rw [List.append_nil]; exact D1)) ?_ ?_
  · intro I C D cx q1 q2 q3 i v ys oI oC m₂ cells nw h tk dr E' hi hv hJ hoC hcc F N ap
    obtain ⟨hIC, hnC⟩ := turn_off (ys := ys) q1 q2 q3 hcc ap
    cases hJ with
    | mk hJ hD =>
    obtain ⟨ws, rfl, rfl, rfl, hw⟩ := hJ
    obtain ⟨r, hr, rfl⟩ := rows_at hv
    obtain rfl := hcc
    dsimp only
    try k_fold
    k_steps
    (rename News _ _ _ _ => N2)
    refine' TurnEnd.mk (cells := []) ?te1 rfl ?te3 (news_snoc1 N2) (turn_snoc (i := (I, oI)) (j := (C, oC')) (k := (D, lst (twosV ws))) lT ap hD).1 (JN.mk (TwoK.snoc hw (two_at4 hr)) (turn_snoc (i := (I, oI)) (j := (C, oC')) (k := (D, lst (twosV ws))) lT ap hD).2)
    (case te1 => assumption)
    (case te3 => assumption)
  · intro D h' tk dr ys nw hD F N ap hJ
    cases hJ with
    | mk hJ hD1 =>
    obtain ⟨ws, hwl, rfl, rfl, hw⟩ := hJ
    generalize hc : ws.map (fun x : Two => (x.T, x.obj)) = c at N ap hD1
    dsimp only
    have D2 : (((L + 1 + 1 + 1, o3) :: (t ++ c)).map (·.1)).Nodup := nodup_right (a := [_]) hD1
    have z3 := nodup_off D2
    have z4 : @Ne Nat (L + 1 + 1 + 1) D := ap _ (.tail _ (.head _))
    have D4 := nodup_head (x := (D, lst (twosV ws))) D2 fun p hp => ap p (.tail _ hp)
    replace N : News g L h' ((D, lst (twosV ws)) :: (L + 1 + 1 + 1, o3) :: (t ++ c)) := news_sub3 N
    clear N1 F0
    k_steps
    (rename Fr _ _ _ _ => F9); (rename News _ _ _ _ => N9)
    have hww : ws.map Two.abs = (xl.map (fun x : Int × Tok => x.1)).map two4 := hw.trans (List.take_of_length_le (by simp))
    subst hc
    exact hgo _ _ _ _ _ ws (by assumption) hww ⟨F9, N9, D4⟩
theorem law_288 {o4 : Obj} (G : Gnd w loose mean mg mb g) (R : Room A 30) (H : Led g L m hp ((L + 1 + 1 + 1 + 1, o4) :: t)) (d4 : o4.data = .cell none)
    (h : ∀ (h' : Heap) (tk' : Nat) (o4' : Obj) (D : Addr) (tt : Tok), Led g L m h' ((D, listOf (strsV [(Str.ofString "/t", tt)]).toArray 0) :: (L + 1 + 1 + 1 + 1, o4') :: t) → o4'.data = .cell (some (.ref D)) → LawGo w A L rest Q ⟨h', gs, dr, tk', os⟩) :
    LawGo w A L (lawSt 5 :: rest) Q ⟨hp, gs, dr, tk, os⟩ := by
  have ht := H.off
  k_with_none
  k_with "execs cons" => (k_fold; (with_reducible refine PySem.wpAny_execs_cons ?_))
  obtain ⟨hd0, dp0, fr0, gd0, un0⟩ := A
  obtain rfl : hd0 = none := R.hd
  have T := G.T
  have hun : un0 + 10 * 30 + 10 < cLine := R.un
  have F := H.F
  have N := H.N
  change wpAny (model _ _) (Around.deeper _ (envOfC _ ⟨_, _, _, _, _⟩ _ _ _)) (execs (Stmt.Assign _ _ _ :: rest) (envOfC _ ⟨_, _, _, _, _⟩ _ _ _)) _ _ _
  have X := G.K; revert X; k_fill; intro X
  k_steps
  (rename Fr _ _ _ _ => F9); (rename News _ _ _ _ => N9)
  exact h _ _ _ _ _ (H.to1 F9 N9 (ltAll (by assumption)) rfl) (by assumption)
theorem news_swap {h₀ h : Heap} {L : Addr} {x y : Addr × Obj} {r : List (Addr × Obj)} (N : News h₀ L h (x :: y :: r)) : News h₀ L h (y :: x :: r) := fun p hp => N p (by
  rcases List.mem_cons.mp hp with rfl | hp
  · exact .tail _ (.head _)
  rcases List.mem_cons.mp hp with rfl | hp
  · exact .head _
  · exact .tail _ (.tail _ hp))
theorem push_strs {fs : List (Str × Tok)} {x : Str} {t : Tok} : (strsV fs).toArray.push (.str x t) = (strsV (fs ++ [(x, t)])).toArray := by simp
theorem fold_snoc {u2 u3 : Nat} (h2 : u2 < 2) (h3 : u3 < 3) {i : Nat} (hi : i < 3) {fs : List (Str × Tok)} {t : Tok} (h : fs.map (·.1) = (foldL u2 u3).take (i + 1)) :
    (fs ++ [(joinS (foldK u2 u3 (upK u2 u3 (i + 1))) (nmL.getD (i + 1) (Str.ofString "")), t)]).map (·.1) = (foldL u2 u3).take (i + 1 + 1) := by
  rw [List.map_append, h, List.map_cons, fold_step u2 h2 u3 h3 i hi, List.take_add_one (i := i + 1), fold_get u2 h2 u3 h3 (i + 1) (by omega)]; rfl
theorem ap1 {I D : Addr} {o o' : Obj} {t : List (Addr × Obj)} (ap : ∀ p ∈ (D, o) :: t, p.1 ≠ I) : ∀ p ∈ (D, o') :: t, p.1 ≠ I := fun p hp => by
  rcases List.mem_cons.mp hp with rfl | hp
  · exact ap (D, o) (.head _)
  · exact ap p (.tail _ hp)
theorem law_289 {o4 : Obj} {D U : Addr} {nu : Nat} {tt : Tok} {ul : List (Int × Tok)} {u2 u3 : Nat} (h2 : u2 < 2) (h3 : u3 < 3) (hu : ul.map (·.1) = (upL u2 u3).map fun x : Nat => (x : Int)) (hm : m (Str.ofString "ups") = some (.ref U)) (d4 : o4.data = .cell (some (.ref D)))
    (G : Gnd w loose mean mg mb g) (R : Room A 30) (H : Led g L m hp ((D, listOf (strsV [(Str.ofString "/t", tt)]).toArray 0) :: (L + 1 + 1 + 1 + 1, o4) :: (U, listOf (intsV ul).toArray nu) :: t))
    (hgo : ∀ (h' : Heap) (tk' : Nat) (m' : Str → Option Value) (fs : List (Str × Tok)) (nf : Nat), (∀ y, y ≠ Str.ofString "k" → m' y = m y) → fs.map (·.1) = foldL u2 u3 → Led g L m' h' ((D, listOf (strsV fs).toArray nf) :: (L + 1 + 1 + 1 + 1, o4) :: (U, listOf (intsV ul).toArray nu) :: t) → LawGo w A L rest Q ⟨h', gs, dr, tk', os⟩) :
    LawGo w A L (lawSt 6 :: rest) Q ⟨hp, gs, dr, tk, os⟩ := by
  have ht := H.off
  k_with_none
  k_with "execs cons" => (k_fold; (with_reducible refine PySem.wpAny_execs_cons ?_))
  k_with "call ref" => ((with_reducible show wpAny _ _ (call (Value.ref 228) _) _ _ _); refine' join2 _ _ _ _ _ ?h0 ?h1 _ _ _ _ _ _ _ _ ?kG ?kR ?_; (case h0 => first | assumption | (simp only [Str.length_append]; omega) | omega); (case h1 => first | assumption | (simp only [Str.length_append]; omega) | omega); (case kG => exact Gnd.keeps (by assumption) (Fr.keep (by assumption))); (case kR => first | assumption | exact Room.deeper (by assumption) _ | exact Room.less (Room.deeper (by assumption) _) (by decide)); (intro t' h' tk' k'; (rename Fr _ _ _ _ => F0); (rename News _ _ _ _ => N0); have F' := Fr.keeps F0 k'; have N' := News.grown N0 k'; clear F0 N0; (try dsimp only)))
  k_with "exec For Name Tuple cons nil" => (k_here; k_dflt (refine for_ex (by k_asm) ?_))
  k_with "subscriptTail" => (k_here; k_dflt (first
    | (refine' lst_item (l := U) ?li1 ?li4 ?li2 ?li3 hU8 ?_; (case li1 => k_asm); (case li4 => k_mem); (case li2 => exact Int.natCast_nonneg _); (case li3 => omega))
    | (refine' lst_item (l := D) ?lj1 ?lj4 ?lj2 ?lj3 hF8 ?_; (case lj1 => k_asm); (case lj4 => k_mem); (case lj2 => exact Int.natCast_nonneg _); (case lj3 => omega))
    | ((refine' lst_itemE ?lk1 ?lk4 ?lk2 ?lk3 (four_at hi4) ?_; (case lk1 => k_asm); (case lk4 => exact .head _); (case lk2 => exact Int.natCast_nonneg _); (case lk3 => omega)); (intro x9 hx9; obtain ⟨t9, e9⟩ := hx9; subst e9))))
  k_with "call builtin:list.append" => (k_here; k_dflt (refine' append_K ?ap1 ?ap2 ?ap3 ?_ ?ap4; (case ap1 => k_asm); (case ap2 => k_asm); (case ap3 => k_upd); (case ap4 => exact hsz9)); (intro h' F' N'; (try k_sweep)))
  k_with "eval Name" => (k_here; k_dflt (refine' nameX_L ?kl1 ?kl2 ?_ ?kl3 ?kl4; (case kl1 => k_asm); (case kl3 => rfl); (case kl4 => rfl); (case kl2 => first | exact rfl | exact (hm2 _ (by decide)).trans hm); k_whole))
  obtain ⟨hd0, dp0, fr0, gd0, un0⟩ := A
  obtain rfl : hd0 = none := R.hd
  have T := G.T
  have hun : un0 + 10 * 30 + 10 < cLine := R.un
  have F := H.F
  have N := H.N
  change wpAny (model _ _) (Around.deeper _ (envOfC _ ⟨_, _, _, _, _⟩ _ _ _)) (execs (Stmt.For _ _ _ _ _ :: rest) (envOfC _ ⟨_, _, _, _, _⟩ _ _ _)) _ _ _
  have X := G.K; revert X; k_fill; intro X
  k_steps
  (rename Fr _ _ _ _ => F0); (rename News _ _ _ _ => N0)
  have N1 := news_swap N0
  have hT1 := News.get N1 (.tail _ (.head _))
  have hT2 : Heap.IsTuple _ _ _ := ⟨_, hT1, rfl, _, rfl⟩
  refine' ForGo.tupF (c₀ := [(D, listOf (strsV [(Str.ofString "/t", tt)]).toArray 0)]) F0 N1 [Str.ofString "k"] (fun i m c => ∃ (fs : List (Str × Tok)) (nf : Nat), c = [(D, listOf (strsV fs).toArray nf)] ∧ fs.map (·.1) = (foldL u2 u3).take (i + 1)) rfl hT2
    ?src9 ⟨[(Str.ofString "/t", tt)], 0, rfl, rfl⟩ ?_ ?_
  case src9 => exact fun h' k N => ⟨_, News.get N (.head _), rfl, _, rfl⟩
  · intro I i v m3 c3 oI h tk hi hv hm2 hK F N ap
    obtain ⟨fs, nf, rfl, hfs⟩ := hK
    obtain ⟨hi3, t3, rfl⟩ := tri1_at hv
    have hi4 : i + 1 < 4 := by omega
    have hup := up_le u2 h2 u3 h3 i hi3
    obtain ⟨t8, hU8⟩ := intsV_at hu (up_get u2 h2 u3 h3 (i + 1) hi4)
    obtain ⟨t7, hF8⟩ := strs_at hfs (i := upK u2 u3 (i + 1)) ((List.getElem?_take_of_lt (by omega)).trans (fold_get u2 h2 u3 h3 _ (by omega)))
    have hl9 := fold_len u2 h2 u3 h3 (upK u2 u3 (i + 1)) (by omega)
    have hn9 := nm_len (i + 1) hi4
    have hfl : fs.length = i + 1 := by
      have := congrArg List.length hfs
      rw [List.length_map, List.length_take, show (foldL u2 u3).length = 4 from rfl] at this
      omega
    have hsz9 : (strsV fs).toArray.size ≤ sizeLine := by simp; unfold sizeLine; omega
    have hID : @Ne Nat D I := ap _ (.head _)
    have z1 : @Ne Nat (L + 1 + 1 + 1 + 1) D := ht _ (.head _)
    have z2 : @Ne Nat U D := ht _ (.tail _ (.head _))
    have z3 : ∀ p ∈ t, p.1 ≠ D := fun p hp => ht p (.tail _ (.tail _ hp))
    replace F : Fr g L h m3 := F
    replace N : News g L h _ := N
    simp only [List.cons_append, List.nil_append] at N
    dsimp only
    try k_fold
    k_steps
    refine' ForEnd.mk ?eF (news_tl ?eN) (ap1 ap) (JF.mk (c := [(D, _)]) (setM (.head _) hm2) ⟨fs ++ [(_, _)], _, ?eE, fold_snoc h2 h3 hi3 hfs⟩)
    (case eF => assumption)
    (case eN => assumption)
    (case eE => (rw [push_strs]; rfl))
  · intro h4 tk4 m4 c4 hm4 hK F4 N4
    obtain ⟨fs, nf, rfl, hfs⟩ := hK
    exact hgo _ _ _ fs nf (fun y hy => hm4 y (fun hm => hy (List.mem_singleton.mp hm))) hfs (H.to F4 (news_sub3 N4) rfl)
theorem law_291 {o3 o4 o5 : Obj} {DL FL : Addr} {ws : List Two} {fs : List (Str × Tok)} {nf u2 u3 : Nat} (h2 : u2 < 2) (h3 : u3 < 3) (d3 : o3.data = .cell (some (.ref DL))) (d4 : o4.data = .cell (some (.ref FL))) (d5 : o5.data = .cell none)
    (hfs : fs.map (·.1) = foldL u2 u3) (hws : ∀ x ∈ ws, In4 x.a ∧ In4 x.b) (hT : ∀ x ∈ ws, (x.T, x.obj) ∈ t) (hwl : ws.length ≤ 12) (G : Gnd w loose mean mg mb g) (R : Room A 30)
    (H : Led g L m hp ((L + 1 + 1 + 1 + 1 + 1, o5) :: (L + 1 + 1 + 1, o3) :: (L + 1 + 1 + 1 + 1, o4) :: (DL, lst (twosV ws)) :: (FL, listOf (strsV fs).toArray nf) :: t))
    (hgo : ∀ (h' : Heap) (tk' : Nat) (dr' : Drawn) (o5' : Obj) (D : Addr) (fl : List (Str × Tok)), o5'.data = .cell (some (.ref D)) → fl.map (·.1) = ws.map (fun x => fileP u2 u3 x.a.toNat x.b.toNat) →
      Led g L m h' ((D, lst (strsV fl)) :: (L + 1 + 1 + 1 + 1 + 1, o5') :: (L + 1 + 1 + 1, o3) :: (L + 1 + 1 + 1 + 1, o4) :: (DL, lst (twosV ws)) :: (FL, listOf (strsV fs).toArray nf) :: t) → LawGo w A L rest Q ⟨h', gs, dr', tk', os⟩) :
    LawGo w A L (lawSt 7 :: rest) Q ⟨hp, gs, dr, tk, os⟩ := by
  have hoff := H.off
  have y1 : @Ne Nat (L + 1 + 1 + 1) (L + 1 + 1 + 1 + 1 + 1) := hoff _ (.head _)
  have y2 : @Ne Nat (L + 1 + 1 + 1 + 1) (L + 1 + 1 + 1 + 1 + 1) := hoff _ (.tail _ (.head _))
  have y3 : @Ne Nat DL (L + 1 + 1 + 1 + 1 + 1) := hoff _ (.tail _ (.tail _ (.head _)))
  have y4 : @Ne Nat FL (L + 1 + 1 + 1 + 1 + 1) := hoff _ (.tail _ (.tail _ (.tail _ (.head _))))
  have y5 : ∀ p ∈ t, p.1 ≠ L + 1 + 1 + 1 + 1 + 1 := fun p hp => hoff _ (.tail _ (.tail _ (.tail _ (.tail _ hp))))
  clear hoff
  k_with_none
  k_with "execs cons" => (k_fold; (with_reducible refine PySem.wpAny_execs_cons ?_))
  k_with "call ref" => ((with_reducible show wpAny _ _ (call (Value.ref 228) _) _ _ _); refine' join2 _ _ _ _ _ ?h0 ?h1 _ _ _ _ _ _ _ _ ?kG ?kR ?_; (case h0 => first | assumption | (simp only [Str.length_append]; omega) | omega); (case h1 => first | assumption | (simp only [Str.length_append]; omega) | omega); (case kG => exact Gnd.keeps (by assumption) (Fr.keep (by assumption))); (case kR => first | assumption | exact Room.deeper (by assumption) _ | exact Room.less (Room.deeper (by assumption) _) (by decide)); (intro t' h' tk' k'; (rename Fr _ _ _ _ => F0); (rename News _ _ _ _ => N0); have F' := Fr.keeps F0 k'; have N' := News.grown N0 k'; clear F0 N0; (try dsimp only)))
  k_with "exec Assign cons ListComp" => (refine PySem.wpAny_Assign_Name ?_ (by kernel_rfl))
  k_with "eval ListComp" => (k_here; k_dflt (refine comp_ev none (by k_asm) (by rfl) (by rfl) (by decide) (by intro _ _; rfl) (by intro _; rfl) ?_))
  k_with "storeName" => ((with_reducible show wpAny _ _ (storeName (compEnvC _ _ _ _) _ _) _ _ _); k_here; k_dflt (refine' store_own ?so1 ?so2 ?so3 hIC hnC ?_ ?so4 ?so5; (case so4 => rfl); (case so5 => rfl); (case so1 => k_asm); (case so2 => k_asm); (case so3 => k_asm)); (intro h' oC' m' F' N' hC' hx' hy'))
  k_with "subscriptTail" => (k_here; k_dflt (first
    | (refine' lst_item (l := FL) ?lj1 ?lj4 hx0.1.1 ?lj3 hF8 ?_; (case lj1 => k_asm); (case lj4 => k_mem); (case lj3 => omega))
    | ((refine' lst_itemE ?lk1 ?lk4 hx0.2.1 ?lk3 (four_atI hx0.2.1 hx0.2.2) ?_; (case lk1 => k_asm); (case lk4 => exact .head _); (case lk3 => omega)); (intro x9 hx9; obtain ⟨t9, e9⟩ := hx9; subst e9))))
  k_with "eval Name" => (((with_reducible show wpAny _ _ (eval (Expr.Name _ _) (compEnvC _ _ _ _)) _ _ _); k_here; k_dflt (refine LCgL.ld_own (by k_asm) (by k_mem) (by assumption) ((hy' _ (by decide)).trans (by assumption)) ?_)))
  k_with "assign Tuple" => (k_here; k_dflt (refine' unpackN_ (items := #[Value.int x.a x.ta, Value.int x.b x.tb]) ?ua1 ?ua2 ?ua3 ?ua5 ?ua6 ?ua7 ?_; (case ua1 => k_asm); (case ua2 => k_asm); (case ua3 => exact ⟨_, News.get (by k_asm) (by (repeat' (first | exact hT9 | exact List.mem_append_left _ hT9 | refine List.mem_cons_of_mem _ ?_))), rfl, _, rfl⟩); (case ua5 => exact rfl); (case ua6 => exact rfl); (case ua7 => exact rfl)); (intro h' F' N'))
  obtain ⟨hd0, dp0, fr0, gd0, un0⟩ := A
  obtain rfl : hd0 = none := R.hd
  have T := G.T
  have hun : un0 + 10 * 30 + 10 < cLine := R.un
  have F := H.F
  have N := H.N
  change wpAny (model _ _) (Around.deeper _ (envOfC _ ⟨_, _, _, _, _⟩ _ _ _)) (execs (Stmt.Assign _ _ _ :: rest) (envOfC _ ⟨_, _, _, _, _⟩ _ _ _)) _ _ _
  have X := G.K; revert X; k_fill; intro X
  k_steps
  (rename Fr _ _ _ _ => F0); (rename News _ _ _ _ => N0)
  refine CompGo.lst (c₀ := []) (fun i ys c => c = [] ∧ ∃ fl : List (Str × Tok), ys = strsV fl ∧ fl.map (·.1) = (ws.take i).map (fun x : Two => fileP u2 u3 x.a.toNat x.b.toNat)) F0 N0 rfl ⟨_, News.get N0 (by k_mem), rfl, _, rfl⟩ (by simp; unfold sizeLine; omega) (fun _ _ _ _ _ _ hit h => go_tup hit h)
    (fun h' k N => ⟨_, News.get N (by k_mem), rfl, _, rfl⟩) ⟨rfl, [], rfl, rfl⟩ ?_ ?_
  · intro I C D cx q1 q2 q3 i v ys oI oC m₂ cells nw h tk dr E' hi hv hJ hoC hcc F N ap
    obtain ⟨hIC, hnC⟩ := turn_off (ys := ys) q1 q2 q3 hcc ap
    obtain ⟨rfl, fl, rfl, hfl⟩ := hJ
    obtain ⟨x, hr, rfl⟩ := rows_at hv
    have hx0 := hws x (List.mem_of_getElem? hr)
    have hT9 := hT x (List.mem_of_getElem? hr)
    obtain rfl := hcc
    have hn4 : x.a.toNat < 4 := by omega
    have hs4 : x.b.toNat < 4 := by omega
    obtain ⟨t7, hF8⟩ := strs_at hfs (fold_get u2 h2 u3 h3 x.a.toNat hn4)
    have hl9 := fold_len u2 h2 u3 h3 x.a.toNat hn4
    have hn9 := nmp_len x.b.toNat hs4
    dsimp only
    try k_fold
    k_steps
    refine' TurnEnd.mk (cells := []) ?te1 ?te2 ?te3 ?te4 ?te5 ?te6
    (case te1 => assumption)
    (case te2 => exact rfl)
    (case te3 => assumption)
    (case te4 => walk_at "te4")
    (case te5 => exact ap)
    (case te6 => exact JC.mk (c := []) ⟨rfl, _, strs_snoc, take_map hfl hr (congrArg (joinS _) (file_nm _ hs4))⟩)
  · intro D h' tk dr ys nw hD F N ap hJ
    obtain ⟨rfl, fl, rfl, hfl⟩ := hJ
    simp only [List.nil_append] at N ap
    have z5 : @Ne Nat (L + 1 + 1 + 1 + 1 + 1) D := ap _ (.head _)
    have D4 := nodup_head (x := (D, lst (strsV fl))) H.D ap
    clear N0 F0 ap
    dsimp only
    k_steps
    (rename Fr _ _ _ _ => F9); (rename News _ _ _ _ => N9)
    exact hgo _ _ _ _ _ fl (by assumption) (hfl.trans (by rw [List.take_of_length_le]; simp)) ⟨F9, N9, D4⟩
theorem law_292 {o1 o4 o6 : Obj} {SL FL : Addr} {sl : List (Int × Tok)} {fs : List (Str × Tok)} {nf nd u2 u3 : Nat} (h2 : u2 < 2) (h3 : u3 < 3) (d1 : o1.data = .cell (some (.ref SL))) (d4 : o4.data = .cell (some (.ref FL))) (d6 : o6.data = .cell none)
    (hfs : fs.map (·.1) = foldL u2 u3) (hsl : ∀ x ∈ sl, 1 ≤ x.1 ∧ x.1 ≤ 3) (hs0 : sl ≠ []) (hs2 : sl.length ≤ 2) (G : Gnd w loose mean mg mb g) (R : Room A 30)
    (H : Led g L m hp ((L + 1 + 1 + 1 + 1 + 1 + 1, o6) :: (L + 1, o1) :: (L + 1 + 1 + 1 + 1, o4) :: (SL, listOf (intsV sl).toArray nd) :: (FL, listOf (strsV fs).toArray nf) :: t))
    (hgo : ∀ (h' : Heap) (tk' : Nat) (dr' : Drawn) (o6' : Obj) (D : Addr) (bs : List (Str × Tok)) (x dx MS DD IG : Addr) (t1 t2 t3 tt : Tok) (oM oI : Obj) (l : List (Str × Tok)) (n : Nat), o6'.data = .cell (some (.ref x)) →
      IgnAt w (fun _ => false) (sl.map fun x => foldK u2 u3 x.1.toNat) x dx MS DD IG t1 t2 t3 oM l n → oI.IsDictOf (strKind prg w) [(Str.ofString "<string>", .int 1 tt)] →
      Led g L m h' ((L + 1 + 1 + 1 + 1 + 1 + 1, o6') :: (ignLed w x dx MS DD IG t1 t2 t3 oM oI l ++ (D, lst (strsV bs)) :: (L + 1, o1) :: (L + 1 + 1 + 1 + 1, o4) :: (SL, listOf (intsV sl).toArray nd) :: (FL, listOf (strsV fs).toArray nf) :: t)) → LawGo w A L rest Q ⟨h', gs, dr', tk', os⟩) :
    LawGo w A L (lawSt 8 :: rest) Q ⟨hp, gs, dr, tk, os⟩ := by
  k_with_none
  k_with "execs cons" => (k_fold; (with_reducible refine PySem.wpAny_execs_cons ?_))
  k_with "call ref" => ((with_reducible show wpAny _ _ (call (Value.ref 228) _) _ _ _); refine' join_x4 _ _ _ _ _ _ _ _ ?h0 ?h1 ?h2 _ _ _ _ _ _ _ _ ?kG ?kR ?_; (case h0 => first | assumption | (simp only [Str.length_append]; omega) | omega); (case h1 => first | assumption | (simp only [Str.length_append]; omega) | omega); (case h2 => first | assumption | (simp only [Str.length_append]; omega) | omega); (case kG => exact Gnd.keeps (by assumption) (Fr.keep (by assumption))); (case kR => first | assumption | exact Room.deeper (by assumption) _ | exact Room.less (Room.deeper (by assumption) _) (by decide)); (intro t' h' tk' k'; (rename Fr _ _ _ _ => F0); (rename News _ _ _ _ => N0); have F' := Fr.keeps F0 k'; have N' := News.grown N0 k'; clear F0 N0; (try dsimp only)))
  k_with "call ref" => ((with_reducible show wpAny _ _ (call (Value.ref 180) _) _ _ _); refine ign_call (fun x dx a b => init1_c w x dx D bs (strsV bs).length (unF u2 u3) a b hb0 hb2 hbd) G ?kR H9 ?_; (case kR => exact Room.less (Room.deeper (by assumption) _) (by decide)); (intro x dx MS DD IG t1 t2 t3 tt oM oI l n h' tk' dr' H8 I8 d8; have H7 := Led.perm H8 (List.perm_middle (l₁ := ignLed w x dx MS DD IG t1 t2 t3 oM oI l ++ [(D, lst (strsV bs))])).symm; have F' := H7.F; have N' := H7.N; have ho7 := H7.off))
  k_with "eval ListComp" => (k_here; k_dflt (refine comp_ev none (by k_asm) (by rfl) (by rfl) (by decide) (by intro _ _; rfl) (by intro _; rfl) ?_))
  k_with "storeName" => ((with_reducible show wpAny _ _ (storeName (compEnvC _ _ _ _) _ _) _ _ _); k_here; k_dflt (refine' store_own ?so1 ?so2 ?so3 hIC hnC ?_ ?so4 ?so5; (case so4 => rfl); (case so5 => rfl); (case so1 => k_asm); (case so2 => k_asm); (case so3 => k_asm)); (intro h' oC' m' F' N' hC' hx' hy'))
  k_with "subscriptTail" => (k_here; k_dflt (refine' lst_item (l := FL) ?lj1 ?lj4 ?lj2 ?lj3 hF8 ?_; (case lj1 => k_asm); (case lj4 => k_mem); (case lj2 => omega); (case lj3 => omega)))
  obtain ⟨hd0, dp0, fr0, gd0, un0⟩ := A
  obtain rfl : hd0 = none := R.hd
  have T := G.T
  have hun : un0 + 10 * 30 + 10 < cLine := R.un
  have F := H.F
  have N := H.N
  change wpAny (model _ _) (Around.deeper _ (envOfC _ ⟨_, _, _, _, _⟩ _ _ _)) (execs (Stmt.Assign _ _ _ :: rest) (envOfC _ ⟨_, _, _, _, _⟩ _ _ _)) _ _ _
  have X := G.K; revert X; k_fill; intro X
  k_steps
  (rename Fr _ _ _ _ => F0); (rename News _ _ _ _ => N0)
  refine CompGo.lst (c₀ := []) (fun i ys c => c = [] ∧ ∃ bs : List (Str × Tok), ys = strsV bs ∧ bs.map (·.1) = (sl.take i).map (fun x : Int × Tok => xF u2 u3 x.1.toNat)) F0 N0 rfl ⟨_, News.get N0 (by k_mem), rfl, _, rfl⟩ (by simp; unfold sizeLine; omega) (fun _ _ _ _ _ _ _ h => go_name h)
    (fun h' k N => ⟨_, News.get N (by k_mem), rfl, _, rfl⟩) ⟨rfl, [], rfl, rfl⟩ ?_ ?_
  · intro I C D cx q1 q2 q3 i v ys oI oC m₂ cells nw h tk dr E' hi hv hJ hoC hcc F N ap
    obtain ⟨hIC, hnC⟩ := turn_off (ys := ys) q1 q2 q3 hcc ap
    obtain ⟨rfl, bs, rfl, hbs⟩ := hJ
    obtain ⟨x, hr, rfl⟩ := rows_at hv
    have hx0 := hsl x (List.mem_of_getElem? hr)
    obtain rfl := hcc
    have hn4 : x.1.toNat < 4 := by omega
    obtain ⟨t7, hF8⟩ := strs_at hfs (fold_get u2 h2 u3 h3 x.1.toNat hn4)
    dsimp only
    try k_fold
    k_steps
    refine' TurnEnd.mk (cells := []) ?te1 ?te2 ?te3 ?te4 ?te5 ?te6
    (case te1 => assumption)
    (case te2 => exact rfl)
    (case te3 => assumption)
    (case te4 => walk_at "te4")
    (case te5 => exact ap)
    (case te6 => exact JC.mk (c := []) ⟨rfl, _, strs_snoc, take_map hbs hr rfl⟩)
  · intro D h' tk dr ys nw hD F N ap hJ
    obtain ⟨rfl, bs, rfl, hbs⟩ := hJ
    simp only [List.nil_append] at N ap
    have hbs' : bs.map (·.1) = sl.map (fun x : Int × Tok => xF u2 u3 x.1.toNat) := hbs.trans (by rw [List.take_of_length_le]; simp)
    clear hbs
    have hbl : bs.length = sl.length := by simpa using congrArg List.length hbs'
    have hb0 : bs ≠ [] := fun e => hs0 (List.eq_nil_of_length_eq_zero (by rw [← hbl, e]; rfl))
    have hb2 : bs.length ≤ 100 := by omega
    have hun : ∀ x ∈ sl, unF u2 u3 (xF u2 u3 x.1.toNat) = foldK u2 u3 x.1.toNat ∧ DirOk (xF u2 u3 x.1.toNat) (foldK u2 u3 x.1.toNat) := fun x hx => by
      have := hsl x hx
      obtain ⟨j, hj, e⟩ : ∃ j, j < 3 ∧ x.1.toNat = j + 1 := ⟨x.1.toNat - 1, by omega, by omega⟩
      rw [e]
      exact ⟨un_is u2 h2 u3 h3 j hj, dir_ok h2 h3 hj⟩
    have hbd : ∀ b ∈ bs, DirOk b.1 (unF u2 u3 b.1) := fun b hb => by
      have := List.mem_map_of_mem (f := Prod.fst) hb
      rw [hbs'] at this
      obtain ⟨x, hx, e⟩ := List.mem_map.mp this
      have := hun x hx
      rw [← e, this.1]; exact this.2
    have hds : bs.map (fun b => unF u2 u3 b.1) = sl.map fun x => foldK u2 u3 x.1.toNat := by
      have e := congrArg (List.map (unF u2 u3)) hbs'
      rw [List.map_map, List.map_map] at e
      exact e.trans (List.map_congr_left fun x hx => (hun x hx).1)
    have H9 : Led g L m h' ((D, lst (strsV bs)) :: (L + 1 + 1 + 1 + 1 + 1 + 1, o6) :: (L + 1, o1) :: (L + 1 + 1 + 1 + 1, o4) :: (SL, listOf (intsV sl).toArray nd) :: (FL, listOf (strsV fs).toArray nf) :: t) := ⟨F, N, nodup_head (x := (D, lst (strsV bs))) H.D ap⟩
    clear N0 F0 ap
    dsimp only
    k_steps
    (rename Fr _ _ _ _ => F9); (rename News _ _ _ _ => N9)
    rw [hds] at I8
    exact hgo _ _ _ _ _ bs _ _ _ _ _ _ _ _ _ _ _ _ _ (by assumption) I8 d8 (H7.to F9 N9 rfl)
theorem strs_any {bs : List (Str × Tok)} {l : List Nat} (h : bs.map (·.1) = l.map fun i => modL.getD i (Str.ofString "")) : (fun k : Str => bs.any fun b => b.1 == k) = fun k => l.any fun i => modL.getD i (Str.ofString "") == k := funext fun k => by
  have e := congrArg (List.any · (· == k)) h
  rw [List.any_map, List.any_map] at e; exact e
theorem law_293 {o2 o7 : Obj} {b : Int} {tb : Tok} (hb : 0 ≤ b ∧ b < 8) (d2 : o2.data = .cell (some (.int b tb))) (d7 : o7.data = .cell none) (G : Gnd w loose mean mg mb g) (R : Room A 30)
    (H : Led g L m hp ((L + 1 + 1 + 1 + 1 + 1 + 1 + 1, o7) :: (L + 1 + 1, o2) :: t))
    (hgo : ∀ (h' : Heap) (tk' : Nat) (dr' : Drawn) (o7' : Obj) (D : Addr) (bs : List (Str × Tok)) (x dx MS DD IG : Addr) (t1 t2 t3 tt : Tok) (oM oI : Obj) (l : List (Str × Tok)) (n : Nat), o7'.data = .cell (some (.ref x)) →
      IgnAt w (fun k => ((List.range 3).filter fun i : Nat => bitOn b i).any fun i => modL.getD i (Str.ofString "") == k) [] x dx MS DD IG t1 t2 t3 oM l n → oI.IsDictOf (strKind prg w) [(Str.ofString "<string>", .int 1 tt)] →
      Led g L m h' ((L + 1 + 1 + 1 + 1 + 1 + 1 + 1, o7') :: (ignLed w x dx MS DD IG t1 t2 t3 oM oI l ++ (D, lst (strsV bs)) :: (L + 1 + 1, o2) :: t)) → LawGo w A L rest Q ⟨h', gs, dr', tk', os⟩) :
    LawGo w A L (lawSt 9 :: rest) Q ⟨hp, gs, dr, tk, os⟩ := by
  k_with_none
  k_with "execs cons" => (k_fold; (with_reducible refine PySem.wpAny_execs_cons ?_))
  k_with "call ref" => ((with_reducible show wpAny _ _ (call (Value.ref 180) _) _ _ _); refine ign_call (fun x dx a b => init2_c w x dx D bs (strsV bs).length a b hb2) G ?kR H9 ?_; (case kR => exact Room.less (Room.deeper (by assumption) _) (by decide)); (intro x dx MS DD IG t1 t2 t3 tt oM oI l n h' tk' dr' H8 I8 d8; have H7 := Led.perm H8 (List.perm_middle (l₁ := ignLed w x dx MS DD IG t1 t2 t3 oM oI l ++ [(D, lst (strsV bs))])).symm; have F' := H7.F; have N' := H7.N; have ho7 := H7.off))
  k_with "eval ListComp" => (k_here; k_dflt (refine comp_ev none (by k_asm) (by rfl) (by rfl) (by decide) (by intro _ _; rfl) (by intro _; rfl) ?_))
  k_with "storeName" => ((with_reducible show wpAny _ _ (storeName (compEnvC _ _ _ _) _ _) _ _ _); k_here; k_dflt (refine' store_own ?so1 ?so2 ?so3 hIC hnC ?_ ?so4 ?so5; (case so4 => rfl); (case so5 => rfl); (case so1 => k_asm); (case so2 => k_asm); (case so3 => k_asm)); (intro h' oC' m' F' N' hC' hx' hy'))
  k_with "subscriptTail" => (k_here; k_dflt (refine' lst_itemE ?lk1 ?lk4 (Int.natCast_nonneg _) ?lk3 (three_at hi3) ?_; (case lk1 => k_asm); (case lk4 => exact .head _); (case lk3 => omega)); (intro x9 hx9; obtain ⟨t9, e9⟩ := hx9; subst e9))
  obtain ⟨hd0, dp0, fr0, gd0, un0⟩ := A
  obtain rfl : hd0 = none := R.hd
  have T := G.T
  have hun : un0 + 10 * 30 + 10 < cLine := R.un
  have F := H.F
  have N := H.N
  change wpAny (model _ _) (Around.deeper _ (envOfC _ ⟨_, _, _, _, _⟩ _ _ _)) (execs (Stmt.Assign _ _ _ :: rest) (envOfC _ ⟨_, _, _, _, _⟩ _ _ _)) _ _ _
  have X := G.K; revert X; k_fill; intro X
  k_steps
  (rename Fr _ _ _ _ => F0); (rename News _ _ _ _ => N0)
  refine CompGo.tup (c₀ := []) (fun i ys c => c = [] ∧ ∃ bs : List (Str × Tok), ys = strsV bs ∧ bs.map (·.1) = ((List.range i).filter fun i : Nat => bitOn b i).map (fun i => modL.getD i (Str.ofString ""))) F0 N0 rfl ⟨_, News.get N0 (by k_mem), rfl, _, rfl⟩ (Nat.le_of_ble_eq_true rfl) (fun _ _ _ _ _ _ _ h => go_name h)
    (fun h' k N => ⟨_, News.get N (by k_mem), rfl, _, rfl⟩) ⟨rfl, [], rfl, rfl⟩ ?_ ?_
  · intro I C D cx q1 q2 q3 i v ys oI oC m₂ cells nw h tk dr E' hi hv hJ hoC hcc F N ap
    obtain ⟨hIC, hnC⟩ := turn_off (ys := ys) q1 q2 q3 hcc ap
    obtain ⟨rfl, bs, rfl, hbs⟩ := hJ
    obtain ⟨hi3, t8, rfl⟩ := tri_at hv
    obtain rfl := hcc
    dsimp only
    try k_fold
    k_steps
    ·
      refine' TurnEnd.mk (cells := []) ?te1 ?te2 ?te3 ?te4 ?te5 ?te6
      (case te1 => assumption)
      (case te2 => exact rfl)
      (case te3 => assumption)
      (case te4 => walk_at "te4")
      (case te5 => exact ap)
      (case te6 => exact JC.mk (c := []) ⟨rfl, _, strs_snoc, by rw [List.map_append, hbs]; exact rfilt_yes (beq_iff_eq.mpr (by assumption))⟩)
    ·
      refine' TurnEnd.mk (cells := []) ?te1 ?te2 ?te3 ?te4 ?te5 ?te6
      (case te1 => assumption)
      (case te2 => exact rfl)
      (case te3 => assumption)
      (case te4 => walk_at "te4")
      (case te5 => exact ap)
      (case te6 => exact JC.mk (c := []) ⟨rfl, bs, rfl, by rw [hbs]; exact rfilt_no (beq_eq_false_iff_ne.mpr (by assumption))⟩)
  · intro D h' tk dr ys nw hD F N ap hJ
    obtain ⟨rfl, bs, rfl, hbs⟩ := hJ
    simp only [List.nil_append] at N ap
    have hb2 : bs.length ≤ 100 := by
      have e := congrArg List.length hbs
      rw [List.length_map, List.length_map] at e
      have := List.length_filter_le (fun i : Nat => bitOn b i) (List.range 3)
      rw [List.length_range] at this
      exact Nat.le_trans (Nat.le_of_eq e) (Nat.le_trans this (by decide))
    have H9 : Led g L m h' ((D, lst (strsV bs)) :: (L + 1 + 1 + 1 + 1 + 1 + 1 + 1, o7) :: (L + 1 + 1, o2) :: t) := ⟨F, fun p hp => N p (by
      rcases List.mem_cons.mp hp with rfl | hp
      · exact .head _
      · exact .tail _ (.tail _ hp)), nodup_head (x := (D, lst (strsV bs))) H.D fun p hp => ap p (.tail _ hp)⟩
    clear N0 F0 ap
    dsimp only
    k_steps
    (rename Fr _ _ _ _ => F9); (rename News _ _ _ _ => N9)
    rw [strs_any hbs] at I8
    exact hgo _ _ _ _ _ bs _ _ _ _ _ _ _ _ _ _ _ _ _ (by assumption) I8 d8 (H7.to F9 N9 rfl)
def MarkK (w : World) (P1 P2 : Str → Prop) (IG1 IG2 : Addr) (fl : List (Str × Tok)) (i : Nat) (ys : List Value) (c : List (Addr × Obj)) : Prop :=
  ∃ oI1 oI2 kvs1 kvs2 ul, c = [(IG1, oI1), (IG2, oI2)] ∧ oI1.IsDictOf (strKind prg w) kvs1 ∧ oI2.IsDictOf (strKind prg w) kvs2 ∧ (kvs1.length ≤ 1 + i ∧ kvs2.length ≤ 1 + i) ∧ GoodK kvs1 P1 ∧ GoodK kvs2 P2 ∧ ys = intsV ul ∧ ul.map (·.1) = (fl.take i).map fun p : Str × Tok => sayI (P1 p.1) + sayI (P2 (stemF (baseF p.1)))
theorem law_294 {o5 o6 o7 o8 : Obj} {FN : Addr} {fl : List (Str × Tok)} {u2 u3 : Nat} (h2 : u2 < 2) (h3 : u3 < 3) {x1 dx1 MS1 DD1 IG1 x2 dx2 MS2 DD2 IG2 : Addr} {a1 a2 a3 b1 b2 b3 tt1 tt2 : Tok} {oM1 oI1 oM2 oI2 : Obj} {l1 l2 : List (Str × Tok)} {n1 n2 : Nat} {ds : List Str} {S2 : Str → Bool}
    (I1 : IgnAt w (fun _ => false) ds x1 dx1 MS1 DD1 IG1 a1 a2 a3 oM1 l1 n1) (I2 : IgnAt w S2 [] x2 dx2 MS2 DD2 IG2 b1 b2 b3 oM2 l2 n2) (e1 : oI1.IsDictOf (strKind prg w) [(Str.ofString "<string>", .int 1 tt1)]) (e2 : oI2.IsDictOf (strKind prg w) [(Str.ofString "<string>", .int 1 tt2)])
    (hds : ∀ d ∈ ds, d.length ≤ 4096) (hdl : ds.length ≤ 1000) (hS2 : ∀ k, S2 k = true → k.length ≤ 4096) (hfl : ∀ r ∈ fl, ∃ f s, f < 4 ∧ s < 4 ∧ r.1 = fileP u2 u3 f s) (hfn : fl.length ≤ 12)
    (d5 : o5.data = .cell (some (.ref FN))) (d6 : o6.data = .cell (some (.ref x1))) (d7 : o7.data = .cell (some (.ref x2))) (d8 : o8.data = .cell none) (G : Gnd w loose mean mg mb g) (R : Room A 30)
    (m1 : (MS1, oM1) ∈ t) (m2 : (DD1, lst (strValues l1)) ∈ t) (m3 : (MS2, oM2) ∈ t) (m4 : (DD2, lst (strValues l2)) ∈ t)
    (H : Led g L m hp ((IG1, oI1) :: (IG2, oI2) :: (L + 1 + 1 + 1 + 1 + 1 + 1 + 1 + 1, o8) :: (L + 1 + 1 + 1 + 1 + 1, o5) :: (L + 1 + 1 + 1 + 1 + 1 + 1, o6) :: (L + 1 + 1 + 1 + 1 + 1 + 1 + 1, o7) :: (FN, lst (strsV fl)) :: (x1, instObj 180 dx1) :: (dx1, dictOf (ignEs w a1 a2 a3 MS1 DD1 IG1) 3) :: (x2, instObj 180 dx2) :: (dx2, dictOf (ignEs w b1 b2 b3 MS2 DD2 IG2) 3) :: t))
    (hgo : ∀ (h' : Heap) (tk' : Nat) (dr' : Drawn) (o8' : Obj) (D : Addr) (ul : List (Int × Tok)), o8'.data = .cell (some (.ref D)) →
      ul.map (·.1) = fl.map (fun p : Str × Tok => sayI (Hit (fun _ => false) ds p.1 p.1) + sayI (Hit S2 [] strStr (stemF (baseF p.1)))) →
      Led g L m h' ((D, lst (intsV ul)) :: (L + 1 + 1 + 1 + 1 + 1 + 1 + 1 + 1, o8') :: (L + 1 + 1 + 1 + 1 + 1, o5) :: (L + 1 + 1 + 1 + 1 + 1 + 1, o6) :: (L + 1 + 1 + 1 + 1 + 1 + 1 + 1, o7) :: (FN, lst (strsV fl)) :: (x1, instObj 180 dx1) :: (dx1, dictOf (ignEs w a1 a2 a3 MS1 DD1 IG1) 3) :: (x2, instObj 180 dx2) :: (dx2, dictOf (ignEs w b1 b2 b3 MS2 DD2 IG2) 3) :: t) → LawGo w A L rest Q ⟨h', gs, dr', tk', os⟩) :
    LawGo w A L (lawSt 10 :: rest) Q ⟨hp, gs, dr, tk, os⟩ := by
  have hA1 := H.off
  have hA2 := H.drop1.off
  have hA8 := H.drop1.drop1.off
  k_with_none
  k_with "execs cons" => (k_fold; (with_reducible refine PySem.wpAny_execs_cons ?_))
  k_with "call ref" => ((with_reducible show wpAny _ _ (call (Value.ref 191) _) _ _ _); refine' modname_p _ _ _ _ _ _ ?h0 ?h1 ?h2 ?h3 _ _ _ _ _ _ _ _ ?kG ?kR ?_; (case h0 => first | assumption | (simp only [Str.length_append]; omega) | omega); (case h1 => first | assumption | (simp only [Str.length_append]; omega) | omega); (case h2 => first | assumption | (simp only [Str.length_append]; omega) | omega); (case h3 => first | assumption | (simp only [Str.length_append]; omega) | omega); (case kG => exact Gnd.keeps (by assumption) (Fr.keep (by assumption))); (case kR => first | assumption | exact Room.deeper (by assumption) _ | exact Room.less (Room.deeper (by assumption) _) (by decide)); (intro t' h' tk' k'; (rename Fr _ _ _ _ => F0); (rename News _ _ _ _ => N0); have F' := Fr.keeps F0 k'; have N' := News.grown N0 k'; clear F0 N0; (try dsimp only)))
  k_with "call ref" => (first
    | ((with_reducible show wpAny _ _ (call (Value.ref 177) [Value.ref x1, _, _]) _ _ _); refine' names_call (P := fun p => Hit (fun _ => false) ds p p) I1 c1 ?nc1 ?nc2 ?nc3 (fun k e => Bool.noConfusion e) hds hdl Iff.rfl c5 hpn G ?nc4 ?nc5 ?nc6 ?nc7 ?nc8 ?_; (case nc1 => omega); (case nc2 => omega); (case nc3 => omega); (case nc4 => exact Room.less (Room.deeper (by assumption) _) (by decide)); (case nc5 => k_asm); (case nc6 => k_asm); (case nc7 => exact .tail zI1 (.tail zC1 (.tail zD1 (.head hB1)))); (case nc8 => exact (by (repeat' (first | exact List.forall_mem_nil _ | refine List.forall_mem_cons.mpr ⟨(by (repeat' (first | exact List.Mem.head _ | exact m1 | exact m2 | exact m3 | exact m4 | refine List.mem_cons_of_mem _ ?_))), ?_⟩)))); (intro u9 t9 oI1' kvs1' h' tk' dr' s9 c1' k1' g1' F' N'; (try dsimp only at N')))
    | ((with_reducible show wpAny _ _ (call (Value.ref 177) [Value.ref x2, _, _]) _ _ _); refine' names_call (P := fun md => Hit S2 [] strStr md) I2 c2 ?nd1 ?nd2 ?nd3 hS2 (fun d hd => by cases hd) (Nat.zero_le _) (hit_nil) c6 hsn G ?nd4 ?nd5 ?nd6 ?nd7 ?nd8 ?_; (case nd1 => omega); (case nd2 => omega); (case nd3 => exact hsl); (case nd4 => exact Room.less (Room.deeper (by assumption) _) (by decide)); (case nd5 => k_asm); (case nd6 => k_asm); (case nd7 => exact .tail zI2 (.tail zC2 (.tail zD2 (.tail z12 (.head hA2))))); (case nd8 => exact (by (repeat' (first | exact List.forall_mem_nil _ | refine List.forall_mem_cons.mpr ⟨(by (repeat' (first | exact List.Mem.head _ | exact m1 | exact m2 | exact m3 | exact m4 | refine List.mem_cons_of_mem _ ?_))), ?_⟩)))); (intro u8 t8 oI2' kvs2' h' tk' dr' s8 c2' k2' g2' F' N'; (try dsimp only at N'))))
  k_with "exec Assign cons ListComp" => (refine PySem.wpAny_Assign_Name ?_ (by kernel_rfl))
  k_with "eval ListComp" => (k_here; k_dflt (refine comp_ev none (by k_asm) (by rfl) (by rfl) (by decide) (by intro _ _; rfl) (by intro _; rfl) ?_))
  k_with "storeName" => ((with_reducible show wpAny _ _ (storeName (compEnvC _ _ _ _) _ _) _ _ _); k_here; k_dflt (refine' store_own ?so1 ?so2 ?so3 hIC hnC ?_ ?so4 ?so5; (case so4 => rfl); (case so5 => rfl); (case so1 => k_asm); (case so2 => k_asm); (case so3 => k_asm)); (intro h' oC' m' F' N' hC' hx' hy'))
  obtain ⟨hd0, dp0, fr0, gd0, un0⟩ := A
  obtain rfl : hd0 = none := R.hd
  have T := G.T
  have hun : un0 + 10 * 30 + 10 < cLine := R.un
  have F := H.F
  have N := H.N
  change wpAny (model _ _) (Around.deeper _ (envOfC _ ⟨_, _, _, _, _⟩ _ _ _)) (execs (Stmt.Assign _ _ _ :: rest) (envOfC _ ⟨_, _, _, _, _⟩ _ _ _)) _ _ _
  have X := G.K; revert X; k_fill; intro X
  k_steps
  (rename Fr _ _ _ _ => F0); (rename News _ _ _ _ => N0)
  refine CompGo.lst (c₀ := [_, _]) (MarkK w (fun p => Hit (fun _ => false) ds p p) (fun md => Hit S2 [] strStr md) IG1 IG2 fl) F0 N0 rfl ⟨_, News.get N0 (by k_mem), rfl, _, rfl⟩ (by simp; unfold sizeLine; omega) (fun _ _ _ _ _ _ _ h => go_name h)
    (fun h' k N => ⟨_, News.get N (by k_mem), rfl, _, rfl⟩) ⟨_, _, _, _, [], rfl, e1, e2, ⟨Nat.le_refl _, Nat.le_refl _⟩, goodK_0, goodK_0, rfl, rfl⟩ ?_ ?_
  · intro I C D cx q1 q2 q3 i v ys oI oC m₂ cells nw h tk dr E' hi hv hJ hoC hcc F N ap
    obtain ⟨hIC, hnC⟩ := turn_off (ys := ys) q1 q2 q3 hcc ap
    cases hJ with
    | mk hJ =>
    obtain ⟨oJ1, oJ2, kvs1, kvs2, ul, rfl, c1, c2, ⟨c3, c4⟩, c5, c6, rfl, hul⟩ := hJ
    obtain ⟨⟨pth, tp⟩, hr, rfl⟩ := rows_at hv
    obtain ⟨f, s, hf, hs, e⟩ := hfl _ (List.mem_of_getElem? hr)
    obtain rfl : pth = fileP u2 u3 f s := e
    obtain ⟨hpl, hpn⟩ := file_ok h2 h3 hf hs
    obtain ⟨hsl, hsn⟩ := stem_ok s hs
    obtain rfl := hcc
    have ap1 := ap (IG1, oJ1) (.head _)
    have ap2 := ap (IG2, oJ2) (.tail _ (.head _))
    have zI1 : I ≠ IG1 := fun e => ap1 (e ▸ .head _)
    have zC1 : C ≠ IG1 := fun e => ap1 (e ▸ .tail _ (.head _))
    have zD1 : D ≠ IG1 := fun e => ap1 (e ▸ .tail _ (.tail _ (.head _)))
    have zI2 : I ≠ IG2 := fun e => ap2 (e ▸ .head _)
    have zC2 : C ≠ IG2 := fun e => ap2 (e ▸ .tail _ (.head _))
    have zD2 : D ≠ IG2 := fun e => ap2 (e ▸ .tail _ (.tail _ (.head _)))
    have z12 : IG1 ≠ IG2 := Ne.symm (hA1 (IG2, oI2) (.head _))
    have hB1 : ∀ p ∈ (IG2, oJ2) :: _, p.1 ≠ IG1 := fun p hp => (List.mem_cons.mp hp).elim (fun e => e ▸ hA1 (IG2, oI2) (.head _)) fun hp => hA1 p (.tail _ hp)
    have hlt : i < fl.length := by simpa using hi
    simp only [List.cons_append, List.nil_append] at N
    dsimp only
    try k_fold
    k_steps
    refine' TurnEnd.mk (cells := []) ?te1 rfl ?te3 ?te4 ?te5 (JC.mk (c := [(IG1, oI1'), (IG2, oI2')]) ⟨oI1', oI2', kvs1', kvs2', _, rfl, c1', c2', ⟨by omega, by omega⟩, g1', g2', intsV_snoc, take_map hul hr (by rw [s9.is, s8.is, ← stem_is h2 h3 hf hs])⟩)
    (case te1 => assumption)
    (case te3 => assumption)
    (case te4 => exact N')
    (case te5 => exact fun p hp => (List.mem_cons.mp hp).elim (fun e => e ▸ ap1) fun hp => (List.mem_cons.mp hp).elim (fun e => e ▸ ap2) fun hp => ap p (.tail _ (.tail _ hp)))
  · intro D h' tk dr ys nw hD F N ap hJ
    cases hJ with
    | mk hJ =>
    obtain ⟨oJ1, oJ2, kvs1, kvs2, ul, rfl, c1, c2, ⟨c3, c4⟩, c5, c6, rfl, hul⟩ := hJ
    have z8 : @Ne Nat (L + 1 + 1 + 1 + 1 + 1 + 1 + 1 + 1) D := ap _ (.tail _ (.tail _ (.head _)))
    have D4 := nodup_head (x := (D, lst (intsV ul))) H.drop1.drop1.D fun p hp => ap p (.tail _ (.tail _ hp))
    replace N := news_sub3 (news_sub3 N)
    clear N0 F0 ap
    dsimp only
    k_steps
    (rename Fr _ _ _ _ => F9); (rename News _ _ _ _ => N9)
    exact hgo _ _ _ _ _ ul (by assumption) (hul.trans (by rw [List.take_of_length_le]; simp)) ⟨F9, N9, D4⟩
theorem law_295 {o9 : Obj} (G : Gnd w loose mean mg mb g) (R : Room A 30) (H : Led g L m hp ((L + 1 + 1 + 1 + 1 + 1 + 1 + 1 + 1 + 1, o9) :: t)) (d9 : o9.data = .cell none)
    (hgo : ∀ (h' : Heap) (tk' : Nat) (o9' : Obj) (D : Addr), Led g L m h' ((D, listOf #[] 0) :: (L + 1 + 1 + 1 + 1 + 1 + 1 + 1 + 1 + 1, o9') :: t) → o9'.data = .cell (some (.ref D)) → LawGo w A L rest Q ⟨h', gs, dr, tk', os⟩) :
    LawGo w A L (lawSt 11 :: rest) Q ⟨hp, gs, dr, tk, os⟩ := by
  have ht := H.off
  k_with_none
  k_with "execs cons" => (k_fold; (with_reducible refine PySem.wpAny_execs_cons ?_))
  obtain ⟨hd0, dp0, fr0, gd0, un0⟩ := A
  obtain rfl : hd0 = none := R.hd
  have T := G.T
  have hun : un0 + 10 * 30 + 10 < cLine := R.un
  have F := H.F
  have N := H.N
  change wpAny (model _ _) (Around.deeper _ (envOfC _ ⟨_, _, _, _, _⟩ _ _ _)) (execs (Stmt.Assign _ _ _ :: rest) (envOfC _ ⟨_, _, _, _, _⟩ _ _ _)) _ _ _
  have X := G.K; revert X; k_fill; intro X
  k_steps
  (rename Fr _ _ _ _ => F9); (rename News _ _ _ _ => N9)
  exact hgo _ _ _ _ (H.to1 F9 N9 (ltAll (by assumption)) rfl) (by assumption)
def DueK (DU : Addr) (ws : List Two) (F : Nat → Nat → Int) (i : Nat) (m : Str → Option Value) (c : List (Addr × Obj)) : Prop :=
  ∃ (dl : List (Int × Tok)) (k : Nat), c = [(DU, listOf (intsV dl).toArray k)] ∧ dl.map (·.1) = (ws.take i).map fun x : Two => F x.a.toNat x.b.toNat
theorem push_ints {l : List (Int × Tok)} {x : Int} {t : Tok} : (intsV l).toArray.push (.int x t) = (intsV (l ++ [(x, t)])).toArray := by simp
theorem lie_is {u2 u3 f : Nat} {sl tl ll : List (Int × Tok)} (htl : tl.map (·.1) = [(f : Int), ((upK u2 u3 f : Nat) : Int), ((upK u2 u3 (upK u2 u3 f) : Nat) : Int)]) (hF : tl.filter (fun r : Int × Tok => (sl.map (·.1)).any (· == r.1)) = ll) : lieF u2 u3 sl f = ll.map (·.1) := by
  unfold lieF
  rw [← htl, List.filter_map, ← hF]; rfl
theorem due_yes {u2 u3 f s q : Nat} {sl : List (Int × Tok)} {b : Int} {l : List Int} (hl : lieF u2 u3 sl f = l) (h : ¬ l = []) (hq : q = [0,0,1,2].getD s 0) : 1 + Builtin.bitAnd (b.fdiv (2 ^ q)) 1 = dueF u2 u3 sl b f s := by
  unfold dueF
  rw [hl, ← hq, if_pos h]
theorem due_no {u2 u3 f s q : Nat} {sl : List (Int × Tok)} {b : Int} {l : List Int} (hl : lieF u2 u3 sl f = l) (h : l = []) (hq : q = [0,0,1,2].getD s 0) : 0 + Builtin.bitAnd (b.fdiv (2 ^ q)) 1 = dueF u2 u3 sl b f s := by
  unfold dueF
  rw [hl, ← hq, if_neg fun e => e h]
theorem law_296 {o1 o2 o3 o9 : Obj} {DU DL SL U : Addr} {ws : List Two} {sl ul : List (Int × Tok)} {nd nu u2 u3 : Nat} {b : Int} {tb : Tok} (h2 : u2 < 2) (h3 : u3 < 3) (hb : 0 ≤ b ∧ b < 8) (d1 : o1.data = .cell (some (.ref SL))) (d2 : o2.data = .cell (some (.int b tb))) (d3 : o3.data = .cell (some (.ref DL))) (d9 : o9.data = .cell (some (.ref DU)))
    (hu : ul.map (·.1) = (upL u2 u3).map fun x : Nat => (x : Int)) (hm : m (Str.ofString "ups") = some (.ref U)) (hws : ∀ x ∈ ws, In4 x.a ∧ In4 x.b) (hT : ∀ x ∈ ws, (x.T, x.obj) ∈ t) (hwl : ws.length ≤ 12) (hs2 : sl.length ≤ 2) (G : Gnd w loose mean mg mb g) (R : Room A 30)
    (H : Led g L m hp ((DU, listOf #[] 0) :: (L + 1 + 1 + 1 + 1 + 1 + 1 + 1 + 1 + 1, o9) :: (L + 1, o1) :: (L + 1 + 1, o2) :: (L + 1 + 1 + 1, o3) :: (DL, lst (twosV ws)) :: (SL, listOf (intsV sl).toArray nd) :: (U, listOf (intsV ul).toArray nu) :: t))
    (hgo : ∀ (h' : Heap) (tk' : Nat) (dr' : Drawn) (m' : Str → Option Value) (dl : List (Int × Tok)) (k : Nat), (∀ y, y ∉ [Str.ofString "f", Str.ofString "s", Str.ofString "lies"] → m' y = m y) → dl.map (·.1) = ws.map (fun x => dueF u2 u3 sl b x.a.toNat x.b.toNat) →
      Led g L m' h' ((DU, listOf (intsV dl).toArray k) :: (L + 1 + 1 + 1 + 1 + 1 + 1 + 1 + 1 + 1, o9) :: (L + 1, o1) :: (L + 1 + 1, o2) :: (L + 1 + 1 + 1, o3) :: (DL, lst (twosV ws)) :: (SL, listOf (intsV sl).toArray nd) :: (U, listOf (intsV ul).toArray nu) :: t) → LawGo w A L rest Q ⟨h', gs, dr', tk', os⟩) :
    LawGo w A L (lawSt 12 :: rest) Q ⟨hp, gs, dr, tk, os⟩ := by
  have hoff := H.off
  k_with_none
  k_with "execs cons" => (k_fold; (with_reducible refine PySem.wpAny_execs_cons ?_))
  k_with "exec For Tuple Name cons nil" => (k_here; k_dflt (refine for_exD (by k_asm) ?_))
  k_with "eval ListComp" => (k_here; k_dflt (refine comp_ev none (by k_asm) (by rfl) (by rfl) (by decide) (by intro _ _; rfl) (by intro _; rfl) ?_))
  k_with "storeName" => ((with_reducible show wpAny _ _ (storeName (compEnvC _ _ _ _) _ _) _ _ _); k_here; k_dflt (refine' store_own ?so1 ?so2 ?so3 hIC hnC ?_ ?so4 ?so5; (case so4 => rfl); (case so5 => rfl); (case so1 => k_asm); (case so2 => k_asm); (case so3 => k_asm)); (intro h' oC' m' F' N' hC' hx' hy'))
  k_with "assign Tuple" => (k_here; k_dflt (refine' unpackN_ (items := #[Value.int (f : Int) ta, Value.int (s : Int) tbx]) ?ua1 ?ua2 ?ua3 ?ua5 ?ua6 ?ua7 ?_; (case ua1 => k_asm); (case ua2 => k_asm); (case ua3 => exact ⟨_, News.get (by k_asm) (by (repeat' (first | exact hT9 | exact List.mem_append_left _ hT9 | refine List.mem_cons_of_mem _ ?_))), rfl, _, rfl⟩); (case ua5 => exact rfl); (case ua6 => exact rfl); (case ua7 => exact rfl)); (intro h' F' N'))
  k_with "subscriptTail" => (k_here; first
    | ((with_reducible show wpAny _ _ (subscriptTail _ _ (Value.ref U) (Value.int ((f : Nat) : Int) _)) _ _ _); k_dflt (refine' lst_item (l := U) ?li1 ?li4 (Int.natCast_nonneg _) ?li3 hU8 ?_; (case li1 => k_asm); (case li4 => k_mem); (case li3 => omega)))
    | ((with_reducible show wpAny _ _ (subscriptTail _ _ (Value.ref U) _) _ _ _); k_dflt (refine' lst_item (l := U) ?lj1 ?lj4 (Int.natCast_nonneg _) ?lj3 hU9 ?_; (case lj1 => k_asm); (case lj4 => k_mem); (case lj3 => omega)))
    | ((with_reducible show wpAny _ _ (subscriptTail _ _ _ (Value.int ((s : Nat) : Int) _)) _ _ _); k_dflt (refine' tup_itemE (k := s) ?lk1 ?lk4 ?lk2 ?lk3 (shift_at hs4) ?_; (case lk1 => k_asm); (case lk4 => exact .head _); (case lk2 => exact hs4); (case lk3 => omega)); (intro x9 hx9; obtain ⟨q9, t9, hq9, hq8, e9⟩ := hx9; subst e9)))
  k_with "compareOp NotEq ref ref" => (k_here; k_dflt (refine' ke_ne_ints (xs := intsV ll) (ys := []) ?en1 ?en2 (ints_are ll) .nil ?en3 ?_; (case en1 => exact ⟨_, News.get (by k_asm) (by k_mem), rfl, _, rfl⟩); (case en2 => exact ⟨_, News.get (by k_asm) (by k_mem), rfl, _, rfl⟩); (case en3 => (show un0 + 3 + 64 < cLine; omega))))
  k_with "call builtin:list.append" => (k_here; k_dflt (refine' append_K ?ap1 ?ap2 ?ap3 ?_ ?ap4; (case ap1 => k_asm); (case ap2 => k_asm); (case ap3 => k_upd); (case ap4 => exact hsz9)); (intro h' F' N'; (try k_sweep)))
  k_with "compareOp In int ref" => (k_here; k_dflt (refine' in_ints ?ki1 ?ki2 ?_; (case ki1 => k_asm); (case ki2 => k_mem)))
  k_with "eval Name" => (k_here; k_dflt (refine' nameX_L ?kl1 ?kl2 ?_ ?kl3 ?kl4; (case kl1 => k_asm); (case kl3 => rfl); (case kl4 => rfl); (case kl2 => first | exact rfl | exact (hm2 _ (by decide)).trans hm); k_whole))
  obtain ⟨hd0, dp0, fr0, gd0, un0⟩ := A
  obtain rfl : hd0 = none := R.hd
  have T := G.T
  have hun : un0 + 10 * 30 + 10 < cLine := R.un
  have F := H.F
  have N := H.N
  change wpAny (model _ _) (Around.deeper _ (envOfC _ ⟨_, _, _, _, _⟩ _ _ _)) (execs (Stmt.For _ _ _ _ _ :: rest) (envOfC _ ⟨_, _, _, _, _⟩ _ _ _)) _ _ _
  have X := G.K; revert X; k_fill; intro X
  k_steps
  (rename Fr _ _ _ _ => F0); (rename News _ _ _ _ => N0)
  refine ForGoD.lstJ (JF m [Str.ofString "f", Str.ofString "s", Str.ofString "lies"] _ (DueK DU ws (dueF u2 u3 sl b))) (fun i m nw h hJ N => by cases hJ; exact news_right N) rfl F0 N0 ⟨_, News.get N0 (by k_mem), rfl, _, rfl⟩ (fun _ _ _ _ _ _ hit h => go_tup hit h)
    (fun h' k N => ⟨_, News.get N (by k_mem), rfl, _, rfl⟩) (JF.mk (c := [(DU, listOf #[] 0)]) (fun _ _ => rfl) ⟨[], 0, rfl, rfl⟩) ?_ ?_
  · intro I s8 i v m2 nw oI h tk dr hi hv hJ F N ap
    cases hJ with
    | mk hm2 hK =>
    obtain ⟨dl, kd, rfl, hdl⟩ := hK
    obtain ⟨⟨XT, xa, ta, xb, tbx⟩, hr, rfl⟩ := two_at hv
    have hx0 := hws _ (List.mem_of_getElem? hr)
    have hT9 := hT _ (List.mem_of_getElem? hr)
    dsimp only at hx0 hT9
    obtain ⟨f, rfl⟩ : ∃ f : Nat, xa = (f : Int) := ⟨xa.toNat, (Int.toNat_of_nonneg hx0.1.1).symm⟩
    obtain ⟨s, rfl⟩ : ∃ s : Nat, xb = (s : Int) := ⟨xb.toNat, (Int.toNat_of_nonneg hx0.2.1).symm⟩
    have hf4 : f < 4 := Int.ofNat_lt.mp hx0.1.2
    have hs4 : s < 4 := Int.ofNat_lt.mp hx0.2.2
    have hup4 := up_lt u2 h2 u3 h3 f hf4
    obtain ⟨t8, hU8⟩ := intsV_at hu (up_get u2 h2 u3 h3 f hf4)
    obtain ⟨t9, hU9⟩ := intsV_at hu (up_get u2 h2 u3 h3 (upK u2 u3 f) hup4)
    have hdn : dl.length ≤ 12 := by
      have := congrArg List.length hdl
      rw [List.length_map, List.length_map, List.length_take] at this
      omega
    have hsz9 : (intsV dl).toArray.size ≤ sizeLine := by simp; unfold sizeLine; omega
    have z9 : @Ne Nat (L + 1 + 1 + 1 + 1 + 1 + 1 + 1 + 1 + 1) DU := hoff _ (.head _)
    have z1 : @Ne Nat (L + 1) DU := hoff _ (.tail _ (.head _))
    have z2 : @Ne Nat (L + 1 + 1) DU := hoff _ (.tail _ (.tail _ (.head _)))
    have z3 : @Ne Nat (L + 1 + 1 + 1) DU := hoff _ (.tail _ (.tail _ (.tail _ (.head _))))
    have z4 : @Ne Nat DL DU := hoff _ (.tail _ (.tail _ (.tail _ (.tail _ (.head _)))))
    have z5 : @Ne Nat SL DU := hoff _ (.tail _ (.tail _ (.tail _ (.tail _ (.tail _ (.head _))))))
    have z6 : @Ne Nat U DU := hoff _ (.tail _ (.tail _ (.tail _ (.tail _ (.tail _ (.tail _ (.head _)))))))
    have z7 : ∀ p ∈ t, p.1 ≠ DU := fun p hp => hoff _ (.tail _ (.tail _ (.tail _ (.tail _ (.tail _ (.tail _ (.tail _ hp)))))))
    have hDI : @Ne Nat DU I := ap _ (.head _)
    replace F : Fr g L h m2 := F
    replace N : News g L h _ := N
    simp only [List.cons_append, List.nil_append] at N
    dsimp only
    try k_fold
    k_steps
    rename_i D9 h9 F0 N0 l9
    obtain ⟨tl, htl, N1⟩ : ∃ tl : List (Int × Tok), tl.map (·.1) = [(f : Int), ((upK u2 u3 f : Nat) : Int), ((upK u2 u3 (upK u2 u3 f) : Nat) : Int)] ∧ News g L h9 ((D9, tupO (intsV tl)) :: (I, oI) :: (DU, listOf (intsV dl).toArray kd) :: (L + 1 + 1 + 1 + 1 + 1 + 1 + 1 + 1 + 1, o9) :: (L + 1, o1) :: (L + 1 + 1, o2) :: (L + 1 + 1 + 1, o3) :: (DL, lst (twosV ws)) :: (SL, listOf (intsV sl).toArray nd) :: (U, listOf (intsV ul).toArray nu) :: t) :=
      ⟨[((f : Int), ta), (((upK u2 u3 f : Nat) : Int), t8), (((upK u2 u3 (upK u2 u3 f) : Nat) : Int), t9)], rfl, N0⟩
    have ht3 : tl.length = 3 := by simpa using congrArg List.length htl
    refine CompGo.tup (c₀ := []) (fun j ys c => c = [] ∧ ys = ((tl.take j).filter fun r : Int × Tok => (sl.map (·.1)).any (· == r.1)).map fun r : Int × Tok => Value.int r.1 r.2) F0 N1 rfl ⟨_, News.get N1 (.head _), rfl, _, rfl⟩ (by simp; unfold sizeLine; omega) (fun _ _ _ _ _ _ _ h => go_name h)
      (fun h' k N => ⟨_, News.get N (.head _), rfl, _, rfl⟩) ⟨rfl, rfl⟩ ?_ ?_
    · intro I5 C5 D5 cx5 q1 q2 q3 j v ys5 oI5 oC5 m5 cells5 nw5 h tk dr E5 hj hv hJ hoC5 hcc5 F N ap5
      obtain ⟨hIC, hnC⟩ := turn_off (ys := ys5) q1 q2 q3 hcc5 ap5
      obtain ⟨rfl, rfl⟩ := hJ
      obtain ⟨r, hri, rfl⟩ := rows_at hv
      obtain rfl := hcc5
      dsimp only
      try k_fold
      k_steps
      ·
        refine' TurnEnd.mk (cells := []) ?te1 ?te2 ?te3 ?te4 ?te5 ?te6
        (case te1 => assumption)
        (case te2 => exact rfl)
        (case te3 => assumption)
        (case te4 => walk_at "te4")
        (case te5 => exact ap5)
        (case te6 => exact JC.mk (c := []) ⟨rfl, filt_yes hri (by assumption)⟩)
      ·
        refine' TurnEnd.mk (cells := []) ?te1 ?te2 ?te3 ?te4 ?te5 ?te6
        (case te1 => assumption)
        (case te2 => exact rfl)
        (case te3 => assumption)
        (case te4 => walk_at "te4")
        (case te5 => exact ap5)
        (case te6 => exact JC.mk (c := []) ⟨rfl, filt_no hri (by assumption)⟩)
    · intro D5 h' tk dr ys nw5 hD F N ap5 hJ
      obtain ⟨rfl, rfl⟩ := hJ
      have l5 : @LT.lt Nat _ DU D5 := lt_all N1 hD _ (.tail _ (.tail _ (.head _)))
      have l6 : @LT.lt Nat _ DU D9 := l9.2.1
      clear N1 F0 N0 l9
      simp only [List.nil_append, List.size_toArray, List.length_map, List.take_length] at N ⊢
      clear ap5
      generalize hF : tl.filter (fun r : Int × Tok => (sl.map (·.1)).any (· == r.1)) = ll at N
      have hl9 := lie_is htl hF
      k_steps
      · refine' ForEndD.mk ?fF (news_tl (news_tl (news_tl (news_tl ?fN)))) (ap1 ap) (JF.mk (c := [(DU, _)]) (setM (.tail _ (.tail _ (.head _))) (setM (.tail _ (.head _)) (setM (.head _) hm2))) ⟨dl ++ [(_, _)], _, ?fE, take_map hdl hr (due_no hl9 (of_decide_eq_true (by assumption)) hq8)⟩)
        (case fF => assumption)
        (case fN => assumption)
        (case fE => (rw [push_ints]; rfl))
      · refine' ForEndD.mk ?gF (news_tl (news_tl (news_tl (news_tl ?gN)))) (ap1 ap) (JF.mk (c := [(DU, _)]) (setM (.tail _ (.tail _ (.head _))) (setM (.tail _ (.head _)) (setM (.head _) hm2))) ⟨dl ++ [(_, _)], _, ?gE, take_map hdl hr (due_yes hl9 (of_decide_eq_false (by assumption)) hq8)⟩)
        (case gF => assumption)
        (case gN => assumption)
        (case gE => (rw [push_ints]; rfl))
  · intro h' tk dr m' nw F N hJ
    cases hJ with
    | mk hm2 hK =>
    obtain ⟨dl, k, rfl, hdl⟩ := hK
    exact hgo _ _ _ m' dl k hm2 (hdl.trans (by rw [List.take_of_length_le]; simp)) (H.to F N rfl)
theorem law_299 {o8 o9 : Obj} {MK DU : Addr} {ul dl : List (Int × Tok)} {n k : Nat} (hud : ul.map (·.1) = dl.map (·.1)) (sm : ∀ x ∈ dl.map (·.1), 0 ≤ x ∧ x ≤ 2) (hl : dl.length ≤ 12) (d8 : o8.data = .cell (some (.ref MK))) (d9 : o9.data = .cell (some (.ref DU))) (hgd : A.guards = some []) (G : Gnd w loose mean mg mb g) (R : Room A 30)
    (H : Led g L m hp ((L + 1 + 1 + 1 + 1 + 1 + 1 + 1 + 1, o8) :: (L + 1 + 1 + 1 + 1 + 1 + 1 + 1 + 1 + 1, o9) :: (MK, listOf (intsV ul).toArray n) :: (DU, listOf (intsV dl).toArray k) :: t))
    (hgo : ∀ (h' : Heap) (tk' : Nat), Led g L m h' ((L + 1 + 1 + 1 + 1 + 1 + 1 + 1 + 1, o8) :: (L + 1 + 1 + 1 + 1 + 1 + 1 + 1 + 1 + 1, o9) :: (MK, listOf (intsV ul).toArray n) :: (DU, listOf (intsV dl).toArray k) :: t) → LawGo w A L rest Q ⟨h', gs, dr, tk', os⟩) :
    LawGo w A L (lawSt 13 :: rest) Q ⟨hp, gs, dr, tk, os⟩ := by
  have hl2 : ul.length = dl.length := by simpa using congrArg List.length hud
  k_with_none
  k_with "execs cons" => (k_fold; (with_reducible refine PySem.wpAny_execs_cons ?_))
  k_with "call type:str" => (first
    | ((with_reducible show wpAny _ _ (call _ [Value.ref MK]) _ _ _); k_here; k_dflt (refine' str_ints (l := MK) hgd ?sa2 ?sa3 ?sa4 ?sa5 (by rw [hud]; exact sm) ?sa6 ?_; (case sa2 => (show un0 + 3 + 10 < cLine; omega)); (case sa3 => k_asm); (case sa4 => k_asm); (case sa5 => k_mem); (case sa6 => omega)); (intro h' tk' t1' F' N'; rw [hud]))
    | (k_here; k_dflt (refine' str_ints (l := DU) hgd ?sb2 ?sb3 ?sb4 ?sb5 sm ?sb6 ?_; (case sb2 => (show un0 + 3 + 10 < cLine; omega)); (case sb3 => k_asm); (case sb4 => k_asm); (case sb5 => k_mem); (case sb6 => omega)); (intro h' tk' t2' F' N')))
  obtain ⟨hd0, dp0, fr0, gd0, un0⟩ := A
  obtain rfl : hd0 = none := R.hd
  have T := G.T
  have hun : un0 + 10 * 30 + 10 < cLine := R.un
  have F := H.F
  have N := H.N
  change wpAny (model _ _) (Around.deeper _ (envOfC _ ⟨_, _, _, _, _⟩ _ _ _)) (execs (Stmt.If _ _ _ _ :: rest) (envOfC _ ⟨_, _, _, _, _⟩ _ _ _)) _ _ _
  have X := G.K; revert X; k_fill; intro X
  k_steps
  · rename_i hbad
    exact absurd hbad (by rw [bne_self_eq_false]; exact Bool.false_ne_true)
  · (rename Fr _ _ _ _ => F9); (rename News _ _ _ _ => N9)
    exact hgo _ _ (H.to F9 N9 rfl)
theorem law_301 {o4 o5 o8 o10 : Obj} {FL FN MK : Addr} {fs fl : List (Str × Tok)} {ul : List (Int × Tok)} {nf nm u2 u3 : Nat} (h2 : u2 < 2) (h3 : u3 < 3) (hfs : fs.map (·.1) = foldL u2 u3) (hul : ul.length = fl.length) (hfn : fl.length ≤ 12) (hfl : ∀ r ∈ fl, r.1.length ≤ 4096)
    (d4 : o4.data = .cell (some (.ref FL))) (d5 : o5.data = .cell (some (.ref FN))) (d8 : o8.data = .cell (some (.ref MK))) (G : Gnd w loose mean mg mb g) (R : Room A 30)
    (H : Led g L m hp ((193, tabObj #[]) :: (L + 1 + 1 + 1 + 1 + 1 + 1 + 1 + 1 + 1 + 1, o10) :: (L + 1 + 1 + 1 + 1, o4) :: (L + 1 + 1 + 1 + 1 + 1, o5) :: (L + 1 + 1 + 1 + 1 + 1 + 1 + 1 + 1, o8) :: (FL, listOf (strsV fs).toArray nf) :: (FN, lst (strsV fl)) :: (MK, listOf (intsV ul).toArray nm) :: t))
    (hgo : ∀ (h' : Heap) (tk' : Nat) (dr' : Drawn) (m' : Str → Option Value) (RL : Addr) (rs : List Row) (n : Nat) (ps : Array Value), (∀ y, y ≠ Str.ofString "rows" → m' y = m y) → m' (Str.ofString "rows") = some (.ref RL) →
      rs.map Row.abs = gathF (List.zipWith (fun p x => (⟨p.1,0, [x.1]⟩ : PRow)) fl ul) ((ordL u2 u3).map (foldK u2 u3)) → Fr g L h' m' → News g L h' ((L + 1 + 1 + 1 + 1 + 1 + 1 + 1 + 1 + 1 + 1, o10) :: (RL, rowsO rs n) :: (rowObjs rs ++ (193, tabObj ps) :: t)) → (∀ p ∈ (RL, rowsO rs n) :: (rowObjs rs ++ (193, tabObj ps) :: t), p.1 ≠ L + 1 + 1 + 1 + 1 + 1 + 1 + 1 + 1 + 1 + 1) → LawGo w A L rest Q ⟨h', gs, dr', tk', os⟩) :
    LawGo w A L (lawSt 14 :: rest) Q ⟨hp, gs, dr, tk, os⟩ := by
  have hfs4 : fs.length = 4 := by
    have := congrArg List.length hfs
    rw [List.length_map] at this; exact this
  have hfsl : ∀ x ∈ fs, x.1.length ≤ 4096 := fun x hx => by
    have := List.mem_map_of_mem (f := Prod.fst) hx
    rw [show fs.map Prod.fst = foldL u2 u3 from hfs] at this
    obtain ⟨i, hi⟩ := List.getElem?_of_mem this
    have h4 : i < 4 := (List.getElem?_eq_some_iff.mp hi).1
    rw [fold_get u2 h2 u3 h3 i h4] at hi
    rw [← Option.some.inj hi]
    exact Nat.le_trans (fold_len u2 h2 u3 h3 i h4) (by decide)
  k_with_none
  k_with "execs cons" => (k_fold; (with_reducible refine PySem.wpAny_execs_cons ?_))
  k_with "call ref" => ((with_reducible show wpAny _ _ (call (Value.ref 198) _) _ _ _); refine cmp_call G ?kR H ?_; (case kR => exact Room.less (Room.deeper (by assumption) _) (by decide)); (intro p9 ps9 h' tk' dr' H5; have F' := H5.F; have N' := H5.N; have H6 := Led.less H5))
  k_with "call ref" => ((with_reducible show wpAny _ _ (call (Value.ref 207) _) _ _ _); refine made_cod hRG G ?kR9 F N9 (fun p hp => by rw [List.mem_singleton.mp hp]; exact .head _) off9 ?_; (case kR9 => exact Room.less (Room.deeper (by assumption) _) (by decide)); (intro v9 c9' h' tk' dr' hK9 F' N' hfr9; obtain ⟨RL, rs', n', e9, e8, ha9, hn9, hp9⟩ := hK9; subst e9; subst e8; have N8 := N'))
  k_with "call builtin:sorted" => (refine sorted4 G ?kR2 (knK_in X) (lo_in X) hfsl hfs4 ⟨_, (H5.N (FL, _) (List.mem_append_right _ (.tail _ (.tail _ (.tail _ (.tail _ (.tail _ (.head _)))))))).1, rfl, _, rfl⟩ H5 ?_; (case kR2 => exact Room.less (Room.deeper (by assumption) _) (by decide)); (intro D9 c9 h' tk' d9 F' N' l9))
  k_with "eval ListComp" => (k_here; k_dflt (refine comp_ev none (by k_asm) (by rfl) (by rfl) (by decide) (by intro _ _; rfl) (by intro _; rfl) ?_))
  k_with "storeName" => ((with_reducible show wpAny _ _ (storeName (compEnvC _ _ _ _) _ _) _ _ _); k_here; k_dflt (refine' store_own ?so1 ?so2 ?so3 hIC hnC ?_ ?so4 ?so5; (case so4 => rfl); (case so5 => rfl); (case so1 => k_asm); (case so2 => k_asm); (case so3 => k_asm)); (intro h' oC' m' F' N' hC' hx' hy'))
  k_with "call builtin:len" => (k_here; k_dflt (refine' len_lst ?kn1 ?kn2 ?kn3 ?_; (case kn1 => k_asm); (case kn2 => k_mem); (case kn3 => (simp; omega))))
  k_with "subscriptTail" => (k_here; k_dflt (first
    | (refine' lst_item (l := FN) ?li1 ?li4 (Int.natCast_nonneg _) ?li3 hr8 ?_; (case li1 => k_asm); (case li4 => k_mem); (case li3 => omega))
    | (refine' lst_item (l := MK) ?lj1 ?lj4 (Int.natCast_nonneg _) ?lj3 hx8 ?_; (case lj1 => k_asm); (case lj4 => k_mem); (case lj3 => omega))))
  k_with "newTuple" => ((k_here; k_dflt (refine' kup_newTuple ?nt1 ?nt2 ?_ ?nt3; (case nt1 => k_asm); (case nt2 => k_asm); (case nt3 => kmk_size))); (intro T0 h' F' N' lT))
  k_with "newList" => ((k_here; k_dflt (refine' newList_K ?nl1 ?nl2 ?_; (case nl1 => k_asm); (case nl2 => k_asm); k_whole)); (intro M9 h' F' N' lM))
  obtain ⟨hd0, dp0, fr0, gd0, un0⟩ := A
  obtain rfl : hd0 = none := R.hd
  have T := G.T
  have hun : un0 + 10 * 30 + 10 < cLine := R.un
  have F := H.F
  have N := H.N
  change wpAny (model _ _) (Around.deeper _ (envOfC _ ⟨_, _, _, _, _⟩ _ _ _)) (execs (Stmt.Assign _ _ _ :: rest) (envOfC _ ⟨_, _, _, _, _⟩ _ _ _)) _ _ _
  have X := G.K; revert X; k_fill; intro X
  k_steps
  rename_i t1 u1 v1 hR0 F0 N0 k0
  have hn0 : (strsV fl).length = fl.length := List.length_map _
  rw [hn0] at hR0
  obtain ⟨hs1, hs2⟩ := rng_small fl.length (by omega)
  have S1 : List.Sublist [(193, tabObj ps9), (L + 1 + 1 + 1 + 1 + 1 + 1 + 1 + 1 + 1 + 1, o10), (L + 1 + 1 + 1 + 1 + 1, o5), (L + 1 + 1 + 1 + 1 + 1 + 1 + 1 + 1, o8), (FN, lst (strsV fl)), (MK, listOf (intsV ul).toArray nm)] [(193, tabObj ps9), (L + 1 + 1 + 1 + 1 + 1 + 1 + 1 + 1 + 1 + 1, o10), (L + 1 + 1 + 1 + 1, o4), (L + 1 + 1 + 1 + 1 + 1, o5), (L + 1 + 1 + 1 + 1 + 1 + 1 + 1 + 1, o8), (FL, listOf (strsV fs).toArray nf), (FN, lst (strsV fl)), (MK, listOf (intsV ul).toArray nm)] := .cons₂ _ (.cons₂ _ (.cons _ (.cons₂ _ (.cons₂ _ (.cons _ (.cons₂ _ (.cons₂ _ (.slnil))))))))
  have S2 := S1.append_right t
  have N1 : News g L _ ((D9, listOf (sortOut fs).toArray c9) :: ([(193, tabObj ps9), (L + 1 + 1 + 1 + 1 + 1 + 1 + 1 + 1 + 1 + 1, o10), (L + 1 + 1 + 1 + 1 + 1, o5), (L + 1 + 1 + 1 + 1 + 1 + 1 + 1 + 1, o8), (FN, lst (strsV fl)), (MK, listOf (intsV ul).toArray nm)] ++ t)) := fun p hp => N0 p ((S2.cons₂ _).subset hp)
  have D1 := nodup_cons1 (x := (D9, listOf (sortOut fs).toArray c9)) ((H6.subl S2).D) fun p hp => l9 p (S2.subset hp)
  have H1 := H6.subl S2
  clear N0 l9 H5 H6 S1 S2
  refine CompGo.rngJ (n := fl.length) (nw₀ := _ ++ []) (JN _ (RowsK (List.zipWith (fun p x => (⟨p.1,0, [x.1]⟩ : PRow)) fl ul))) (fun _ _ _ _ hJ N => hJ.news N) F0 (by rw [List.append_nil]; exact N1) rfl hR0 hs1 hs2 (by unfold sizeLine; omega) (fun _ _ _ _ _ h => go_name h)
    (JN.mk ⟨[], rfl, rfl, rfl, rfl⟩ (by rw [List.append_nil]; exact D1)) ?_ ?_
  · intro I C D cx q1 q2 q3 i v ys oI oC m₂ cells nw h tk dr E' hi hv hJ hoC hcc F N ap
    obtain ⟨hIC, hnC⟩ := turn_off (ys := ys) q1 q2 q3 hcc ap
    cases hJ with
    | mk hJ hD =>
    obtain ⟨rs, rfl, rfl, rfl, hra⟩ := hJ
    obtain ⟨t9, rfl⟩ := hv
    obtain rfl := hcc
    have hr : fl[rs.length]? = some fl[rs.length] := List.getElem?_eq_getElem hi
    have hx : ul[rs.length]? = some (ul[rs.length]'(by omega)) := List.getElem?_eq_getElem (by omega)
    generalize fl[rs.length] = r at hr
    generalize ul[rs.length]'(by omega) = x at hx
    have hr8 : (strsV fl)[((rs.length : Nat) : Int).toNat]? = some (.str r.1 r.2) := by rw [Int.toNat_natCast, List.getElem?_map, hr]; rfl
    have hx8 : (intsV ul)[((rs.length : Nat) : Int).toNat]? = some (.int x.1 x.2) := by rw [Int.toNat_natCast, List.getElem?_map, hx]; rfl
    simp only [Int.zero_add]
    try k_fold
    k_steps
    rename_i hA FA NA hB FB NB
    (rename News _ _ _ _ => N2)
    have lM : ∀ p ∈ (I, oI) :: (C, oC') :: (D, lst (rs.map fun r => Value.ref r.T)) :: _, @LT.lt Nat _ p.1 hA.objs.size := fun p hp => Heap.lt_size (NA p hp).1
    refine' TurnEnd.mk (cells := []) ?te1 rfl ?te3 (news_snoc2 N2) (turn_snoc2 (i := (I, oI)) (j := (C, oC')) (k := (D, lst (rs.map fun r => Value.ref r.T))) lT lM ap hD).1 (JN.mk (RowsK.snoc (r := ⟨r.1, r.2,0, _, T0, hA.objs.size, [x], 0⟩) hra (by rw [List.getElem?_zipWith, hr, hx]; rfl)) (turn_snoc2 (i := (I, oI)) (j := (C, oC')) (k := (D, lst (rs.map fun r => Value.ref r.T))) lT lM ap hD).2)
    (case te1 => assumption)
    (case te3 => assumption)
  · intro D h' tk dr ys nw hD F N ap hJ
    cases hJ with
    | mk hJ hD1 =>
    obtain ⟨rs, hrl, rfl, rfl, hra⟩ := hJ
    have hra' : rs.map Row.abs = List.zipWith (fun p x => (⟨p.1,0, [x.1]⟩ : PRow)) fl ul := hra.trans (List.take_of_length_le (by rw [List.length_zipWith]; omega))
    obtain ⟨N9, off9⟩ := comp_split N ap hD1
    have hpl : ∀ r ∈ rs, r.path.length ≤ 4096 := fun r hr => by
      have h := List.mem_map_of_mem (f := Row.abs) hr
      rw [hra'] at h
      obtain ⟨i, hi⟩ := List.getElem?_of_mem h
      rw [List.getElem?_zipWith] at hi
      cases q : fl[i]? with
      | none => rw [q] at hi; cases hi
      | some z =>
        rw [q] at hi
        cases q2 : ul[i]? with
        | none => rw [q2] at hi; cases hi
        | some y =>
          rw [q2] at hi
          rw [show r.path = z.1 from (congrArg PRow.path (Option.some.inj hi)).symm]
          exact hfl z (List.mem_of_getElem? q)
    have hRG := red_gath (w := w) (SL := D9) (RL0 := D) (els := sortOut fs) (n := c9) (n0 := (rs.map fun r => Value.ref r.T).length) (rs := rs) (fo := (ordL u2 u3).map (foldK u2 u3)) (by rw [sort_is h2 h3 hfs, List.length_map, ord_len u2 h2 u3 h3]) (fun i v hv => by
      obtain ⟨hj, t, rfl⟩ := sort_at h2 h3 hfs hv
      refine ⟨_, t, rfl, ?_, Nat.le_trans (fold_len u2 h2 u3 h3 _ (ord_at h2 h3 hj)) (by decide)⟩
      rw [List.getElem?_map, ord_get h2 h3 hj]; rfl) (by omega) hpl (off9 _ (.head _))
    clear hra N F0 N1 ap hD1
    have zc : h'.get? (L + 1 + 1 + 1 + 1 + 1 + 1 + 1 + 1 + 1 + 1) = some o10 := (N9 (L + 1 + 1 + 1 + 1 + 1 + 1 + 1 + 1 + 1 + 1, o10) (List.mem_append_right _ (.tail _ (.tail _ (.head _))))).1
    k_steps
    (rename Fr _ _ _ _ => F8); (rename News _ _ _ _ => N8)
    have z10 := split_off (x := (L + 1 + 1 + 1 + 1 + 1 + 1 + 1 + 1 + 1 + 1, o10)) (.tail _ (.tail _ (.head _))) zc off9 hfr9
    refine hgo _ _ _ _ RL rs' n' ps9 (fun y hy => if_neg hy) (if_pos rfl) (by rw [ha9, hra', List.take_of_length_le (by rw [List.length_map, ord_len u2 h2 u3 h3]; exact Nat.le_refl 4)]) F8 (fun p hp => N8 p ?_) fun p hp => ?_
    · rcases List.mem_cons.mp hp with rfl | hp
      · exact List.mem_append_right _ (.tail _ (.tail _ (.head _)))
      rcases List.mem_cons.mp hp with rfl | hp
      · exact .head _
      rcases List.mem_append.mp hp with hp | hp
      · exact .tail _ (List.mem_append_left _ hp)
      rcases List.mem_cons.mp hp with rfl | hp
      · exact List.mem_append_right _ (.tail _ (.head _))
      · exact List.mem_append_right _ (.tail _ (List.mem_append_right _ hp))
    · rcases List.mem_cons.mp hp with rfl | hp
      · exact z10 (RL, _) (.head _)
      rcases List.mem_append.mp hp with hp | hp
      · exact z10 p (.tail _ hp)
      rcases List.mem_cons.mp hp with rfl | hp
      · exact Ne.symm (H1.off (L + 1 + 1 + 1 + 1 + 1 + 1 + 1 + 1 + 1 + 1, o10) (.head _))
      · exact H1.drop1.off p (.tail _ (.tail _ (.tail _ (.tail _ hp))))
theorem law_302 {o3 o9 : Obj} {DL DU U : Addr} {ws : List Two} {dl ul : List (Int × Tok)} {kd nu u2 u3 : Nat} (h2 : u2 < 2) (h3 : u3 < 3) (d3 : o3.data = .cell (some (.ref DL))) (d9 : o9.data = .cell (some (.ref DU))) (hu : ul.map (·.1) = (upL u2 u3).map fun x : Nat => (x : Int)) (hm : m (Str.ofString "ups") = some (.ref U))
    (hwd : dl.length = ws.length) (hwl : ws.length ≤ 12) (hT : ∀ x ∈ ws, (x.T, x.obj) ∈ t) (G : Gnd w loose mean mg mb g) (R : Room A 30) (F : Fr g L hp m)
    (N : News g L hp ((L + 1 + 1 + 1, o3) :: (L + 1 + 1 + 1 + 1 + 1 + 1 + 1 + 1 + 1, o9) :: (DL, lst (twosV ws)) :: (DU, listOf (intsV dl).toArray kd) :: (U, listOf (intsV ul).toArray nu) :: t))
    (hgo : ∀ (h' : Heap) (tk' : Nat) (dr' : Drawn) (m' : Str → Option Value) (Fw : Int) (tF : Tok) (M : Addr) (ms : List (Int × Tok)) (n : Nat), (∀ y, y ∉ [Str.ofString "fewest", Str.ofString "tops"] → m' y = m y) → m' (Str.ofString "fewest") = some (.int Fw tF) → m' (Str.ofString "tops") = some (.ref M) →
      FewIs (List.zipWith (fun (x : Two) d => (x.a, d.1)) ws dl) (ul.map (·.1)) Fw (ms.map (·.1)) → Fr g L h' m' → News g L h' ((M, listOf (intsV ms).toArray n) :: (L + 1 + 1 + 1, o3) :: (L + 1 + 1 + 1 + 1 + 1 + 1 + 1 + 1 + 1, o9) :: (DL, lst (twosV ws)) :: (DU, listOf (intsV dl).toArray kd) :: (U, listOf (intsV ul).toArray nu) :: t) → (∀ p ∈ t, p.1 ≠ M) → LawGo w A L rest Q ⟨h', gs, dr', tk', os⟩) :
    LawGo w A L (lawSt 15 :: rest) Q ⟨hp, gs, dr, tk, os⟩ := by
  k_with_none
  k_with "execs cons" => (k_fold; (with_reducible refine PySem.wpAny_execs_cons ?_))
  k_with "eval ListComp" => (k_here; k_dflt (refine comp_ev none (by k_asm) (by rfl) (by rfl) (by decide) (by intro _ _; rfl) (by intro _; rfl) ?_))
  k_with "storeName" => ((with_reducible show wpAny _ _ (storeName (compEnvC _ _ _ _) _ _) _ _ _); k_here; k_dflt (refine' store_own ?so1 ?so2 ?so3 hIC hnC ?_ ?so4 ?so5; (case so4 => rfl); (case so5 => rfl); (case so1 => k_asm); (case so2 => k_asm); (case so3 => k_asm)); (intro h' oC' m' F' N' hC' hx' hy'))
  k_with "call builtin:len" => (k_here; k_dflt (refine' len_lst ?kn1 ?kn2 ?kn3 ?_; (case kn1 => k_asm); (case kn2 => k_mem); (case kn3 => (simp; omega))))
  k_with "subscriptTail" => (k_here; k_dflt (first
    | (refine' lst_item (l := DL) ?li1 ?li4 (Int.natCast_nonneg _) ?li3 hr8 ?_; (case li1 => k_asm); (case li4 => k_mem); (case li3 => omega))
    | (refine' lst_item (l := DU) ?lj1 ?lj4 (Int.natCast_nonneg _) ?lj3 hx8 ?_; (case lj1 => k_asm); (case lj4 => k_mem); (case lj3 => omega))
    | (refine' tup_item (t := x.T) ?ti1 ?ti6 ?ti2 ?ti3 ?ti4 ?ti5 ?_; (case ti1 => k_asm); (case ti6 => (repeat' (first | exact hT9 | exact List.mem_append_left _ hT9 | refine List.mem_cons_of_mem _ ?_))); (case ti2 => decide); (case ti3 => decide); (case ti4 => rfl); (case ti5 => rfl))))
  k_with "newTuple" => ((k_here; k_dflt (refine' kup_newTuple ?nt1 ?nt2 ?_ ?nt3; (case nt1 => k_asm); (case nt2 => k_asm); (case nt3 => kmk_size))); (intro T0 h' F' N' lT))
  k_with "call ref" => ((with_reducible show wpAny _ _ (call (Value.ref 259) _) _ _ _); refine few_call (things := vs) (.tail _ (List.mem_append_left _ (.tail _ (.tail _ (.tail _ (.tail _ (.head _))))))) (.head _) (fun x hx => .tail _ (List.mem_append_right _ (hvT x hx))) (by omega) (ups_ok h2 h3 hu) G ?kR9 F N ?_; (case kR9 => exact Room.less (Room.deeper (by assumption) _) (by decide)); (intro T9 M9 ms9 tF nM Fw h' tk' dr' I9 F' N' hM9))
  k_with "eval Name" => (k_here; k_dflt (refine' nameX_L ?kl1 ?kl2 ?_ ?kl3 ?kl4; (case kl1 => k_asm); (case kl3 => rfl); (case kl4 => rfl); (case kl2 => exact hm); k_whole))
  obtain ⟨hd0, dp0, fr0, gd0, un0⟩ := A
  obtain rfl : hd0 = none := R.hd
  have T := G.T
  have hun : un0 + 10 * 30 + 10 < cLine := R.un
  change wpAny (model _ _) (Around.deeper _ (envOfC _ ⟨_, _, _, _, _⟩ _ _ _)) (execs (Stmt.Assign _ _ _ :: rest) (envOfC _ ⟨_, _, _, _, _⟩ _ _ _)) _ _ _
  have X := G.K; revert X; k_fill; intro X
  k_steps
  (rename Fr _ _ _ _ => F0); (rename News _ _ _ _ => N0)
  (rename IsRange _ _ _ _ _ _ _ _ => hR0)
  have hn0 : (twosV ws).length = ws.length := List.length_map _
  rw [hn0] at hR0
  obtain ⟨hs1, hs2⟩ := rng_small ws.length (by omega)
  refine CompGo.rngJ (n := ws.length) (nw₀ := _ ++ []) (JT _ (TwoK (List.zipWith (fun (x : Two) d => (x.a, d.1)) ws dl))) (fun _ _ _ _ hJ N => hJ.news N) F0 (by rw [List.append_nil]; exact N0) rfl hR0 hs1 hs2 (by unfold sizeLine; omega) (fun _ _ _ _ _ h => go_name h)
    (JT.mk ⟨[], rfl, rfl, rfl, rfl⟩) ?_ ?_
  · intro I C D cx q1 q2 q3 i v ys oI oC m₂ cells nw h tk dr E' hi hv hJ hoC hcc F N ap
    obtain ⟨hIC, hnC⟩ := turn_off (ys := ys) q1 q2 q3 hcc ap
    cases hJ with
    | mk hJ =>
    obtain ⟨vs, rfl, rfl, rfl, hra⟩ := hJ
    obtain ⟨t9, rfl⟩ := hv
    obtain rfl := hcc
    have hr : ws[vs.length]? = some ws[vs.length] := List.getElem?_eq_getElem hi
    have hx : dl[vs.length]? = some (dl[vs.length]'(by omega)) := List.getElem?_eq_getElem (by omega)
    generalize ws[vs.length] = x at hr
    generalize dl[vs.length]'(by omega) = y at hx
    have hT9 := hT x (List.mem_of_getElem? hr)
    have hr8 : (twosV ws)[((vs.length : Nat) : Int).toNat]? = some (.ref x.T) := by rw [Int.toNat_natCast, List.getElem?_map, hr]; rfl
    have hx8 : (intsV dl)[((vs.length : Nat) : Int).toNat]? = some (.int y.1 y.2) := by rw [Int.toNat_natCast, List.getElem?_map, hx]; rfl
    simp only [Int.zero_add]
    try k_fold
    k_steps
    (rename News _ _ _ _ => N2)
    refine' TurnEnd.mk (cells := []) ?te1 rfl ?te3 (news_snoc1 N2) (ap_snocT ap (three_out (i := (I, oI)) (j := (C, oC')) (k := (D, lst (twosV vs))) lT)) (JT.mk (TwoK.snoc hra (by rw [List.getElem?_zipWith, hr, hx])))
    (case te1 => assumption)
    (case te3 => assumption)
  · intro D h' tk dr ys nw hD F N ap hJ
    cases hJ with
    | mk hJ =>
    obtain ⟨vs, hvl, rfl, rfl, hra⟩ := hJ
    have hra' : vs.map Two.abs = List.zipWith (fun (x : Two) d => (x.a, d.1)) ws dl := hra.trans (List.take_of_length_le (Nat.le_trans (Nat.le_of_eq List.length_zipWith) (Nat.min_le_left _ _)))
    have hvT : ∀ x ∈ vs, (x.T, x.obj) ∈ vs.map (fun x : Two => (x.T, x.obj)) := fun x hx => List.mem_map_of_mem (f := fun x : Two => (x.T, x.obj)) hx
    clear hra F0 N0 ap
    dsimp only
    k_steps
    (rename Fr _ _ _ _ => F9); (rename News _ _ _ _ => N9)
    rw [hra'] at I9
    exact hgo _ _ _ _ Fw tF M9 ms9 nM (setM (.tail _ (.head _)) (setM (.head _) fun _ _ => rfl)) ((if_neg (by decide)).trans (if_pos rfl)) (if_pos rfl) I9 F9 (fun p hp => N9 p (by
      rcases List.mem_cons.mp hp with rfl | hp
      · exact .tail _ (.head _)
      · exact .tail _ (.tail _ (.tail _ (List.mem_append_left _ hp))))) fun p hp => hM9 p (.tail _ (List.mem_append_left _ (.tail _ (.tail _ (.tail _ (.tail _ (.tail _ hp)))))))
theorem law_303 {RL M : Addr} {rs : List Row} {r : Row} {n nM : Nat} {ms : List (Int × Tok)} {tF : Tok} (hr : r.path = Str.ofString "/t") (hm1 : m (Str.ofString "rows") = some (.ref RL)) (hm2 : m (Str.ofString "fewest") = some (.int r.ch tF)) (hm3 : m (Str.ofString "tops") = some (.ref M)) (hms : ms.map (·.1) = r.marks)
    (hT : (r.T, r.tup) ∈ t) (hM : (r.M, r.lst) ∈ t) (G : Gnd w loose mean mg mb g) (R : Room A 30) (F : Fr g L hp m) (N : News g L hp ((RL, rowsO (rs ++ [r]) n) :: (M, listOf (intsV ms).toArray nM) :: t))
    (hgo : ∀ (h' : Heap) (tk' : Nat), Fr g L h' m → News g L h' ((RL, rowsO (rs ++ [r]) n) :: (M, listOf (intsV ms).toArray nM) :: t) → LawGo w A L rest Q ⟨h', gs, dr, tk', os⟩) :
    LawGo w A L (lawSt 16 :: rest) Q ⟨hp, gs, dr, tk, os⟩ := by
  have e9 : (rs ++ [r]).map (fun r => Value.ref r.T) = rs.map (fun r => Value.ref r.T) ++ [.ref r.T] := by rw [List.map_append]; rfl
  unfold rowsO at N hgo
  rw [e9] at N hgo
  k_with_none
  k_with "execs cons" => (k_fold; (with_reducible refine PySem.wpAny_execs_cons ?_))
  k_with "subscriptTail" => (k_here; k_dflt (refine' last_item ?li1 (.head _) ?_; (case li1 => k_asm)))
  k_with "compareOp NotEq ref ref" => (k_here; k_dflt (refine' top_ne (p := Str.ofString "/t") (F := r.ch) ?en1 ?en2 ?en3 (.head _) ?en4 hms (by decide +kernel) ?en5 ?_; (case en1 => k_asm); (case en2 => (rw [← hr]; (repeat' (first | exact hT | refine List.mem_cons_of_mem _ ?_)))); (case en3 => (repeat' (first | exact hM | refine List.mem_cons_of_mem _ ?_))); (case en4 => k_mem); (case en5 => (show un0 + 3 + 64 < cLine; omega))))
  k_with "newTuple" => ((k_here; k_dflt (refine' kup_newTuple ?nt1 ?nt2 ?_ ?nt3; (case nt1 => k_asm); (case nt2 => k_asm); (case nt3 => kmk_size))); (intro T0 h' F' N' lT))
  k_with "eval Name" => (k_here; k_dflt (refine' nameX_L ?kl1 ?kl2 ?_ ?kl3 ?kl4; (case kl1 => k_asm); (case kl3 => rfl); (case kl4 => rfl); (case kl2 => first | exact hm1 | exact hm2 | exact hm3); k_whole))
  obtain ⟨hd0, dp0, fr0, gd0, un0⟩ := A
  obtain rfl : hd0 = none := R.hd
  have T := G.T
  have hun : un0 + 10 * 30 + 10 < cLine := R.un
  change wpAny (model _ _) (Around.deeper _ (envOfC _ ⟨_, _, _, _, _⟩ _ _ _)) (execs (Stmt.If _ _ _ _ :: rest) (envOfC _ ⟨_, _, _, _, _⟩ _ _ _)) _ _ _
  have X := G.K; revert X; k_fill; intro X
  k_steps
  (rename Fr _ _ _ _ => F9); (rename News _ _ _ _ => N9)
  exact hgo _ _ F9 (news_tl N9)
theorem dict_cls {o : Obj} (h : o.ExactDict) : o.cls ≠ .type "tuple" := fun e => by
  unfold Obj.ExactDict at h
  rw [e] at h
  simp at h
theorem law_305 {RL : Addr} {rs : List Row} {n : Nat} {o10 : Obj} (d10 : o10.data = .cell none) (hm : m (Str.ofString "rows") = some (.ref RL)) (hrl : rs.length ≤ 100) (hp4 : ∀ r ∈ rs, r.path.length ≤ 4096) (hms : ∀ r ∈ rs, r.ms ≠ []) (G : Gnd w loose mean mg mb g) (R : Room A 30) (F : Fr g L hp m)
    (N : News g L hp ((L + 1 + 1 + 1 + 1 + 1 + 1 + 1 + 1 + 1 + 1, o10) :: (RL, rowsO rs n) :: (rowObjs rs ++ t))) (off : ∀ p ∈ (RL, rowsO rs n) :: (rowObjs rs ++ t), p.1 ≠ L + 1 + 1 + 1 + 1 + 1 + 1 + 1 + 1 + 1 + 1)
    (hgo : ∀ (h' : Heap) (tk' : Nat) (dr' : Drawn) (o10' oD : Obj) (CD : Addr) (kvs : List (Str × Value)), o10'.data = .cell (some (.ref CD)) → oD.IsDictOf (strKind prg w) kvs → RelD kvs (downAll (rs.reverse.map Row.abs) fun _ => none) → kvs.length ≤ 1000 → Fr g L h' m → News g L h' ((L + 1 + 1 + 1 + 1 + 1 + 1 + 1 + 1 + 1 + 1, o10') :: (CD, oD) :: (RL, rowsO rs n) :: (rowObjs rs ++ t)) → LawGo w A L rest Q ⟨h', gs, dr', tk', os⟩) :
    LawGo w A L (lawSt 17 :: rest) Q ⟨hp, gs, dr, tk, os⟩ := by
  k_with_none
  k_with "execs cons" => (k_fold; (with_reducible refine PySem.wpAny_execs_cons ?_))
  k_with "eval Name" => (k_here; k_dflt (refine' nameX_L ?kl1 ?kl2 ?_ ?kl3 ?kl4; (case kl1 => k_asm); (case kl3 => rfl); (case kl4 => rfl); (case kl2 => exact hm); k_whole))
  have zRV : @Ne Nat (hp.objs.size + 1) (L + 1 + 1 + 1 + 1 + 1 + 1 + 1 + 1 + 1 + 1) := Nat.ne_of_gt (Nat.lt_succ_of_lt (Heap.lt_size (N _ (.head _)).1))
  obtain ⟨hd0, dp0, fr0, gd0, un0⟩ := A
  obtain rfl : hd0 = none := R.hd
  have T := G.T
  have hun : un0 + 10 * 30 + 10 < cLine := R.un
  change wpAny (model _ _) (Around.deeper _ (envOfC _ ⟨_, _, _, _, _⟩ _ _ _)) (execs (Stmt.Assign _ _ _ :: rest) (envOfC _ ⟨_, _, _, _, _⟩ _ _ _)) _ _ _
  have X := G.K; revert X; k_fill; intro X
  k_steps
  rename_i hA dA hB oA FA NA loA hsA fsA hiA fiA lA
  have e9 : slicePick (rs.map fun r => Value.ref r.T).toArray none none (some (-1)) = (rs.reverse.map fun r => Value.ref r.T).toArray := (krv_pick _).trans (by simp)
  rw [e9] at NA
  replace NA : News g L hB ((dA, oA) :: (hp.objs.size + 1, rowsO rs.reverse 0) :: (L + 1 + 1 + 1 + 1 + 1 + 1 + 1 + 1 + 1 + 1, o10) :: (RL, rowsO rs n) :: (rowObjs rs ++ t)) := NA
  have lA' := ltAll (l := (hp.objs.size + 1, rowsO rs.reverse 0) :: (L + 1 + 1 + 1 + 1 + 1 + 1 + 1 + 1 + 1 + 1, o10) :: (RL, rowsO rs n) :: (rowObjs rs ++ t)) lA
  have offA : ∀ p ∈ (hp.objs.size + 1, rowsO rs.reverse 0) :: (L + 1 + 1 + 1 + 1 + 1 + 1 + 1 + 1 + 1 + 1, o10) :: (RL, rowsO rs n) :: (rowObjs rs ++ t), p.1 ∉ [dA] := fun p hp hm => Nat.ne_of_lt (lA' p hp) (List.mem_singleton.mp hm)
  have zCD : @Ne Nat dA (L + 1 + 1 + 1 + 1 + 1 + 1 + 1 + 1 + 1 + 1) := Nat.ne_of_gt (lA' _ (.tail _ (.head _)))
  have mr : ∀ r, r ∈ rs.reverse → r ∈ rs := fun r hr => List.mem_reverse.mp hr
  have mo : ∀ p ∈ rowObjs rs.reverse, p ∈ rowObjs rs := fun p hp => by
    obtain ⟨r, hr, h⟩ := List.mem_flatMap.mp hp
    exact rowObjs_mem (mr r hr) p h
  have hcls : oA.cls ≠ .type "tuple" := by
    obtain ⟨es, ep, hx, _⟩ := hsA
    exact dict_cls hx
  refine made_cod (k := 4) (c := [(dA, oA)]) (red_down hsA hcls (by rw [List.length_reverse]; exact hrl) (fun r hr => hp4 r (mr r hr)) (fun r hr => hms r (mr r hr)) fun p hp => (List.mem_cons.mp hp).elim (fun e => offA p (e ▸ .head _)) fun hp => offA p (.tail _ (.tail _ (.tail _ (List.mem_append_left _ (mo p hp)))))) G (Room.less (Room.deeper R _) (by decide)) FA NA
    (fun p hp => (List.mem_cons.mp hp).elim (fun e => e ▸ .head _) fun hp => .tail _ (.tail _ (.tail _ (List.mem_append_left _ (mo p hp))))) offA fun v c' h' tk' dr' hK F' N' hfr => ?_
  obtain ⟨oD, kvs, rfl, rfl, k1, k2, k3⟩ := hK
  rw [List.take_length] at k3
  rw [List.length_reverse] at k2
  simp only [List.cons_append, List.nil_append] at N'
  clear NA FA hfr
  k_steps
  (rename Fr _ _ _ _ => F9); (rename News _ _ _ _ => N9)
  refine hgo _ _ _ _ oD dA kvs (by assumption) k1 k3 (by omega) F9 fun p hp => N9 p ?_
  rcases List.mem_cons.mp hp with rfl | hp
  · exact .tail _ (.tail _ (.head _))
  rcases List.mem_cons.mp hp with rfl | hp
  · exact .head _
  · exact .tail _ (.tail _ (.tail _ hp))
theorem init_pick {rs : List Row} {r0 : Row} : slicePick ((rs ++ [r0]).map fun r => Value.ref r.T).toArray none (some (-1)) none = (rs.map fun r => Value.ref r.T).toArray := by
  rw [kms_pick_eq, List.map_append]
  simp [kms_pick, kms_lo, kms_hi]
theorem some_no {a b : Option Int} {u v : Int} (ha : a = some u) (hb : b = some v) (h : u = v) : (a != b) = false := by rw [ha, hb, h]; exact bne_self_eq_false _
theorem some_yes {a b : Option Int} {u v : Int} (ha : a = some u) (hb : b = some v) (h : u ≠ v) : (a != b) = true := by rw [ha, hb]; exact bne_iff_ne.mpr fun e => h (Option.some.inj e)
theorem RelD.have {kvs : List (Str × Value)} {d : Str → Option Int} (R : RelD kvs d) {p : Str} {u : Int} (h : d p = some u) : ∃ t, valueAt kvs p = some (.int u t) := by
  rw [← R.val] at h
  cases q : valueAt kvs p with
  | none => rw [q] at h; cases h
  | some v =>
    obtain ⟨u', t, rfl⟩ := R.nums p v q
    rw [q] at h
    cases h
    exact ⟨t, rfl⟩
theorem law_306 {RL CD : Addr} {rs : List Row} {r0 : Row} {n : Nat} {o10 oD : Obj} {kvs : List (Str × Value)} {d : Str → Option Int} {Fw : Int} {tF : Tok} (d10 : o10.data = .cell (some (.ref CD))) (hd : oD.IsDictOf (strKind prg w) kvs) (hR : RelD kvs d) (hk : kvs.length ≤ 1000) (hm1 : m (Str.ofString "rows") = some (.ref RL)) (hm2 : m (Str.ofString "fewest") = some (.int Fw tF)) (hrl : rs.length ≤ 100) (hp4 : ∀ r ∈ rs, r.path.length ≤ 4096)
    (hdef : ∀ r ∈ rs, (∃ u, d r.path = some u) ∧ ∃ u, d (dirnameF r.path) = some u) (hcnt : (((rs.filter fun r => d r.path != d (dirnameF r.path)).length : Nat) : Int) = Fw) (hT : ∀ r ∈ rs, (r.T, r.tup) ∈ t) (G : Gnd w loose mean mg mb g) (R : Room A 30) (F : Fr g L hp m)
    (N : News g L hp ((L + 1 + 1 + 1 + 1 + 1 + 1 + 1 + 1 + 1 + 1, o10) :: (CD, oD) :: (RL, rowsO (rs ++ [r0]) n) :: t))
    (hgo : ∀ (h' : Heap) (tk' : Nat) (dr' : Drawn), (∀ b o, g.get? b = some o → h'.get? b = some o) → (∀ p ∈ t, h'.get? p.1 = some p.2) → Q (.ret (.bool true)) ⟨h', gs, dr', tk', os⟩) :
    LawGo w A L (lawSt 18 :: []) Q ⟨hp, gs, dr, tk, os⟩ := by
  k_with_none
  k_with "execs cons" => (k_fold; (with_reducible refine PySem.wpAny_execs_cons ?_))
  k_with "call ref" => ((with_reducible show wpAny _ _ (call (Value.ref 235) _) _ _ _); refine' dirname_p _ _ _ ?h0 _ _ _ _ _ _ _ _ ?kG ?kR ?_; (case h0 => first | assumption | (simp only [Str.length_append]; omega) | omega); (case kG => exact Gnd.keeps (by assumption) (Fr.keep (by assumption))); (case kR => first | assumption | exact Room.deeper (by assumption) _ | exact Room.less (Room.deeper (by assumption) _) (by decide)); (intro t' h' tk' k'; (rename Fr _ _ _ _ => F0); (rename News _ _ _ _ => N0); have F' := Fr.keeps F0 k'; have N' := News.grown N0 k'; clear F0 N0; (try dsimp only)))
  k_with "eval ListComp" => (k_here; k_dflt (refine comp_ev none (by k_asm) (by rfl) (by rfl) (by decide) (by intro _ _; rfl) (by intro _; rfl) ?_))
  k_with "storeName" => ((with_reducible show wpAny _ _ (storeName (compEnvC _ _ _ _) _ _) _ _ _); k_here; k_dflt (refine' store_own ?so1 ?so2 ?so3 hIC hnC ?_ ?so4 ?so5; (case so4 => rfl); (case so5 => rfl); (case so1 => k_asm); (case so2 => k_asm); (case so3 => k_asm)); (intro h' oC' m' F' N' hC' hx' hy'))
  k_with "subscriptTail" => (k_here; first
    | ((with_reducible show wpAny _ _ (subscriptTail _ _ (Value.ref CD) (Value.str r.path _)) _ _ _); k_dflt (refine' kda_item ?kt1 ?kt2 hd (strKind_is _ _ _ _) v1 ?_; (case kt1 => k_asm); (case kt2 => k_mem)))
    | ((with_reducible show wpAny _ _ (subscriptTail _ _ (Value.ref CD) _) _ _ _); k_dflt (refine' kda_item ?ku1 ?ku2 hd (strKind_is _ _ _ _) v2 ?_; (case ku1 => k_asm); (case ku2 => k_mem)))
    | (k_dflt (refine' tup_item (t := r.T) ?ti1 ?ti6 ?ti2 ?ti3 ?ti4 ?ti5 ?_; (case ti1 => k_asm); (case ti6 => (repeat' (first | exact hT9 | exact List.mem_append_left _ hT9 | refine List.mem_cons_of_mem _ ?_))); (case ti2 => decide); (case ti3 => decide); (case ti4 => rfl); (case ti5 => rfl))))
  k_with "call builtin:len" => (k_here; k_dflt (refine' len_lst ?kn1 ?kn2 ?kn3 ?_; (case kn1 => k_asm); (case kn2 => k_mem); (case kn3 => exact hz9)))
  k_with "eval Name" => (k_here; k_dflt (refine' nameX_L ?kl1 ?kl2 ?_ ?kl3 ?kl4; (case kl1 => k_asm); (case kl3 => rfl); (case kl4 => rfl); (case kl2 => first | exact hm1 | exact hm2); k_whole))
  obtain ⟨rest, hrest⟩ : ∃ rest : List Stmt, rest = [] := ⟨_, rfl⟩
  rw [← hrest]
  obtain ⟨hd0, dp0, fr0, gd0, un0⟩ := A
  obtain rfl : hd0 = none := R.hd
  have T := G.T
  have hun : un0 + 10 * 30 + 10 < cLine := R.un
  change wpAny (model _ _) (Around.deeper _ (envOfC _ ⟨_, _, _, _, _⟩ _ _ _)) (execs (Stmt.Return _ _ :: rest) (envOfC _ ⟨_, _, _, _, _⟩ _ _ _)) _ _ _
  have X := G.K; revert X; k_fill; intro X
  k_steps
  rename_i hA FA NA
  have e9 : slicePick ((rs ++ [r0]).map fun r => Value.ref r.T).toArray none (some (-1)) none = (rs.map fun r => Value.ref r.T).toArray := init_pick
  rw [e9] at NA
  replace NA : News g L hA ((hp.objs.size + 1, rowsO rs 0) :: (L + 1 + 1 + 1 + 1 + 1 + 1 + 1 + 1 + 1 + 1, o10) :: (CD, oD) :: (RL, rowsO (rs ++ [r0]) n) :: t) := NA
  refine CompGo.lst (c₀ := []) (fun i ys c => c = [] ∧ ys = ((rs.take i).filter fun r => d r.path != d (dirnameF r.path)).map fun r => .ref r.T) FA NA rfl ⟨_, News.get NA (.head _), rfl, _, rfl⟩ (by simp; unfold sizeLine; omega) (fun _ _ _ _ _ _ _ h => go_name h)
    (fun h' k N => ⟨_, News.get N (.head _), rfl, _, rfl⟩) ⟨rfl, rfl⟩ ?_ ?_
  · intro I C D cx q1 q2 q3 i v ys oI oC m₂ cells nw h tk dr E' hi hv hJ hoC hcc F N ap
    obtain ⟨hIC, hnC⟩ := turn_off (ys := ys) q1 q2 q3 hcc ap
    obtain ⟨rfl, rfl⟩ := hJ
    obtain ⟨r, hri, rfl⟩ := rows_at hv
    have hr := List.mem_of_getElem? hri
    have hT9 := hT r hr
    have hpl := hp4 r hr
    obtain ⟨⟨u1, e1⟩, u2, e2⟩ := hdef r hr
    obtain ⟨t1, v1⟩ := hR.have e1
    obtain ⟨t2, v2⟩ := hR.have e2
    obtain rfl := hcc
    dsimp only
    try k_fold
    k_steps
    ·
      refine' TurnEnd.mk (cells := []) ?te1 ?te2 ?te3 ?te4 ?te5 ?te6
      (case te1 => assumption)
      (case te2 => exact rfl)
      (case te3 => assumption)
      (case te4 => walk_at "te4")
      (case te5 => exact ap)
      (case te6 => exact JC.mk (c := []) ⟨rfl, filt_yes hri (some_yes e1 e2 (by assumption))⟩)
    ·
      refine' TurnEnd.mk (cells := []) ?te1 ?te2 ?te3 ?te4 ?te5 ?te6
      (case te1 => assumption)
      (case te2 => exact rfl)
      (case te3 => assumption)
      (case te4 => walk_at "te4")
      (case te5 => exact ap)
      (case te6 => exact JC.mk (c := []) ⟨rfl, filt_no hri (some_no e1 e2 (by assumption))⟩)
  · intro D h' tk dr ys nw hD F N ap hJ
    obtain ⟨rfl, rfl⟩ := hJ
    simp only [List.nil_append, List.size_toArray, List.length_map, List.take_length] at N ⊢
    have hz9 : ((rs.filter fun r => d r.path != d (dirnameF r.path)).map fun r => Value.ref r.T).length ≤ 4096 := by
      rw [List.length_map]; exact Nat.le_trans (List.length_filter_le _ _) (by omega)
    have hkp := F.keep
    have hkt : ∀ p ∈ t, h'.get? p.1 = some p.2 := fun p hp => (N p (.tail _ (.tail _ (.tail _ (.tail _ (.tail _ hp)))))).1
    k_steps
    rw [List.length_map, hcnt, beq_self_eq_true]
    exact hgo _ _ _ hkp hkt
end
end Mine
end
section
open PySem PySem.W PySem.Calls PyProof.Rows
namespace Mine
noncomputable def sc1 (r : PRow) (x : Int) : Int := r.ch + if r.ms.any (· == x) = true then 0 else 1
noncomputable def score (ins : List PRow) (x : Int) : Int := (ins.map fun r => sc1 r x).sum
theorem score_app (a b : List PRow) (x : Int) : score (a ++ b) x = score a x + score b x := by
  unfold score; rw [List.map_append, List.sum_append]
theorem gVote_cons (r : PRow) (ins : List PRow) (x : Int) : gVote (r :: ins) x = (if r.ms.any (· == x) = true then 1 else 0) + gVote ins x := by
  unfold gVote
  rw [List.filter_cons]
  split
  · rw [List.length_cons]; omega
  · omega
theorem vote_score (ins : List PRow) (x : Int) : gVote ins x = (ins.map (·.ch)).sum + (ins.length : Nat) - score ins x := by
  induction ins with
  | nil => rfl
  | cons r ins ih =>
    rw [gVote_cons, ih]
    unfold score sc1
    rw [List.map_cons, List.map_cons, List.sum_cons, List.sum_cons, List.length_cons]
    split <;> omega
noncomputable def tops (D : Nat → Int) : List Int := ((List.range 3).filter fun i : Nat => D i == mn D).map fun i : Nat => (i : Int)
theorem max_sub2 (S a b : Int) : max (S - a) (S - b) = S - min a b := by omega
theorem gRow_is {rs : List PRow} {folder : Str} {D : Nat → Int} (h : ∀ x : Nat, x < 3 → score (gIns rs folder) (x : Int) = D x) : gRow rs folder = ⟨folder, mn D, tops D⟩ := by
  have v : ∀ x : Nat, x < 3 → gVote (gIns rs folder) (x : Int) = ((gIns rs folder).map (·.ch)).sum + ((gIns rs folder).length : Nat) - D x := fun x hx => by rw [vote_score, h x hx]
  have v0 := v 0 (by decide)
  have v1 := v 1 (by decide)
  have v2 := v 2 (by decide)
  have hm : gMost (gIns rs folder) = ((gIns rs folder).map (·.ch)).sum + ((gIns rs folder).length : Nat) - mn D := by
    unfold gMost mn
    show max (gVote (gIns rs folder) ((0 : Nat) : Int)) (max (gVote (gIns rs folder) ((1 : Nat) : Int)) (gVote (gIns rs folder) ((2 : Nat) : Int))) = _
    rw [v0, v1, v2, max_sub2, max_sub2]
  unfold gRow tops
  rw [hm]
  congr 1
  · omega
  · congr 1
    refine List.filter_congr fun i hi => ?_
    rw [v i (List.mem_range.mp hi)]
    exact Bool.eq_iff_iff.mpr ⟨fun e => beq_iff_eq.mpr (by have := beq_iff_eq.mp e; omega), fun e => beq_iff_eq.mpr (by have := beq_iff_eq.mp e; omega)⟩
theorem tops_any (D : Nat → Int) {x : Nat} (hx : x < 3) : (tops D).any (· == (x : Int)) = decide (D x = mn D) := by
  unfold tops
  rw [Bool.eq_iff_iff, List.any_eq_true, decide_eq_true_iff]
  constructor
  · rintro ⟨y, hy, e⟩
    obtain ⟨i, hi, rfl⟩ := List.mem_map.mp hy
    have := (List.mem_filter.mp hi).2
    have e2 : i = x := Int.ofNat.inj (beq_iff_eq.mp e)
    rw [← e2]; exact beq_iff_eq.mp this
  · intro e
    exact ⟨_, List.mem_map_of_mem (List.mem_filter.mpr ⟨List.mem_range.mpr hx, beq_iff_eq.mpr e⟩), beq_iff_eq.mpr rfl⟩
theorem tops_head (D : Nat → Int) : (tops D).headD 0 = (hd3 D : Nat) := by
  unfold tops hd3
  have e : List.range 3 = [0,1,2] := rfl
  rw [e, List.filter_cons, List.filter_cons, List.filter_cons]
  by_cases h0 : D 0 = mn D
  · rw [if_pos h0, if_pos (beq_iff_eq.mpr h0)]; rfl
  · rw [if_neg h0, if_neg fun q => h0 (beq_iff_eq.mp q)]
    by_cases h1 : D 1 = mn D
    · rw [if_pos h1, if_pos (beq_iff_eq.mpr h1)]; rfl
    · rw [if_neg h1, if_neg fun q => h1 (beq_iff_eq.mp q)]
      have h2 : D 2 = mn D := by unfold mn at *; omega
      rw [if_pos (beq_iff_eq.mpr h2)]; rfl
theorem sc_tell {p : Str} (D : Nat → Int) {x : Nat} (hx : x < 3) : sc1 ⟨p, mn D, tops D⟩ (x : Int) = tell D x := by
  unfold sc1 tell
  dsimp only
  rw [tops_any D hx]
  by_cases e : D x = mn D
  · rw [if_pos (decide_eq_true e), if_pos e]
  · rw [if_neg fun q => e (of_decide_eq_true q), if_neg e]
theorem perm_sum {l l' : List Int} (h : l.Perm l') : l.sum = l'.sum := by
  induction h with
  | nil => rfl
  | cons x _ ih => rw [List.sum_cons, List.sum_cons, ih]
  | swap x y l => rw [List.sum_cons, List.sum_cons, List.sum_cons, List.sum_cons]; omega
  | trans _ _ a b => exact a.trans b
section
variable {u2 u3 : Nat}
theorem dir_file : ∀ u2 < 2, ∀ u3 < 3, ∀ f < 4, ∀ s < 4, dirnameF (fileP u2 u3 f s) = foldK u2 u3 f := by decide +kernel
theorem fold_ne : ∀ u2 < 2, ∀ u3 < 3, ∀ f < 4, ∀ k < 4, (foldK u2 u3 f == foldK u2 u3 k) = (f == k) := by decide +kernel
theorem dir_fold : ∀ u2 < 2, ∀ u3 < 3, ∀ c < 4, c ≠ 0 → dirnameF (foldK u2 u3 c) = foldK u2 u3 (upK u2 u3 c) := by decide +kernel
theorem dir_top : ∀ u2 < 2, ∀ u3 < 3, ∀ k < 4, (dirnameF (foldK u2 u3 0) == foldK u2 u3 k) = false := by decide +kernel
theorem ord_lt : ∀ u2 < 2, ∀ u3 < 3, ∀ c ∈ ordL u2 u3, c < 4 := by decide +kernel
theorem ord_kids : ∀ u2 < 2, ∀ u3 < 3, ∀ j < 4, (((ordL u2 u3).take j).filter fun c => c != 0 && upK u2 u3 c == (ordL u2 u3).getD j 0).isPerm ([1,2,3].filter fun c => upK u2 u3 c == (ordL u2 u3).getD j 0) = true := by decide +kernel
variable (h2 : u2 < 2) (h3 : u3 < 3)
include h2 h3
theorem Dk_kids (a : Nat → Nat → Int) {k : Nat} (hk : k < 4) (x : Nat) : Dk u2 u3 a k x = a k x + (([1,2,3].filter fun c => upK u2 u3 c == k).map fun c => tell (Dk u2 u3 a c) x).sum := by
  match u2, h2, u3, h3, k, hk with
  | 0, _, 0, _, 0, _ => show a 0 x + tell (D1 0 0 a) x + tell (D2 0 a) x + tell (D3 a) x = a 0 x + (tell (D1 0 0 a) x + (tell (D2 0 a) x + (tell (D3 a) x + 0))); omega
  | 0, _, 1, _, 0, _ => show a 0 x + tell (D1 0 1 a) x + tell (D2 1 a) x + 0 = a 0 x + (tell (D1 0 1 a) x + (tell (D2 1 a) x + 0)); omega
  | 0, _, 2, _, 0, _ => show a 0 x + tell (D1 0 2 a) x + tell (D2 2 a) x + 0 = a 0 x + (tell (D1 0 2 a) x + (tell (D2 2 a) x + 0)); omega
  | 1, _, 0, _, 0, _ => show a 0 x + tell (D1 1 0 a) x + 0 + tell (D3 a) x = a 0 x + (tell (D1 1 0 a) x + (tell (D3 a) x + 0)); omega
  | 1, _, 1, _, 0, _ => show a 0 x + tell (D1 1 1 a) x + 0 + 0 = a 0 x + (tell (D1 1 1 a) x + 0); omega
  | 1, _, 2, _, 0, _ => show a 0 x + tell (D1 1 2 a) x + 0 + 0 = a 0 x + (tell (D1 1 2 a) x + 0); omega
  | 0, _, 0, _, 1, _ => show a 1 x + 0 + 0 = a 1 x + 0; omega
  | 0, _, 1, _, 1, _ => show a 1 x + 0 + tell (D3 a) x = a 1 x + (tell (D3 a) x + 0); omega
  | 0, _, 2, _, 1, _ => show a 1 x + 0 + 0 = a 1 x + 0; omega
  | 1, _, 0, _, 1, _ => show a 1 x + tell (D2 0 a) x + 0 = a 1 x + (tell (D2 0 a) x + 0); omega
  | 1, _, 1, _, 1, _ => show a 1 x + tell (D2 1 a) x + tell (D3 a) x = a 1 x + (tell (D2 1 a) x + (tell (D3 a) x + 0)); omega
  | 1, _, 2, _, 1, _ => show a 1 x + tell (D2 2 a) x + 0 = a 1 x + (tell (D2 2 a) x + 0); omega
  | 0, _, 0, _, 2, _ => rfl
  | 0, _, 1, _, 2, _ => rfl
  | 0, _, 2, _, 2, _ => show a 2 x + tell (D3 a) x = a 2 x + (tell (D3 a) x + 0); omega
  | 1, _, 0, _, 2, _ => rfl
  | 1, _, 1, _, 2, _ => rfl
  | 1, _, 2, _, 2, _ => show a 2 x + tell (D3 a) x = a 2 x + (tell (D3 a) x + 0); omega
  | 0, _, 0, _, 3, _ => exact (Int.add_zero _).symm
  | 0, _, 1, _, 3, _ => exact (Int.add_zero _).symm
  | 0, _, 2, _, 3, _ => exact (Int.add_zero _).symm
  | 1, _, 0, _, 3, _ => exact (Int.add_zero _).symm
  | 1, _, 1, _, 3, _ => exact (Int.add_zero _).symm
  | 1, _, 2, _, 3, _ => exact (Int.add_zero _).symm
variable (ds : List (Nat × Nat)) (M : Nat → Nat → Int) (hds : ∀ p ∈ ds, p.1 < 4 ∧ p.2 < 4)
omit h2 h3 in
noncomputable abbrev thingsL (ds : List (Nat × Nat)) (M : Nat → Nat → Int) : List (Int × Int) := ds.map fun p => ((p.1 : Int), M p.1 p.2)
omit h2 h3 in
noncomputable abbrev fileR (u2 u3 : Nat) (M : Nat → Nat → Int) (p : Nat × Nat) : PRow := ⟨fileP u2 u3 p.1 p.2,0, [M p.1 p.2]⟩
omit h2 h3 in
noncomputable abbrev rows0 (u2 u3 : Nat) (ds : List (Nat × Nat)) (M : Nat → Nat → Int) : List PRow := ds.map (fileR u2 u3 M)
omit h2 h3 in
noncomputable def aL (ds : List (Nat × Nat)) (M : Nat → Nat → Int) (k x : Nat) : Int := mis (thingsL ds M) k x
omit h2 h3 in
noncomputable def rowD (u2 u3 : Nat) (a : Nat → Nat → Int) (k : Nat) : PRow := ⟨foldK u2 u3 k, mn (Dk u2 u3 a k), tops (Dk u2 u3 a k)⟩
include hds
theorem score_files {k : Nat} (hk : k < 4) (x : Nat) : score (gIns (rows0 u2 u3 ds M) (foldK u2 u3 k)) (x : Int) = aL ds M k x := by
  unfold aL mis
  induction ds with
  | nil => rfl
  | cons p ds ih =>
    have hp := hds p (.head _)
    have ih := ih fun q hq => hds q (.tail _ hq)
    unfold gIns rows0 thingsL at ih ⊢
    rw [List.map_cons, List.map_cons, List.filter_cons, List.filter_cons]
    dsimp only
    rw [dir_file u2 h2 u3 h3 p.1 hp.1 p.2 hp.2, fold_ne u2 h2 u3 h3 p.1 hp.1 k hk]
    by_cases e : p.1 = k
    · rw [if_pos (beq_iff_eq.mpr e)]
      unfold score at ih ⊢
      rw [List.map_cons, List.sum_cons, ih]
      have e2 : ((p.1 : Int) == (k : Int)) = true := beq_iff_eq.mpr (congrArg _ e)
      rw [e2, Bool.true_and]
      unfold sc1
      dsimp only
      rw [List.any_cons, List.any_nil, Bool.or_false]
      by_cases q : M p.1 p.2 = (x : Int)
      · rw [if_pos (beq_iff_eq.mpr q), if_neg (by rw [bne_iff_ne]; exact fun z => z q)]; omega
      · rw [if_neg fun z => q (beq_iff_eq.mp z), if_pos (bne_iff_ne.mpr q), List.length_cons]; omega
    · have e2 : ((p.1 : Int) == (k : Int)) = false := beq_eq_false_iff_ne.mpr fun z => e (Int.ofNat.inj z)
      rw [if_neg fun z => e (beq_iff_eq.mp z), e2, Bool.false_and, if_neg Bool.false_ne_true]
      exact ih
omit hds in
theorem score_folds (a : Nat → Nat → Int) {k : Nat} (hk : k < 4) {x : Nat} (hx : x < 3) : ∀ done : List Nat, (∀ c ∈ done, c < 4) → score (gIns (done.map (rowD u2 u3 a)) (foldK u2 u3 k)) (x : Int) = ((done.filter fun c => c != 0 && upK u2 u3 c == k).map fun c => tell (Dk u2 u3 a c) x).sum := fun done => by
  induction done with
  | nil => intro _; rfl
  | cons c done ih =>
    intro hc
    have ih := ih fun d hd => hc d (.tail _ hd)
    have h4 := hc c (.head _)
    unfold gIns at ih ⊢
    rw [List.map_cons, List.filter_cons, List.filter_cons]
    have e : (dirnameF (rowD u2 u3 a c).path == foldK u2 u3 k) = (c != 0 && upK u2 u3 c == k) := by
      show (dirnameF (foldK u2 u3 c) == _) = _
      by_cases h0 : c = 0
      · subst h0; exact dir_top u2 h2 u3 h3 k hk
      · rw [dir_fold u2 h2 u3 h3 c h4 h0, fold_ne u2 h2 u3 h3 _ (up_lt u2 h2 u3 h3 c h4) k hk, bne_iff_ne.mpr h0, Bool.true_and]
    rw [e]
    split
    · unfold score at ih ⊢
      rw [List.map_cons, List.sum_cons, ih, List.map_cons, List.sum_cons]
      congr 1
      exact sc_tell _ hx
    · exact ih
theorem gather_step {j : Nat} (hj : j < 4) : gRow (rows0 u2 u3 ds M ++ ((ordL u2 u3).take j).map (rowD u2 u3 (aL ds M))) (foldK u2 u3 ((ordL u2 u3).getD j 0)) = rowD u2 u3 (aL ds M) ((ordL u2 u3).getD j 0) := by
  have hk : (ordL u2 u3).getD j 0 < 4 := by
    rw [List.getD_eq_getElem?_getD]
    cases q : (ordL u2 u3)[j]? with
    | none => exact Nat.zero_lt_succ _
    | some c => exact ord_lt u2 h2 u3 h3 c (List.mem_of_getElem? q)
  refine gRow_is fun x hx => ?_
  have e : gIns (rows0 u2 u3 ds M ++ ((ordL u2 u3).take j).map (rowD u2 u3 (aL ds M))) (foldK u2 u3 ((ordL u2 u3).getD j 0)) = gIns (rows0 u2 u3 ds M) (foldK u2 u3 ((ordL u2 u3).getD j 0)) ++ gIns (((ordL u2 u3).take j).map (rowD u2 u3 (aL ds M))) (foldK u2 u3 ((ordL u2 u3).getD j 0)) := List.filter_append ..
  rw [e, score_app, score_files h2 h3 ds M hds hk, score_folds h2 h3 (aL ds M) hk hx _ fun c hc => ord_lt u2 h2 u3 h3 c (List.mem_of_mem_take hc), Dk_kids h2 h3 _ hk]
  congr 1
  exact perm_sum ((List.isPerm_iff.mp (ord_kids u2 h2 u3 h3 j hj)).map _)
end
end Mine
end
section
open PySem PySem.W PySem.Calls PyProof.Rows
namespace Mine
section
variable {u2 u3 : Nat}
theorem filt3 (p : Nat → Bool) : (((List.range 3).filter p).length : Int) = (if p 0 = true then 1 else 0) + (if p 1 = true then 1 else 0) + (if p 2 = true then 1 else 0) := by
  have e : List.range 3 = [0,1,2] := rfl
  rw [e]
  simp only [List.filter_cons, List.filter_nil]
  cases p 0 <;> cases p 1 <;> cases p 2 <;> rfl
theorem dd_bne (a b : Nat) : (if (a != b) = true then (1 : Int) else 0) = dd a b := by
  unfold dd
  by_cases h : a = b
  · rw [if_pos h, if_neg (by rw [h]; simp)]
  · rw [if_neg h, if_pos (bne_iff_ne.mpr h)]
theorem up_of : ∀ u2 < 2, ∀ u3 < 3, upAt ((upL u2 u3).map fun x : Nat => (x : Int)) 1 = 0 ∧ upAt ((upL u2 u3).map fun x : Nat => (x : Int)) 2 = u2 ∧ upAt ((upL u2 u3).map fun x : Nat => (x : Int)) 3 = u3 := by decide +kernel
theorem cost_way (h2 : u2 < 2) (h3 : u3 < 3) (ths : List (Int × Int)) (c : Nat) : wayCost ths ((upL u2 u3).map fun x : Nat => (x : Int)) c = wayE u2 u3 (fun k x => mis ths k x) (dig c) := by
  obtain ⟨e1, e2, e3⟩ := up_of u2 h2 u3 h3
  unfold wayCost wayE
  rw [filt3, e1, e2, e3, dd_bne, dd_bne, dd_bne]
  have er : (List.range 4).map (fun k : Nat => mis ths (k : Int) ((dig c k : Nat) : Int)) = [mis ths ((0 : Nat) : Int) ((dig c 0 : Nat) : Int), mis ths ((1 : Nat) : Int) ((dig c 1 : Nat) : Int), mis ths ((2 : Nat) : Int) ((dig c 2 : Nat) : Int), mis ths ((3 : Nat) : Int) ((dig c 3 : Nat) : Int)] := rfl
  rw [er]
  simp only [List.sum_cons, List.sum_nil, Nat.zero_add, Nat.reduceAdd]
  omega
theorem dig_dec : ∀ a b c d : Fin 3, a.1 * 27 + b.1 * 9 + c.1 * 3 + d.1 < 81 ∧ dig (a.1 * 27 + b.1 * 9 + c.1 * 3 + d.1) 0 = a.1 ∧ dig (a.1 * 27 + b.1 * 9 + c.1 * 3 + d.1) 1 = b.1 ∧ dig (a.1 * 27 + b.1 * 9 + c.1 * 3 + d.1) 2 = c.1 ∧ dig (a.1 * 27 + b.1 * 9 + c.1 * 3 + d.1) 3 = d.1 := by decide +kernel
theorem dig_of {y : Nat → Nat} (h : ∀ k, y k < 3) : y 0 * 27 + y 1 * 9 + y 2 * 3 + y 3 < 81 ∧ dig (y 0 * 27 + y 1 * 9 + y 2 * 3 + y 3) 0 = y 0 ∧ dig (y 0 * 27 + y 1 * 9 + y 2 * 3 + y 3) 1 = y 1 ∧ dig (y 0 * 27 + y 1 * 9 + y 2 * 3 + y 3) 2 = y 2 ∧ dig (y 0 * 27 + y 1 * 9 + y 2 * 3 + y 3) 3 = y 3 := dig_dec ⟨_, h 0⟩ ⟨_, h 1⟩ ⟨_, h 2⟩ ⟨_, h 3⟩
theorem wayE_congr {a : Nat → Nat → Int} {y z : Nat → Nat} (h2 : u2 < 2) (h3 : u3 < 3) (h : ∀ k < 4, y k = z k) : wayE u2 u3 a y = wayE u2 u3 a z := by
  unfold wayE
  rw [h 0 (by omega), h 1 (by omega), h 2 (by omega), h 3 (by omega), h u2 (by omega), h u3 (by omega)]
theorem few_is (h2 : u2 < 2) (h3 : u3 < 3) {ths : List (Int × Int)} {F : Int} {ms : List Int} (I : FewIs ths ((upL u2 u3).map fun x : Nat => (x : Int)) F ms) :
    F = mn (D0 u2 u3 fun k x => mis ths k x) ∧ ms = tops (D0 u2 u3 fun k x => mis ths k x) := by
  have low : ∀ x < 3, F ≤ D0 u2 u3 (fun k x => mis ths k x) x := fun x hx => by
    have hy := downW_lt (u2 := u2) (u3 := u3) (a := fun k x => mis ths k x) hx
    obtain ⟨hc, e0, e1, e2, e3⟩ := dig_of hy
    have h := I.low _ hc
    rw [cost_way h2 h3, wayE_congr h2 h3 (z := downW u2 u3 (fun k x => mis ths k x) x) (fun k hk => by
      match k, hk with
      | 0, _ => exact e0
      | 1, _ => exact e1
      | 2, _ => exact e2
      | 3, _ => exact e3), downW_hit h2 h3] at h
    exact h
  have up : ∀ c < 81, D0 u2 u3 (fun k x => mis ths k x) (dig c 0) ≤ wayCost ths ((upL u2 u3).map fun x : Nat => (x : Int)) c := fun c hc => by
    rw [cost_way h2 h3]
    exact way_low h2 h3 fun k hk => dig_lt c k hc
  have hF : F = mn (D0 u2 u3 fun k x => mis ths k x) := by
    obtain ⟨c, hc, e⟩ := I.hit
    have h1 := up c hc
    have h2' := mn_le (D0 u2 u3 fun k x => mis ths k x) (dig_lt c 0 hc)
    have h3' := low (hd3 (D0 u2 u3 fun k x => mis ths k x)) (hd3_lt _)
    rw [hd3_is (D0 u2 u3 fun k x => mis ths k x)] at h3'
    omega
  refine ⟨hF, I.tops.trans ?_⟩
  unfold tops
  congr 1
  refine List.filter_congr fun i hi => ?_
  have hi3 := List.mem_range.mp hi
  rw [Bool.eq_iff_iff]
  unfold topAny
  rw [List.any_eq_true]
  constructor
  · rintro ⟨c, hc, h⟩
    rw [Bool.and_eq_true] at h
    have h1 := up c (List.mem_range.mp hc)
    have e1 := beq_iff_eq.mp h.1
    have e2 : dig c 0 = i := beq_iff_eq.mp h.2
    rw [e2] at h1
    have h2' := mn_le (D0 u2 u3 fun k x => mis ths k x) hi3
    exact beq_iff_eq.mpr (by omega)
  · intro h
    have e := beq_iff_eq.mp h
    have hy := downW_lt (u2 := u2) (u3 := u3) (a := fun k x => mis ths k x) hi3
    obtain ⟨hc, e0, e1, e2, e3⟩ := dig_of hy
    refine ⟨_, List.mem_range.mpr hc, Bool.and_eq_true_iff.mpr ⟨beq_iff_eq.mpr ?_, beq_iff_eq.mpr e0⟩⟩
    rw [cost_way h2 h3, wayE_congr h2 h3 (z := downW u2 u3 (fun k x => mis ths k x) i) (fun k hk => by
      match k, hk with
      | 0, _ => exact e0
      | 1, _ => exact e1
      | 2, _ => exact e2
      | 3, _ => exact e3), downW_hit h2 h3, e, hF]
end
end Mine
end
section
open PySem PySem.W PySem.Calls PyProof.Rows
namespace Mine
theorem file_injB : ∀ u2 < 2, ∀ u3 < 3, ∀ c < 16, ∀ c' < 16, fileP u2 u3 (c / 4) (c % 4) = fileP u2 u3 (c' / 4) (c' % 4) → c = c' := by decide +kernel
theorem file_inj (u2 : Nat) (h2 : u2 < 2) (u3 : Nat) (h3 : u3 < 3) (f : Nat) (hf : f < 4) (s : Nat) (hs : s < 4) (f' : Nat) (hf' : f' < 4) (s' : Nat) (hs' : s' < 4) (e : fileP u2 u3 f s = fileP u2 u3 f' s') : f = f' ∧ s = s' := by
  have h := file_injB u2 h2 u3 h3 (f * 4 + s) (by omega) (f' * 4 + s') (by omega)
  rw [show (f * 4 + s) / 4 = f by omega, show (f * 4 + s) % 4 = s by omega, show (f' * 4 + s') / 4 = f' by omega, show (f' * 4 + s') % 4 = s' by omega] at h
  have := h e
  omega
theorem file_fold : ∀ u2 < 2, ∀ u3 < 3, ∀ f < 4, ∀ s < 4, ∀ k < 4, fileP u2 u3 f s ≠ foldK u2 u3 k := by decide +kernel
noncomputable def okB (u2 u3 : Nat) : List Nat → List Nat → Bool
  | _, [] => true
  | done, k :: r => decide (k < 4) && (!done.contains k) && (k == 0 || done.contains (upK u2 u3 k)) && okB u2 u3 (k :: done) r
theorem ord_okB : ∀ u2 < 2, ∀ u3 < 3, okB u2 u3 [] (ordL u2 u3).reverse = true := by decide +kernel
section
variable {u2 u3 : Nat} (h2 : u2 < 2) (h3 : u3 < 3)
include h2 h3
theorem fold_inj {j k : Nat} (hj : j < 4) (hk : k < 4) (h : foldK u2 u3 j = foldK u2 u3 k) : j = k := by
  have e := fold_ne u2 h2 u3 h3 j hj k hk
  rw [h, beq_self_eq_true] at e
  exact beq_iff_eq.mp e.symm
def DInv (u2 u3 : Nat) (y : Nat → Nat) (done : List Nat) (d : Str → Option Int) : Prop :=
  (∀ k ∈ done, d (foldK u2 u3 k) = some ((y k : Nat) : Int)) ∧ ∀ q, (∀ k ∈ done, q ≠ foldK u2 u3 k) → d q = none
theorem down_folds {a : Nat → Nat → Int} {y : Nat → Nat} (y0 : y 0 = hd3 (Dk u2 u3 a 0)) (ys : ∀ k < 4, k ≠ 0 → y k = pk (Dk u2 u3 a k) (y (upK u2 u3 k))) (yl : ∀ k, y k < 3) :
    ∀ (ks done : List Nat) (d : Str → Option Int), (∀ k ∈ done, k < 4) → DInv u2 u3 y done d → okB u2 u3 done ks = true → DInv u2 u3 y (ks.reverse ++ done) (downAll (ks.map (rowD u2 u3 a)) d)
  | [], done, d, _, I, _ => I
  | k :: r, done, d, hdn, I, ok => by
    have ⟨ok1, okr⟩ := and2' ok
    have ⟨ok2, okp⟩ := and2' ok1
    have ⟨okk, okn⟩ := and2' ok2
    have hk : k < 4 := of_decide_eq_true okk
    have hm : downMark d (foldK u2 u3 k) (tops (Dk u2 u3 a k)) = ((y k : Nat) : Int) := by
      unfold downMark
      by_cases h0 : k = 0
      · subst h0
        have hn : d (dirnameF (foldK u2 u3 0)) = none := I.2 _ fun j hj e => by
          have := dir_top u2 h2 u3 h3 j (hdn j hj)
          rw [e, beq_self_eq_true] at this
          cases this
        rw [hn]
        show (tops (Dk u2 u3 a 0)).headD 0 = _
        rw [tops_head, y0]
      · have hup : upK u2 u3 k ∈ done := by
          rcases (Bool.or_eq_true _ _).mp okp with h | h
          · exact absurd (beq_iff_eq.mp h) h0
          · exact List.contains_iff_mem.mp h
        rw [dir_fold u2 h2 u3 h3 k hk h0, I.1 _ hup]
        show (if (tops (Dk u2 u3 a k)).any (· == ((y (upK u2 u3 k) : Nat) : Int)) = true then ((y (upK u2 u3 k) : Nat) : Int) else (tops (Dk u2 u3 a k)).headD 0) = _
        rw [tops_any _ (yl _), tops_head, ys k hk h0]
        unfold pk
        by_cases q : Dk u2 u3 a k (y (upK u2 u3 k)) = mn (Dk u2 u3 a k)
        · rw [if_pos (decide_eq_true q), if_pos q]
        · rw [if_neg fun z => q (of_decide_eq_true z), if_neg q]
    have I' : DInv u2 u3 y (k :: done) (downF d (foldK u2 u3 k) (tops (Dk u2 u3 a k))) := by
      refine ⟨fun j hj => ?_, fun q hq => ?_⟩
      · unfold downF
        by_cases e : foldK u2 u3 j = foldK u2 u3 k
        · rw [if_pos e, hm]
          rcases List.mem_cons.mp hj with rfl | hj
          · rfl
          · rw [fold_inj h2 h3 (hdn j hj) hk e]
        · rw [if_neg e]
          rcases List.mem_cons.mp hj with rfl | hj
          · exact absurd rfl e
          · exact I.1 j hj
      · unfold downF
        rw [if_neg (hq k (.head _))]
        exact I.2 q fun j hj => hq j (.tail _ hj)
    have := down_folds y0 ys yl r (k :: done) _ (fun j hj => (List.mem_cons.mp hj).elim (fun e => e ▸ hk) (hdn j)) I' okr
    rw [List.reverse_cons, List.append_assoc]
    exact this
omit h2 h3 in
theorem mark1 (d : Str → Option Int) (p : Str) (m : Int) : downMark d p [m] = m := by
  unfold downMark
  split
  · split
    · next h =>
      rw [List.any_cons, List.any_nil, Bool.or_false] at h
      exact (beq_iff_eq.mp h).symm
    · rfl
  · rfl
theorem down_files {M : Nat → Nat → Int} : ∀ (ps : List (Nat × Nat)) (d : Str → Option Int), (∀ p ∈ ps, p.1 < 4 ∧ p.2 < 4) →
    (∀ p ∈ ps, downAll (ps.map (fileR u2 u3 M)) d (fileP u2 u3 p.1 p.2) = some (M p.1 p.2)) ∧ ∀ q, (∀ p ∈ ps, q ≠ fileP u2 u3 p.1 p.2) → downAll (ps.map (fileR u2 u3 M)) d q = d q
  | [], d, _ => ⟨fun p hp => (nomatch hp), fun q _ => rfl⟩
  | p :: r, d, hps => by
    have hp := hps p (.head _)
    have ih := down_files (M := M) r (downF d (fileP u2 u3 p.1 p.2) [M p.1 p.2]) fun q hq => hps q (.tail _ hq)
    refine ⟨fun q hq => ?_, fun q hq => ?_⟩
    · show downAll (r.map (fileR u2 u3 M)) (downF d (fileP u2 u3 p.1 p.2) [M p.1 p.2]) _ = _
      by_cases hr : ∃ q' ∈ r, fileP u2 u3 q.1 q.2 = fileP u2 u3 q'.1 q'.2
      · obtain ⟨q', hq', e⟩ := hr
        have hq1 := hps q hq
        have hq2 := hps q' (.tail _ hq')
        obtain ⟨e1, e2⟩ := file_inj u2 h2 u3 h3 q.1 hq1.1 q.2 hq1.2 q'.1 hq2.1 q'.2 hq2.2 e
        rw [e, ih.1 q' hq', e1, e2]
      · rw [ih.2 _ fun q' hq' e => hr ⟨q', hq', e⟩]
        rcases List.mem_cons.mp hq with rfl | hq
        · unfold downF; rw [if_pos rfl, mark1]
        · exact absurd ⟨q, hq, rfl⟩ hr
    · show downAll (r.map (fileR u2 u3 M)) (downF d (fileP u2 u3 p.1 p.2) [M p.1 p.2]) _ = _
      rw [ih.2 q fun q' hq' => hq q' (.tail _ hq')]
      unfold downF
      exact if_neg (hq p (.head _))
omit h2 h3 in
theorem downAll_app (a b : List PRow) (d : Str → Option Int) : downAll (a ++ b) d = downAll b (downAll a d) := List.foldl_append ..
theorem down_all {ds : List (Nat × Nat)} {M : Nat → Nat → Int} (hds : ∀ p ∈ ds, p.1 < 4 ∧ p.2 < 4) {y : Nat → Nat} (y0 : y 0 = hd3 (Dk u2 u3 (aL ds M) 0)) (ys : ∀ k < 4, k ≠ 0 → y k = pk (Dk u2 u3 (aL ds M) k) (y (upK u2 u3 k))) (yl : ∀ k, y k < 3) :
    (∀ k < 4, downAll ((rows0 u2 u3 ds M ++ (ordL u2 u3).map (rowD u2 u3 (aL ds M))).reverse) (fun _ => none) (foldK u2 u3 k) = some ((y k : Nat) : Int)) ∧
    ∀ p ∈ ds, downAll ((rows0 u2 u3 ds M ++ (ordL u2 u3).map (rowD u2 u3 (aL ds M))).reverse) (fun _ => none) (fileP u2 u3 p.1 p.2) = some (M p.1 p.2) := by
  rw [List.reverse_append, downAll_app, ← List.map_reverse, ← List.map_reverse]
  have I := down_folds h2 h3 y0 ys yl (ordL u2 u3).reverse [] (fun _ => none) (fun k hk => nomatch hk) ⟨fun k hk => (nomatch hk), fun q _ => rfl⟩ (ord_okB u2 h2 u3 h3)
  rw [List.reverse_reverse, List.append_nil] at I
  have J := down_files (u2 := u2) (u3 := u3) h2 h3 (M := M) ds.reverse (downAll ((ordL u2 u3).reverse.map (rowD u2 u3 (aL ds M))) fun _ => none) fun p hp => hds p (List.mem_reverse.mp hp)
  refine ⟨fun k hk => ?_, fun p hp => J.1 p (List.mem_reverse.mpr hp)⟩
  rw [J.2 _ fun p hp e => by
    have hp' := hds p (List.mem_reverse.mp hp)
    exact file_fold u2 h2 u3 h3 p.1 hp'.1 p.2 hp'.2 k hk e.symm]
  exact I.1 k (ord_all u2 h2 u3 h3 k hk)
end
end Mine
end
section
open PySem PySem.W PySem.Calls PyProof.Rows
namespace Mine
theorem aL_cons (p : Nat × Nat) (ds : List (Nat × Nat)) (M : Nat → Nat → Int) (k x : Nat) : aL (p :: ds) M k x = (if p.1 = k ∧ M p.1 p.2 ≠ (x : Int) then 1 else 0) + aL ds M k x := by
  unfold aL mis thingsL
  rw [List.map_cons, List.filter_cons]
  dsimp only
  by_cases h : p.1 = k ∧ M p.1 p.2 ≠ (x : Int)
  · rw [if_pos h, if_pos (Bool.and_eq_true_iff.mpr ⟨beq_iff_eq.mpr (congrArg _ h.1), bne_iff_ne.mpr h.2⟩), List.length_cons]; omega
  · have hn : ¬ (((p.1 : Int) == (k : Int) && M p.1 p.2 != (x : Int)) = true) := fun q => h ⟨Int.ofNat.inj (beq_iff_eq.mp (Bool.and_eq_true_iff.mp q).1), bne_iff_ne.mp (Bool.and_eq_true_iff.mp q).2⟩
    rw [if_neg h, if_neg hn]; omega
theorem files_cnt (M : Nat → Nat → Int) (y : Nat → Nat) : ∀ ds : List (Nat × Nat), (∀ p ∈ ds, p.1 < 4 ∧ p.2 < 4) → (((ds.filter fun p => M p.1 p.2 != ((y p.1 : Nat) : Int)).length : Nat) : Int) = aL ds M 0 (y 0) + aL ds M 1 (y 1) + aL ds M 2 (y 2) + aL ds M 3 (y 3)
  | [], _ => rfl
  | p :: r, h => by
    have ih := files_cnt M y r fun q hq => h q (.tail _ hq)
    obtain ⟨f, s⟩ := p
    have hf : f < 4 := (h (f, s) (.head _)).1
    rw [aL_cons, aL_cons, aL_cons, aL_cons, List.filter_cons]
    dsimp only
    have one : ∀ k, (if f = k ∧ M f s ≠ ((y k : Nat) : Int) then (1 : Int) else 0) = if f = k then (if M f s ≠ ((y f : Nat) : Int) then 1 else 0) else 0 := fun k => by
      by_cases e : f = k
      · subst e
        by_cases q : M f s ≠ ((y f : Nat) : Int)
        · rw [if_pos ⟨rfl, q⟩, if_pos rfl, if_pos q]
        · rw [if_neg fun z => q z.2, if_pos rfl, if_neg q]
      · rw [if_neg fun z => e z.1, if_neg e]
    rw [one, one, one, one]
    have c : ((if (M f s != ((y f : Nat) : Int)) = true then ((f, s) :: r.filter fun p => M p.1 p.2 != ((y p.1 : Nat) : Int)) else r.filter fun p => M p.1 p.2 != ((y p.1 : Nat) : Int)).length : Int) = (if M f s ≠ ((y f : Nat) : Int) then 1 else 0) + ((r.filter fun p => M p.1 p.2 != ((y p.1 : Nat) : Int)).length : Int) := by
      by_cases q : M f s ≠ ((y f : Nat) : Int)
      · rw [if_pos q, if_pos (bne_iff_ne.mpr q), List.length_cons]; omega
      · rw [if_neg q, if_neg fun z => q (bne_iff_ne.mp z)]; omega
    rw [c, ih]
    have t4 : ∀ z : Int, (if f = 0 then z else 0) + (if f = 1 then z else 0) + (if f = 2 then z else 0) + (if f = 3 then z else 0) = z := fun z => by
      match f, hf with
      | 0, _ => exact (Int.add_zero _).trans ((Int.add_zero _).trans (Int.add_zero _))
      | 1, _ => exact (Int.add_zero _).trans ((Int.add_zero _).trans (Int.zero_add _))
      | 2, _ => exact (Int.add_zero _).trans (Int.zero_add _)
      | 3, _ => exact Int.zero_add _
    have := t4 (if M f s ≠ ((y f : Nat) : Int) then 1 else 0)
    omega
theorem ord_perm : ∀ u2 < 2, ∀ u3 < 3, ((ordL u2 u3).take 3).isPerm [1,2,3] = true := by decide +kernel
theorem ord_last : ∀ u2 < 2, ∀ u3 < 3, ordL u2 u3 = (ordL u2 u3).take 3 ++ [0] := by decide +kernel
theorem up_123 : ∀ u2 < 2, ∀ u3 < 3, upK u2 u3 1 = 0 ∧ upK u2 u3 2 = u2 ∧ upK u2 u3 3 = u3 := by decide +kernel
theorem bne_some (a b : Int) : (some a != some b) = (a != b) := rfl
theorem count_is {u2 u3 : Nat} (h2 : u2 < 2) (h3 : u3 < 3) {ds : List (Nat × Nat)} {M : Nat → Nat → Int} (hds : ∀ p ∈ ds, p.1 < 4 ∧ p.2 < 4) {y : Nat → Nat} {d : Str → Option Int} (hk : ∀ k < 4, d (foldK u2 u3 k) = some ((y k : Nat) : Int)) (hp : ∀ p ∈ ds, d (fileP u2 u3 p.1 p.2) = some (M p.1 p.2)) :
    ((((rows0 u2 u3 ds M ++ ((ordL u2 u3).take 3).map (rowD u2 u3 (aL ds M))).filter fun r => d r.path != d (dirnameF r.path)).length : Nat) : Int) = wayE u2 u3 (aL ds M) y := by
  rw [List.filter_append, List.length_append, List.filter_map, List.filter_map, List.length_map, List.length_map]
  have e1 : (ds.filter ((fun r : PRow => d r.path != d (dirnameF r.path)) ∘ fileR u2 u3 M)) = ds.filter fun p => M p.1 p.2 != ((y p.1 : Nat) : Int) := List.filter_congr fun p hp' => by
    have hq := hds p hp'
    show (d (fileP u2 u3 p.1 p.2) != d (dirnameF (fileP u2 u3 p.1 p.2))) = _
    rw [hp p hp', dir_file u2 h2 u3 h3 p.1 hq.1 p.2 hq.2, hk p.1 hq.1]; rfl
  have e2 : ((ordL u2 u3).take 3).filter ((fun r : PRow => d r.path != d (dirnameF r.path)) ∘ rowD u2 u3 (aL ds M)) = ((ordL u2 u3).take 3).filter fun k => y k != y (upK u2 u3 k) := List.filter_congr fun k hk' => by
    have pm := List.isPerm_iff.mp (ord_perm u2 h2 u3 h3)
    have hm := pm.mem_iff.mp hk'
    have hk4 : k < 4 ∧ k ≠ 0 := by
      rcases List.mem_cons.mp hm with rfl | hm
      · exact ⟨by decide, by decide⟩
      rcases List.mem_cons.mp hm with rfl | hm
      · exact ⟨by decide, by decide⟩
      · rw [List.mem_singleton.mp hm]; exact ⟨by decide, by decide⟩
    show (d (foldK u2 u3 k) != d (dirnameF (foldK u2 u3 k))) = _
    rw [dir_fold u2 h2 u3 h3 k hk4.1 hk4.2, hk k hk4.1, hk _ (up_lt u2 h2 u3 h3 k hk4.1), bne_some, Bool.eq_iff_iff, bne_iff_ne, bne_iff_ne]
    exact ⟨fun a b => a (congrArg _ b), fun a b => a (Int.ofNat.inj b)⟩
  rw [e1, e2, ((List.isPerm_iff.mp (ord_perm u2 h2 u3 h3)).filter _).length_eq]
  obtain ⟨a1, a2, a3⟩ := up_123 u2 h2 u3 h3
  have f3 : ((([1,2,3] : List Nat).filter fun k => y k != y (upK u2 u3 k)).length : Int) = dd (y 1) (y 0) + dd (y 2) (y u2) + dd (y 3) (y u3) := by
    rw [← dd_bne, ← dd_bne, ← dd_bne]
    simp only [List.filter_cons, List.filter_nil, a1, a2, a3]
    cases (y 1 != y 0) <;> cases (y 2 != y u2) <;> cases (y 3 != y u3) <;> rfl
  have f4 := files_cnt M y ds hds
  unfold wayE
  omega
theorem pre_is : ∀ u2 < 2, ∀ u3 < 3, ∀ f < 4, ∀ s < 4, ∀ k < 3, Txt.startswith (fileP u2 u3 f s) (foldK u2 u3 (k + 1) ++ Str.ofString "/") = [f, upK u2 u3 f, upK u2 u3 (upK u2 u3 f)].contains (k + 1) := by decide +kernel
theorem say_lie {u2 u3 f s : Nat} (h2 : u2 < 2) (h3 : u3 < 3) (hf : f < 4) (hs : s < 4) {sl : List (Int × Tok)} (hsl : ∀ x ∈ sl, 1 ≤ x.1 ∧ x.1 ≤ 3) :
    sayI (Hit (fun _ => false) (sl.map fun x => foldK u2 u3 x.1.toNat) (fileP u2 u3 f s) (fileP u2 u3 f s)) = if lieF u2 u3 sl f ≠ [] then 1 else 0 := by
  have key : Hit (fun _ => false) (sl.map fun x => foldK u2 u3 x.1.toNat) (fileP u2 u3 f s) (fileP u2 u3 f s) ↔ lieF u2 u3 sl f ≠ [] := by
    unfold Hit lieF
    rw [← List.length_pos_iff, List.length_pos_iff_exists_mem]
    constructor
    · rintro (h | ⟨k, h, _⟩ | ⟨d, hd, h⟩)
      · cases h
      · cases h
      · obtain ⟨x, hx, rfl⟩ := List.mem_map.mp hd
        have hx0 := hsl x hx
        obtain ⟨j, hj, e⟩ : ∃ j, j < 3 ∧ x.1.toNat = j + 1 := ⟨x.1.toNat - 1, by omega, by omega⟩
        rw [e, pre_is u2 h2 u3 h3 f hf s hs j hj, List.contains_iff_mem] at h
        have hx1 : x.1 = ((j + 1 : Nat) : Int) := by omega
        refine ⟨x.1, List.mem_filter.mpr ⟨?_, List.any_eq_true.mpr ⟨x.1, List.mem_map_of_mem (f := fun x : Int × Tok => x.1) hx, beq_iff_eq.mpr rfl⟩⟩⟩
        rw [hx1]
        exact List.mem_map_of_mem (f := fun n : Nat => (n : Int)) h
    · rintro ⟨z, hz⟩
      obtain ⟨hz1, hz2⟩ := List.mem_filter.mp hz
      obtain ⟨z', hz', e⟩ := List.any_eq_true.mp hz2
      obtain ⟨x, hx, rfl⟩ := List.mem_map.mp hz'
      have e' : x.1 = z := beq_iff_eq.mp e
      have hx0 := hsl x hx
      refine .inr (.inr ⟨_, List.mem_map_of_mem (f := fun x : Int × Tok => foldK u2 u3 x.1.toNat) hx, ?_⟩)
      obtain ⟨j, hj, e2⟩ : ∃ j, j < 3 ∧ x.1.toNat = j + 1 := ⟨x.1.toNat - 1, by omega, by omega⟩
      rw [e2, pre_is u2 h2 u3 h3 f hf s hs j hj, List.contains_iff_mem]
      have hz3 : z ∈ ([f, upK u2 u3 f, upK u2 u3 (upK u2 u3 f)].map fun n : Nat => (n : Int)) := hz1
      obtain ⟨n, hn, e3⟩ := List.mem_map.mp hz3
      have : n = j + 1 := by omega
      rw [← this]; exact hn
  unfold sayI
  by_cases h : lieF u2 u3 sl f ≠ []
  · rw [if_pos (key.mpr h), if_pos h]
  · rw [if_neg fun q => h (key.mp q), if_neg h]
noncomputable def hitB (b : Int) (s : Nat) : Bool := (List.range 3).any fun i => bitOn b i && (modL.getD i (Str.ofString "") == stemK s || Txt.startswith (stemK s) (modL.getD i (Str.ofString "") ++ Str.ofString "."))
theorem hit_b : ∀ b < 8, ∀ s < 4, (if hitB ((b : Nat) : Int) s = true then (1 : Int) else 0) = Builtin.bitAnd (((b : Nat) : Int).fdiv (2 ^ ([0,0,1,2].getD s 0))) 1 := by decide +kernel
theorem say_bit {b : Int} {s : Nat} (hb : 0 ≤ b ∧ b < 8) (hs : s < 4) : sayI (Hit (fun k => ((List.range 3).filter fun i : Nat => bitOn b i).any fun i => modL.getD i (Str.ofString "") == k) [] strStr (stemK s)) = Builtin.bitAnd (b.fdiv (2 ^ ([0,0,1,2].getD s 0))) 1 := by
  have key : Hit (fun k => ((List.range 3).filter fun i : Nat => bitOn b i).any fun i => modL.getD i (Str.ofString "") == k) [] strStr (stemK s) ↔ hitB b s = true := by
    unfold Hit hitB
    constructor
    · rintro (h | ⟨k, h, hk⟩ | ⟨d, hd, _⟩)
      · obtain ⟨i, hi, e⟩ := List.any_eq_true.mp h
        obtain ⟨h1, h2⟩ := List.mem_filter.mp hi
        exact List.any_eq_true.mpr ⟨i, h1, Bool.and_eq_true_iff.mpr ⟨h2, by rw [e]; rfl⟩⟩
      · obtain ⟨i, hi, e⟩ := List.any_eq_true.mp h
        obtain ⟨h1, h2⟩ := List.mem_filter.mp hi
        refine List.any_eq_true.mpr ⟨i, h1, Bool.and_eq_true_iff.mpr ⟨h2, ?_⟩⟩
        rw [beq_iff_eq.mp e, hk, Bool.or_true]
      · cases hd
    · intro hh
      obtain ⟨i, hi, h⟩ := List.any_eq_true.mp hh
      obtain ⟨h1, h2⟩ := Bool.and_eq_true_iff.mp h
      have hm : i ∈ (List.range 3).filter fun i : Nat => bitOn b i := List.mem_filter.mpr ⟨hi, h1⟩
      rcases (Bool.or_eq_true _ _).mp h2 with h2 | h2
      · exact .inl (List.any_eq_true.mpr ⟨i, hm, h2⟩)
      · exact .inr (.inl ⟨_, List.any_eq_true.mpr ⟨i, hm, beq_iff_eq.mpr rfl⟩, h2⟩)
  obtain ⟨n, rfl⟩ : ∃ n : Nat, b = (n : Int) := ⟨b.toNat, (Int.toNat_of_nonneg hb.1).symm⟩
  rw [← hit_b n (by omega) s hs]
  unfold sayI
  by_cases h : hitB ((n : Nat) : Int) s = true
  · rw [if_pos (key.mpr h), if_pos h]
  · rw [if_neg fun q => h (key.mp q), if_neg h]
theorem bit_le : ∀ b < 8, ∀ s < 4,0 ≤ Builtin.bitAnd (((b : Nat) : Int).fdiv (2 ^ ([0,0,1,2].getD s 0))) 1 ∧ Builtin.bitAnd (((b : Nat) : Int).fdiv (2 ^ ([0,0,1,2].getD s 0))) 1 ≤ 1 := by decide +kernel
theorem due_le {u2 u3 : Nat} {sl : List (Int × Tok)} {b : Int} (hb : 0 ≤ b ∧ b < 8) {f s : Nat} (hs : s < 4) : 0 ≤ dueF u2 u3 sl b f s ∧ dueF u2 u3 sl b f s ≤ 2 := by
  obtain ⟨n, rfl⟩ : ∃ n : Nat, b = (n : Int) := ⟨b.toNat, (Int.toNat_of_nonneg hb.1).symm⟩
  have := bit_le n (by omega) s hs
  unfold dueF
  split <;> omega
end Mine
end
section
open PySem PySem.W PySem.Calls PyProof.Rows
namespace Mine
theorem fmod_in (x : Int) {n : Int} (hn : 0 < n) : 0 ≤ x.fmod n ∧ x.fmod n < n := ⟨Int.fmod_nonneg_of_pos x hn, Int.fmod_lt_of_pos x hn⟩
noncomputable abbrev dsOf (ws : List Two) : List (Nat × Nat) := ws.map fun x => (x.a.toNat, x.b.toNat)
theorem ds_in {ws : List Two} (h : ∀ x ∈ ws, In4 x.a ∧ In4 x.b) : ∀ p ∈ dsOf ws, p.1 < 4 ∧ p.2 < 4 := fun p hp => by
  obtain ⟨x, hx, rfl⟩ := List.mem_map.mp hp
  have := h x hx
  exact ⟨by show x.a.toNat < 4; omega, by show x.b.toNat < 4; omega⟩
theorem ups_is {T : Int} {ul : List (Int × Tok)} (h : ul.map (·.1) = [0,0, T.fmod 2, (T.fdiv 2).fmod 3]) : ul.map (·.1) = (upL (T.fmod 2).toNat ((T.fdiv 2).fmod 3).toNat).map fun x : Nat => (x : Int) := by
  rw [h]
  have a := fmod_in T (n := 2) (by decide)
  have b := fmod_in (T.fdiv 2) (n := 3) (by decide)
  show _ = [((0 : Nat) : Int), ((0 : Nat) : Int), (((T.fmod 2).toNat : Nat) : Int), ((((T.fdiv 2).fmod 3).toNat : Nat) : Int)]
  rw [Int.toNat_of_nonneg a.1, Int.toNat_of_nonneg b.1]; rfl
theorem shut_in {T : Int} {sl : List (Int × Tok)} (h : sl.map (·.1) = [1 + (T.fdiv 6).fmod 3,1 + (T.fdiv 18).fmod 3]) : (∀ x ∈ sl, 1 ≤ x.1 ∧ x.1 ≤ 3) ∧ sl ≠ [] ∧ sl.length ≤ 2 := by
  have a := fmod_in (T.fdiv 6) (n := 3) (by decide)
  have b := fmod_in (T.fdiv 18) (n := 3) (by decide)
  have hl : sl.length = 2 := by simpa using congrArg List.length h
  refine ⟨fun x hx => ?_, fun e => (by rw [e] at hl; cases hl), Nat.le_of_eq hl⟩
  have hm := List.mem_map_of_mem (f := fun x : Int × Tok => x.1) hx
  rw [h] at hm
  rcases List.mem_cons.mp hm with e | hm
  · rw [e]; omega
  · rw [List.mem_singleton.mp hm]; omega
theorem drawn_in {xs : List Int} {ws : List Two} (h : ws.map Two.abs = xs.map two4) : ∀ x ∈ ws, In4 x.a ∧ In4 x.b := fun x hx => by
  have hm := List.mem_map_of_mem (f := Two.abs) hx
  rw [h] at hm
  obtain ⟨z, _, e⟩ := List.mem_map.mp hm
  have e1 : x.a = Int.fmod z 4 := (congrArg Prod.fst e).symm
  have e2 : x.b = Int.fmod (Int.fdiv z 4) 4 := (congrArg Prod.snd e).symm
  rw [In4, In4, e1, e2]
  exact ⟨fmod_in z (by decide), fmod_in (Int.fdiv z 4) (by decide)⟩
section
variable {u2 u3 : Nat} (h2 : u2 < 2) (h3 : u3 < 3) {ws : List Two} (hws : ∀ x ∈ ws, In4 x.a ∧ In4 x.b) {sl : List (Int × Tok)} {b : Int} {fl : List (Str × Tok)} {ul dl : List (Int × Tok)}
theorem files_in (hws : ∀ x ∈ ws, In4 x.a ∧ In4 x.b) (hfl : fl.map (·.1) = ws.map fun x => fileP u2 u3 x.a.toNat x.b.toNat) : ∀ r ∈ fl, ∃ f s, f < 4 ∧ s < 4 ∧ r.1 = fileP u2 u3 f s := fun r hr => by
  have hm := List.mem_map_of_mem (f := fun x : Str × Tok => x.1) hr
  rw [hfl] at hm
  obtain ⟨x, hx, e⟩ := List.mem_map.mp hm
  have := ds_in hws _ (List.mem_map_of_mem (f := fun x : Two => (x.a.toNat, x.b.toNat)) hx)
  exact ⟨_, _, this.1, this.2, e.symm⟩
include h2 h3
theorem marks_due (hws : ∀ x ∈ ws, In4 x.a ∧ In4 x.b) (hsl : ∀ x ∈ sl, 1 ≤ x.1 ∧ x.1 ≤ 3) (hb : 0 ≤ b ∧ b < 8) (hfl : fl.map (·.1) = ws.map fun x => fileP u2 u3 x.a.toNat x.b.toNat) (hdl : dl.map (·.1) = ws.map fun x => dueF u2 u3 sl b x.a.toNat x.b.toNat)
    (hul : ul.map (·.1) = fl.map fun p : Str × Tok => sayI (Hit (fun _ => false) (sl.map fun x => foldK u2 u3 x.1.toNat) p.1 p.1) + sayI (Hit (fun k => ((List.range 3).filter fun i : Nat => bitOn b i).any fun i => modL.getD i (Str.ofString "") == k) [] strStr (stemF (baseF p.1)))) : ul.map (·.1) = dl.map (·.1) := by
  rw [hul, hdl]
  have e : fl.map (fun p : Str × Tok => sayI (Hit (fun _ => false) (sl.map fun x => foldK u2 u3 x.1.toNat) p.1 p.1) + sayI (Hit (fun k => ((List.range 3).filter fun i : Nat => bitOn b i).any fun i => modL.getD i (Str.ofString "") == k) [] strStr (stemF (baseF p.1))))
      = (fl.map (·.1)).map fun q : Str => sayI (Hit (fun _ => false) (sl.map fun x => foldK u2 u3 x.1.toNat) q q) + sayI (Hit (fun k => ((List.range 3).filter fun i : Nat => bitOn b i).any fun i => modL.getD i (Str.ofString "") == k) [] strStr (stemF (baseF q))) := by rw [List.map_map]; rfl
  rw [e, hfl, List.map_map]
  refine List.map_congr_left fun x hx => ?_
  have hi := ds_in hws _ (List.mem_map_of_mem (f := fun x : Two => (x.a.toNat, x.b.toNat)) hx)
  show sayI (Hit _ _ (fileP u2 u3 x.a.toNat x.b.toNat) (fileP u2 u3 x.a.toNat x.b.toNat)) + sayI (Hit _ _ _ (stemF (baseF (fileP u2 u3 x.a.toNat x.b.toNat)))) = _
  rw [say_lie h2 h3 hi.1 hi.2 hsl, stem_is h2 h3 hi.1 hi.2, say_bit hb hi.2]; rfl
theorem gather_all {ds : List (Nat × Nat)} {M : Nat → Nat → Int} (hds : ∀ p ∈ ds, p.1 < 4 ∧ p.2 < 4) : gathF (rows0 u2 u3 ds M) ((ordL u2 u3).map (foldK u2 u3)) = rows0 u2 u3 ds M ++ (ordL u2 u3).map (rowD u2 u3 (aL ds M)) := by
  have step : ∀ j, j ≤ 4 → gathF (rows0 u2 u3 ds M) (((ordL u2 u3).take j).map (foldK u2 u3)) = rows0 u2 u3 ds M ++ ((ordL u2 u3).take j).map (rowD u2 u3 (aL ds M)) := fun j => by
    induction j with
    | zero => intro _; exact (List.append_nil _).symm
    | succ j ih =>
      intro hj
      have hj4 : j < 4 := hj
      rw [take_at (ord_get h2 h3 hj4), List.map_append, List.map_append]
      unfold gathF at ih ⊢
      rw [List.foldl_append, ih (Nat.le_of_lt hj4)]
      show _ ++ [gRow _ _] = _
      rw [gather_step h2 h3 ds M hds hj4, List.append_assoc]; rfl
  have := step 4 (Nat.le_refl 4)
  rw [List.take_of_length_le (Nat.le_of_eq (ord_len u2 h2 u3 h3))] at this
  exact this
omit h2 h3 in
theorem zip_two {α β γ δ ε ζ : Type} {f : β → δ → ζ} {l1 : List α} {l2 : List γ} {a : α → β} {c : γ → δ} {ws : List ε} {p : ε → β} {q : ε → δ} (h1 : l1.map a = ws.map p) (h2 : l2.map c = ws.map q) : List.zipWith (fun x y => f (a x) (c y)) l1 l2 = ws.map fun w => f (p w) (q w) := by
  have e : List.zipWith (fun x y => f (a x) (c y)) l1 l2 = List.zipWith f (l1.map a) (l2.map c) := by rw [List.zipWith_map]
  rw [e, h1, h2, List.zipWith_map]
  induction ws with
  | nil => rfl
  | cons w ws ih => rw [List.zipWith_cons_cons, List.map_cons]; congr 1; exact List.zipWith_self
omit h2 h3 in
theorem rows_z {M : Nat → Nat → Int} (hfl : fl.map (·.1) = ws.map fun x => fileP u2 u3 x.a.toNat x.b.toNat) (hul : ul.map (·.1) = ws.map fun x => M x.a.toNat x.b.toNat) : List.zipWith (fun p x => (⟨p.1,0, [x.1]⟩ : PRow)) fl ul = rows0 u2 u3 (dsOf ws) M := by
  rw [zip_two (f := fun (p : Str) (x : Int) => (⟨p, 0, [x]⟩ : PRow)) (a := fun x : Str × Tok => x.1) (c := fun x : Int × Tok => x.1) hfl hul]
  unfold rows0 dsOf
  rw [List.map_map]; rfl
omit h2 h3 in
theorem things_z {M : Nat → Nat → Int} (hws : ∀ x ∈ ws, In4 x.a ∧ In4 x.b) (hdl : dl.map (·.1) = ws.map fun x => M x.a.toNat x.b.toNat) : List.zipWith (fun (x : Two) d => (x.a, d.1)) ws dl = thingsL (dsOf ws) M := by
  rw [zip_two (f := fun (p : Int) (x : Int) => (p, x)) (a := fun x : Two => x.a) (c := fun x : Int × Tok => x.1) (l1 := ws) (ws := ws) rfl hdl]
  unfold thingsL dsOf
  rw [List.map_map]
  refine List.map_congr_left fun x hx => ?_
  show (x.a, _) = (((x.a.toNat : Nat) : Int), _)
  rw [Int.toNat_of_nonneg (hws x hx).1.1]
omit h2 h3 in
theorem split_last {α β : Type} {f : α → β} {rs : List α} {l : List β} {x : β} (h : rs.map f = l ++ [x]) : ∃ rs0 r0, rs = rs0 ++ [r0] ∧ rs0.map f = l ∧ f r0 = x := by
  obtain ⟨a, b, rfl, h1, h3⟩ := List.map_eq_append_iff.mp h
  cases b with
  | nil => cases h3
  | cons y b =>
    cases b with
    | nil => exact ⟨a, y, rfl, h1, by cases h3; rfl⟩
    | cons z b => cases h3
omit h2 h3 in
theorem tops_ne (D : Nat → Int) : tops D ≠ [] := fun e => by
  have h : (D (hd3 D) == mn D) = true := beq_iff_eq.mpr (hd3_is D)
  have hm : ((hd3 D : Nat) : Int) ∈ tops D := List.mem_map_of_mem (f := fun i : Nat => (i : Int)) (List.mem_filter.mpr ⟨List.mem_range.mpr (hd3_lt D), h⟩)
  rw [e] at hm; cases hm
theorem rows_end {ds : List (Nat × Nat)} {M : Nat → Nat → Int} (hds : ∀ p ∈ ds, p.1 < 4 ∧ p.2 < 4) {rs : List Row} (hra : rs.map Row.abs = rows0 u2 u3 ds M ++ (ordL u2 u3).map (rowD u2 u3 (aL ds M))) :
    ∃ rs0 r0, rs = rs0 ++ [r0] ∧ r0.path = Str.ofString "/t" ∧ r0.ch = mn (D0 u2 u3 (aL ds M)) ∧ r0.marks = tops (D0 u2 u3 (aL ds M)) ∧ (∀ r ∈ rs, r.path.length ≤ 4096 ∧ r.ms ≠ []) ∧ rs.length = ds.length + 4 ∧
      (∀ r ∈ rs0, (∃ u, downAll (rs.reverse.map Row.abs) (fun _ => none) r.path = some u) ∧ ∃ u, downAll (rs.reverse.map Row.abs) (fun _ => none) (dirnameF r.path) = some u) ∧
      (((rs0.filter fun r => downAll (rs.reverse.map Row.abs) (fun _ => none) r.path != downAll (rs.reverse.map Row.abs) (fun _ => none) (dirnameF r.path)).length : Nat) : Int) = mn (D0 u2 u3 (aL ds M)) := by
  have hx := hd3_lt (D0 u2 u3 (aL ds M))
  obtain ⟨a1, a2, a3⟩ := up_123 u2 h2 u3 h3
  have hdn := down_all h2 h3 (M := M) hds (y := downW u2 u3 (aL ds M) (hd3 (D0 u2 u3 (aL ds M)))) rfl (fun k hk h0 => by
    match k, hk, h0 with
    | 1, _, _ => rw [a1]; rfl
    | 2, _, _ =>
      rw [a2]
      match u2, h2 with
      | 0, _ => rfl
      | 1, _ => rfl
    | 3, _, _ =>
      rw [a3]
      match u3, h3 with
      | 0, _ => rfl
      | 1, _ => rfl
      | 2, _ => rfl) (downW_lt hx)
  rw [← hra, ← List.map_reverse] at hdn
  generalize downAll (rs.reverse.map Row.abs) (fun _ => none) = d at hdn ⊢
  have hlast : rs.map Row.abs = (rows0 u2 u3 ds M ++ ((ordL u2 u3).take 3).map (rowD u2 u3 (aL ds M))) ++ [rowD u2 u3 (aL ds M) 0] := by
    rw [hra]
    rw [show (ordL u2 u3).map (rowD u2 u3 (aL ds M)) = ((ordL u2 u3).take 3 ++ [0]).map (rowD u2 u3 (aL ds M)) by rw [← ord_last u2 h2 u3 h3], List.map_append, List.append_assoc]; rfl
  have hlen := congrArg List.length hra
  rw [List.length_map, List.length_append, List.length_map, List.length_map, ord_len u2 h2 u3 h3] at hlen
  obtain ⟨rs0, r0, rfl, h0, h1⟩ := split_last hlast
  have each : ∀ r ∈ rs0 ++ [r0], (∃ p ∈ ds, r.abs = fileR u2 u3 M p) ∨ ∃ k ∈ ordL u2 u3, r.abs = rowD u2 u3 (aL ds M) k := fun r hr => by
    have hm := List.mem_map_of_mem (f := Row.abs) hr
    rw [hra] at hm
    rcases List.mem_append.mp hm with hm | hm
    · obtain ⟨p, hp, e⟩ := List.mem_map.mp hm
      exact .inl ⟨p, hp, e.symm⟩
    · obtain ⟨k, hk, e⟩ := List.mem_map.mp hm
      exact .inr ⟨k, hk, e.symm⟩
  refine ⟨rs0, r0, rfl, congrArg PRow.path h1, congrArg PRow.ch h1, congrArg PRow.ms h1, fun r hr => ?_, hlen, fun r hr => ?_, ?_⟩
  · rcases each r hr with ⟨p, hp, e⟩ | ⟨k, hk, e⟩
    · have hq := hds p hp
      have e1 : r.path = fileP u2 u3 p.1 p.2 := congrArg PRow.path e
      have e2 : r.marks = [M p.1 p.2] := congrArg PRow.ms e
      exact ⟨by rw [e1]; exact Nat.le_trans (file_ok h2 h3 hq.1 hq.2).1 (by decide), fun q => by rw [Row.marks, q] at e2; cases e2⟩
    · have e1 : r.path = foldK u2 u3 k := congrArg PRow.path e
      have e2 : r.marks = tops (Dk u2 u3 (aL ds M) k) := congrArg PRow.ms e
      exact ⟨by rw [e1]; exact Nat.le_trans (fold_len u2 h2 u3 h3 k (ord_lt u2 h2 u3 h3 k hk)) (by decide), fun q => by rw [Row.marks, q] at e2; exact tops_ne _ e2.symm⟩
  · have hm := List.mem_map_of_mem (f := Row.abs) hr
    rw [h0] at hm
    rcases List.mem_append.mp hm with hm | hm
    · obtain ⟨p, hp, e⟩ := List.mem_map.mp hm
      have hq := hds p hp
      have e1 : r.path = fileP u2 u3 p.1 p.2 := (congrArg PRow.path e).symm
      rw [e1, dir_file u2 h2 u3 h3 p.1 hq.1 p.2 hq.2]
      exact ⟨⟨_, hdn.2 p hp⟩, _, hdn.1 p.1 hq.1⟩
    · obtain ⟨k, hk, e⟩ := List.mem_map.mp hm
      have hm3 := (List.isPerm_iff.mp (ord_perm u2 h2 u3 h3)).mem_iff.mp hk
      have hk4 : k < 4 ∧ k ≠ 0 := by
        rcases List.mem_cons.mp hm3 with rfl | hm3
        · exact ⟨by decide, by decide⟩
        rcases List.mem_cons.mp hm3 with rfl | hm3
        · exact ⟨by decide, by decide⟩
        · rw [List.mem_singleton.mp hm3]; exact ⟨by decide, by decide⟩
      have e1 : r.path = foldK u2 u3 k := (congrArg PRow.path e).symm
      rw [e1, dir_fold u2 h2 u3 h3 k hk4.1 hk4.2]
      exact ⟨⟨_, hdn.1 k hk4.1⟩, _, hdn.1 _ (up_lt u2 h2 u3 h3 k hk4.1)⟩
  · have c := count_is h2 h3 hds hdn.1 hdn.2
    rw [← h0, List.filter_map, List.length_map] at c
    refine c.trans ?_
    rw [downW_hit h2 h3, hd3_is (D0 u2 u3 (aL ds M))]
end
end Mine
end
section
open PySem PySem.W PySem.Calls PyProof.Rows
open PyProof.Rows.LCg (NsObj lst lst_snoc ns_obj)
namespace Mine
theorem Led.pickU {g h : Heap} {L : Addr} {m : Str → Option Value} {lits u news' : List (Addr × Obj)} (H : Led g L m h (lits ++ u)) (is : List Nat) (hd : is.Nodup) (e : (is.map fun i => lits[i]?) = news'.map some) : Led g L m h (news' ++ u) := by
  have sub : ∀ p ∈ news', p ∈ lits := fun p hp => by
    have hm := List.mem_map_of_mem (f := some) hp
    rw [← e] at hm
    obtain ⟨i, _, q⟩ := List.mem_map.mp hm
    exact List.mem_of_getElem? q
  have D := H.D
  rw [List.map_append, List.nodup_append] at D
  have P := Led.pick (⟨H.F, fun p hp => H.N p (List.mem_append_left _ hp), D.1⟩ : Led g L m h lits) is hd e
  refine ⟨H.F, fun p hp => (List.mem_append.mp hp).elim (P.N p) fun hp => H.N p (List.mem_append_right _ hp), ?_⟩
  rw [List.map_append, List.nodup_append]
  refine ⟨P.D, D.2.1, fun a ha b hb => ?_⟩
  obtain ⟨p, hp, rfl⟩ := List.mem_map.mp ha
  exact D.2.2 _ (List.mem_map_of_mem (sub p hp)) b hb
theorem Led.pickT {g h : Heap} {L : Addr} {m : Str → Option Value} {l l' : List (Addr × Obj)} (H : Led g L m h l) (n : Nat) (is : List Nat) (hd : is.Nodup) (e : (is.map fun i => (l.take n)[i]?) = (l'.take is.length).map some) (e2 : l'.drop is.length = l.drop n) : Led g L m h l' := by
  rw [← List.take_append_drop n l] at H
  have r := Led.pickU H is hd e
  rw [← e2, List.take_append_drop] at r
  exact r
theorem cells_nil {cm : Str → Option Value} {r : List (Addr × Obj)} (x : CellsAre cm [] r) : r = [] := by cases x; rfl
theorem cells_cps {P : Prop} {cm : Str → Option Value} {n : Str} {c : Addr} {cs : List (Str × Addr)} {cells : List (Addr × Obj)} (x : CellsAre cm ((n, c) :: cs) cells) (K : ∀ o r, cells = (c, o) :: r → o.data = .cell (cm n) → CellsAre cm cs r → P) : P := by
  cases x with | cons h r => exact K _ _ rfl h r
theorem cons_trans {α : Type} {a : α} {l r r' : List α} (e : l = a :: r) (e' : r = r') : l = a :: r' := e' ▸ e
theorem kc_ten {P : Prop} {cm : Str → Option Value} {n₁ n₂ n₃ n₄ n₅ n₆ n₇ n₈ n₉ n₁₀ : Str} {c₁ c₂ c₃ c₄ c₅ c₆ c₇ c₈ c₉ c₁₀ : Addr} {cells : List (Addr × Obj)} (x : CellsAre cm [(n₁, c₁), (n₂, c₂), (n₃, c₃), (n₄, c₄), (n₅, c₅), (n₆, c₆), (n₇, c₇), (n₈, c₈), (n₉, c₉), (n₁₀, c₁₀)] cells)
    (K : ∀ o₁ o₂ o₃ o₄ o₅ o₆ o₇ o₈ o₉ o₁₀, cells = [(c₁, o₁), (c₂, o₂), (c₃, o₃), (c₄, o₄), (c₅, o₅), (c₆, o₆), (c₇, o₇), (c₈, o₈), (c₉, o₉), (c₁₀, o₁₀)] → o₁.data = .cell (cm n₁) → o₂.data = .cell (cm n₂) → o₃.data = .cell (cm n₃) → o₄.data = .cell (cm n₄) → o₅.data = .cell (cm n₅) → o₆.data = .cell (cm n₆) → o₇.data = .cell (cm n₇) → o₈.data = .cell (cm n₈) → o₉.data = .cell (cm n₉) → o₁₀.data = .cell (cm n₁₀) → P) : P :=
  cells_cps x fun o1 r1 e1 h1 x1 => cells_cps x1 fun o2 r2 e2 h2 x2 => cells_cps x2 fun o3 r3 e3 h3 x3 => cells_cps x3 fun o4 r4 e4 h4 x4 => cells_cps x4 fun o5 r5 e5 h5 x5 => cells_cps x5 fun o6 r6 e6 h6 x6 => cells_cps x6 fun o7 r7 e7 h7 x7 => cells_cps x7 fun o8 r8 e8 h8 x8 => cells_cps x8 fun o9 r9 e9 h9 x9 => cells_cps x9 fun o10 r10 e10 h10 x10 => K o1 o2 o3 o4 o5 o6 o7 o8 o9 o10 (cons_trans e1 (cons_trans e2 (cons_trans e3 (cons_trans e4 (cons_trans e5 (cons_trans e6 (cons_trans e7 (cons_trans e8 (cons_trans e9 (cons_trans e10 (cells_nil x10))))))))))) h1 h2 h3 h4 h5 h6 h7 h8 h9 h10
theorem two_lt2 (T : Int) : (T.fmod 2).toNat < 2 := by have := fmod_in T (n := 2) (by decide); omega
theorem three_lt3 (T : Int) : ((T.fdiv 2).fmod 3).toNat < 3 := by have := fmod_in (T.fdiv 2) (n := 3) (by decide); omega
theorem mod_len {b : Int} {k : Str} (h : (((List.range 3).filter fun i : Nat => bitOn b i).any fun i => modL.getD i (Str.ofString "") == k) = true) : k.length ≤ 4096 := by
  obtain ⟨i, hi, e⟩ := List.any_eq_true.mp h
  have hi3 := List.mem_range.mp (List.mem_filter.mp hi).1
  rw [← beq_iff_eq.mp e]
  match i, hi3 with
  | 0, _ => decide +kernel
  | 1, _ => decide +kernel
  | 2, _ => decide +kernel

theorem news_rot {g h : Heap} {L : Addr} {a b x : Addr × Obj} {ro k u : List (Addr × Obj)} (N : News g L h (a :: b :: (ro ++ x :: (k ++ u)))) : News g L h (k ++ (x :: a :: b :: (ro ++ u))) := fun p hp => N p (by
  rcases List.mem_append.mp hp with hp | hp
  · exact .tail _ (.tail _ (List.mem_append_right _ (.tail _ (List.mem_append_left _ hp))))
  rcases List.mem_cons.mp hp with rfl | hp
  · exact .tail _ (.tail _ (List.mem_append_right _ (.head _)))
  rcases List.mem_cons.mp hp with rfl | hp
  · exact .head _
  rcases List.mem_cons.mp hp with rfl | hp
  · exact .tail _ (.head _)
  rcases List.mem_append.mp hp with hp | hp
  · exact .tail _ (.tail _ (List.mem_append_left _ hp))
  · exact .tail _ (.tail _ (List.mem_append_right _ (.tail _ (List.mem_append_right _ hp)))))
section
variable {w : World} {A : Around} {loose : List Str} {mean : ExcName → Option Value} {mg mb : Str → Option Value} {g : Heap} {gs : Array GenState} {os : OsState} {L : Addr} {Q : Flow → Shared → Prop}
theorem law_end {h : Heap} {dr : Drawn} {tk : Nat} {m : Str → Option Value} {u2 u3 : Nat} {b : Int} {o10 p3 p4 p5 p8 p9 : Obj} {FL FN MK DL DU U : Addr} {fs fl : List (Str × Tok)} {um dl ul sl : List (Int × Tok)} {ws : List Two} {us : List (Addr × Obj)} {nf kd nu nm : Nat}
    (hu2 : u2 < 2) (hu3 : u3 < 3) (hfs : fs.map (·.1) = foldL u2 u3) (hul : ul.map (·.1) = (upL u2 u3).map fun x : Nat => (x : Int)) (hws : ∀ x ∈ ws, In4 x.a ∧ In4 x.b) (hwl : ws.length ≤ 12) (hfl : fl.map (·.1) = ws.map fun x => fileP u2 u3 x.a.toNat x.b.toNat) (hdl : dl.map (·.1) = ws.map fun x => dueF u2 u3 sl b x.a.toNat x.b.toNat) (hud : um.map (·.1) = dl.map (·.1))
    (hus : ∀ x ∈ ws, (x.T, x.obj) ∈ us) (hU : m (Str.ofString "ups") = some (.ref U)) (e3 : p3.data = .cell (some (.ref DL))) (e4 : p4.data = .cell (some (.ref FL))) (e5 : p5.data = .cell (some (.ref FN))) (e8 : p8.data = .cell (some (.ref MK))) (e9 : p9.data = .cell (some (.ref DU))) (d10 : o10.data = .cell none) (G : Gnd w loose mean mg mb g) (R : Room A 30)
    (H : Led g L m h ((193, tabObj #[]) :: (L + 1 + 1 + 1 + 1 + 1 + 1 + 1 + 1 + 1 + 1, o10) :: (L + 1 + 1 + 1 + 1, p4) :: (L + 1 + 1 + 1 + 1 + 1, p5) :: (L + 1 + 1 + 1 + 1 + 1 + 1 + 1 + 1, p8) :: (FL, listOf (strsV fs).toArray nf) :: (FN, lst (strsV fl)) :: (MK, listOf (intsV um).toArray nm) :: (L + 1 + 1 + 1, p3) :: (L + 1 + 1 + 1 + 1 + 1 + 1 + 1 + 1 + 1, p9) :: (DL, lst (twosV ws)) :: (DU, listOf (intsV dl).toArray kd) :: (U, listOf (intsV ul).toArray nu) :: us))
    (hgo : ∀ (h' : Heap) (tk' : Nat) (dr' : Drawn), (∀ b o, g.get? b = some o → h'.get? b = some o) → (∃ ps, h'.get? 193 = some (tabObj ps)) → Q (.ret (.bool true)) ⟨h', gs, dr', tk', os⟩) :
    LawGo w A L (lawSt 14 :: lawSt 15 :: lawSt 16 :: lawSt 17 :: lawSt 18 :: []) Q ⟨h, gs, dr, tk, os⟩ := by
  have hdn : dl.length = ws.length := by
    have := congrArg List.length hdl
    rw [List.length_map, List.length_map] at this; exact this
  have hfn : fl.length = ws.length := by
    have := congrArg List.length hfl
    rw [List.length_map, List.length_map] at this; exact this
  have hun : um.length = dl.length := by
    have := congrArg List.length hud
    rw [List.length_map, List.length_map] at this; exact this
  have hfi := files_in hws hfl
  refine law_301 hu2 hu3 hfs (by omega) (by omega) (fun r hr => by
    obtain ⟨f, s, hf, hs, e⟩ := hfi r hr
    rw [e]; exact Nat.le_trans (file_ok hu2 hu3 hf hs).1 (by decide)) e4 e5 e8 G R H ?_
  intro h15 tk15 dr15 m15 RL rs nR ps hy15 hRL hra F15 N15 off15
  have hra' : rs.map Row.abs = rows0 u2 u3 (dsOf ws) (dueF u2 u3 sl b) ++ (ordL u2 u3).map (rowD u2 u3 (aL (dsOf ws) (dueF u2 u3 sl b))) := by
    rw [hra, rows_z (M := dueF u2 u3 sl b) hfl (hud.trans hdl), gather_all hu2 hu3 (ds_in hws)]
  clear hra H hfi
  obtain ⟨rs0, r0, rfl, hr1, hr2, hr3, hr4, hr5, hr6, hr7⟩ := rows_end hu2 hu3 (ds_in hws) hra'
  clear hra'
  have hlen : rs0.length ≤ 100 := by
    rw [List.length_append, List.length_map] at hr5
    have : [r0].length = 1 := rfl
    omega
  have hlen' : (rs0 ++ [r0]).length ≤ 100 := by rw [hr5, List.length_map]; omega
  have N16 := news_rot (k := [(L + 1 + 1 + 1, p3), (L + 1 + 1 + 1 + 1 + 1 + 1 + 1 + 1 + 1, p9), (DL, lst (twosV ws)), (DU, listOf (intsV dl).toArray kd), (U, listOf (intsV ul).toArray nu)]) N15
  refine law_302 hu2 hu3 e3 e9 hul ((hy15 _ (by decide)).trans hU) hdn hwl (fun x hx => .tail _ (.tail _ (.tail _ (List.mem_append_right _ (hus x hx))))) G R F15 N16 ?_
  intro h16 tk16 dr16 m16 Fw tF M9 ms nM hy16 hFw hTp hI F16 N17 hM9
  rw [things_z hws hdl, hul] at hI
  obtain ⟨hF, hms⟩ := few_is hu2 hu3 hI
  have hm1 : m16 (Str.ofString "rows") = some (.ref RL) := (hy16 _ (by decide)).trans hRL
  obtain rfl : Fw = r0.ch := hF.trans hr2.symm
  have N18 : News g L h16 ((RL, rowsO (rs0 ++ [r0]) nR) :: (M9, listOf (intsV ms).toArray nM) :: ((193, tabObj ps) :: (L + 1 + 1 + 1 + 1 + 1 + 1 + 1 + 1 + 1 + 1, o10) :: rowObjs (rs0 ++ [r0]))) := fun p hp => N17 p (by
    rcases List.mem_cons.mp hp with rfl | hp
    · exact .tail _ (.tail _ (.tail _ (.tail _ (.tail _ (.tail _ (.tail _ (.tail _ (.head _))))))))
    rcases List.mem_cons.mp hp with rfl | hp
    · exact .head _
    rcases List.mem_cons.mp hp with rfl | hp
    · exact .tail _ (.tail _ (.tail _ (.tail _ (.tail _ (.tail _ (.head _))))))
    rcases List.mem_cons.mp hp with rfl | hp
    · exact .tail _ (.tail _ (.tail _ (.tail _ (.tail _ (.tail _ (.tail _ (.head _)))))))
    · exact .tail _ (.tail _ (.tail _ (.tail _ (.tail _ (.tail _ (.tail _ (.tail _ (.tail _ (List.mem_append_left _ hp))))))))))
  have hr0 : r0 ∈ rs0 ++ [r0] := List.mem_append_right _ (.head _)
  refine law_303 (rs := rs0) (r := r0) hr1 hm1 hFw hTp (hms.trans hr3.symm) (.tail _ (.tail _ (rowObjs_mem hr0 _ (.head _)))) (.tail _ (.tail _ (rowObjs_mem hr0 _ (.tail _ (.head _))))) G R F16 N18 ?_
  intro h17 tk17 F17 N19
  have N20 : News g L h17 ((L + 1 + 1 + 1 + 1 + 1 + 1 + 1 + 1 + 1 + 1, o10) :: (RL, rowsO (rs0 ++ [r0]) nR) :: (rowObjs (rs0 ++ [r0]) ++ [(193, tabObj ps)])) := fun p hp => N19 p (by
    rcases List.mem_cons.mp hp with rfl | hp
    · exact .tail _ (.tail _ (.tail _ (.head _)))
    rcases List.mem_cons.mp hp with rfl | hp
    · exact .head _
    rcases List.mem_append.mp hp with hp | hp
    · exact .tail _ (.tail _ (.tail _ (.tail _ hp)))
    · rw [List.mem_singleton.mp hp]; exact .tail _ (.tail _ (.head _)))
  have off20 : ∀ p ∈ (RL, rowsO (rs0 ++ [r0]) nR) :: (rowObjs (rs0 ++ [r0]) ++ [(193, tabObj ps)]), p.1 ≠ L + 1 + 1 + 1 + 1 + 1 + 1 + 1 + 1 + 1 + 1 := fun p hp => off15 p (by
    rcases List.mem_cons.mp hp with rfl | hp
    · exact .head _
    rcases List.mem_append.mp hp with hp | hp
    · exact .tail _ (List.mem_append_left _ hp)
    · rw [List.mem_singleton.mp hp]; exact .tail _ (List.mem_append_right _ (.head _)))
  clear N15 N16 N17 N18 N19 off15
  refine law_305 (t := [(193, tabObj ps)]) d10 hm1 hlen' (fun r hr => (hr4 r hr).1) (fun r hr => (hr4 r hr).2) G R F17 N20 off20 ?_
  intro h18 tk18 dr18 q10 oD CD kvs e10 hdD hR hkl F18 N21
  exact law_306 (rs := rs0) (r0 := r0) e10 hdD hR hkl hm1 hFw hlen (fun r hr => (hr4 r (List.mem_append_left _ hr)).1) hr6 (hr7.trans hr2.symm) (fun r hr => List.mem_append_left _ (rowObjs_mem (List.mem_append_left _ hr) _ (.head _))) G R F18 N21 fun h' tk' dr' k1 k2 => hgo h' tk' dr' k1 ⟨ps, k2 _ (List.mem_append_right _ (.head _))⟩
end

section
variable {w : World} {A : Around} {loose : List Str} {mean : ExcName → Option Value} {mg mb : Str → Option Value} {g : Heap} {gs : Array GenState} {os : OsState} {L : Addr} {Q : Flow → Shared → Prop}
theorem law_body {h₁ : Heap} {dr : Drawn} {tk : Nat} {m0 : Str → Option Value} {S : Addr} {oS : Obj} {l : List (Int × Tok)} (hoS : oS.cls = .type "list" ∧ ∃ n, oS.data = .seq (intsV l).toArray n) (hSg : g.get? S = some oS) {o1 o2 o3 o4 o5 o6 o7 o8 o9 o10 : Obj} (hm0 : m0 (Str.ofString "script") = some (.ref S)) (hl : l.length ≤ 63) (hgd : A.guards = some [])
    (d1 : o1.data = .cell none) (d2 : o2.data = .cell none) (d3 : o3.data = .cell none) (d4 : o4.data = .cell none) (d5 : o5.data = .cell none) (d6 : o6.data = .cell none) (d7 : o7.data = .cell none) (d8 : o8.data = .cell none) (d9 : o9.data = .cell none) (d10 : o10.data = .cell none) (G : Gnd w loose mean mg mb g) (R : Room A 30)
    (H0 : Led g L m0 h₁ ((193, tabObj #[]) :: (L + 1 + 1 + 1 + 1 + 1 + 1 + 1 + 1 + 1 + 1, o10) :: (L + 1 + 1 + 1 + 1 + 1 + 1 + 1 + 1 + 1, o9) :: (L + 1 + 1 + 1 + 1 + 1 + 1 + 1 + 1, o8) :: (L + 1 + 1 + 1 + 1 + 1 + 1 + 1, o7) :: (L + 1 + 1 + 1 + 1 + 1 + 1, o6) :: (L + 1 + 1 + 1 + 1 + 1, o5) :: (L + 1 + 1 + 1 + 1, o4) :: (L + 1 + 1 + 1, o3) :: (L + 1 + 1, o2) :: (L + 1, o1) :: []))
    (hgo : ∀ (h' : Heap) (tk' : Nat) (dr' : Drawn), (∀ b o, g.get? b = some o → h'.get? b = some o) → (∃ ps, h'.get? 193 = some (tabObj ps)) → Q (.ret (.bool true)) ⟨h', gs, dr', tk', os⟩) :
    LawGo w A L (lawSt 0 :: lawSt 1 :: lawSt 2 :: lawSt 3 :: lawSt 4 :: lawSt 5 :: lawSt 6 :: lawSt 7 :: lawSt 8 :: lawSt 9 :: lawSt 10 :: lawSt 11 :: lawSt 12 :: lawSt 13 :: lawSt 14 :: lawSt 15 :: lawSt 16 :: lawSt 17 :: lawSt 18 :: []) Q ⟨h₁, gs, dr, tk, os⟩ := by
  refine law_283 hoS hSg hm0 G R H0 ?_
  intro h1 tk1 m1 tT hy1 hT1 H1
  generalize (l.map (·.1)).sum = T at hT1
  refine law_284 hT1 G R H1 ?_
  intro h2 tk2 m2 U nu ul hy2 hU hul0 H2
  have hT2 := (hy2 (Str.ofString "total") (by decide)).trans hT1
  have hscr : m2 (Str.ofString "script") = some (.ref S) := (hy2 _ (by decide)).trans ((hy1 _ (by decide)).trans hm0)
  have hul := ups_is hul0
  have hu2 := two_lt2 T
  have hu3 := three_lt3 T
  generalize (T.fmod 2).toNat = u2 at hul hu2
  generalize ((T.fdiv 2).fmod 3).toNat = u3 at hul hu3
  have P1 : Led g L m2 h2 ((L + 1, o1) :: (U, listOf (intsV ul).toArray nu) :: (193, tabObj #[]) :: (L + 1 + 1 + 1 + 1 + 1 + 1 + 1 + 1 + 1 + 1, o10) :: (L + 1 + 1 + 1 + 1 + 1 + 1 + 1 + 1 + 1, o9) :: (L + 1 + 1 + 1 + 1 + 1 + 1 + 1 + 1, o8) :: (L + 1 + 1 + 1 + 1 + 1 + 1 + 1, o7) :: (L + 1 + 1 + 1 + 1 + 1 + 1, o6) :: (L + 1 + 1 + 1 + 1 + 1, o5) :: (L + 1 + 1 + 1 + 1, o4) :: (L + 1 + 1 + 1, o3) :: (L + 1 + 1, o2) :: []) := Led.pickT H2 12 [11,0,1,2,3,4,5,6,7,8,9,10] (by decide) rfl rfl
  clear H2
  refine law_285 d1 hT2 G R P1 ?_
  intro h3 tk3 p1 SL nd sl e1 hsl0 H3
  obtain ⟨hsl, hsl1, hsl2⟩ := shut_in hsl0
  have P2 : Led g L m2 h3 ((L + 1 + 1, o2) :: (SL, listOf (intsV sl).toArray nd) :: (L + 1, p1) :: (U, listOf (intsV ul).toArray nu) :: (193, tabObj #[]) :: (L + 1 + 1 + 1 + 1 + 1 + 1 + 1 + 1 + 1 + 1, o10) :: (L + 1 + 1 + 1 + 1 + 1 + 1 + 1 + 1 + 1, o9) :: (L + 1 + 1 + 1 + 1 + 1 + 1 + 1 + 1, o8) :: (L + 1 + 1 + 1 + 1 + 1 + 1 + 1, o7) :: (L + 1 + 1 + 1 + 1 + 1 + 1, o6) :: (L + 1 + 1 + 1 + 1 + 1, o5) :: (L + 1 + 1 + 1 + 1, o4) :: (L + 1 + 1 + 1, o3) :: []) := Led.pickT H3 13 [12,0,1,2,3,4,5,6,7,8,9,10,11] (by decide) rfl rfl
  clear H3
  refine law_286 d2 hT2 G R P2 ?_
  intro h4 tk4 p2 tb e2 H4
  have hb := fmod_in (T.fdiv 54 + 5) (n := 8) (by decide)
  generalize (T.fdiv 54 + 5).fmod 8 = b at e2 hb
  clear hul0 hsl0 hT2 hT1
  have P3 : Led g L m2 h4 ((L + 1 + 1 + 1, o3) :: (L + 1 + 1, p2) :: (SL, listOf (intsV sl).toArray nd) :: (L + 1, p1) :: (U, listOf (intsV ul).toArray nu) :: (193, tabObj #[]) :: (L + 1 + 1 + 1 + 1 + 1 + 1 + 1 + 1 + 1 + 1, o10) :: (L + 1 + 1 + 1 + 1 + 1 + 1 + 1 + 1 + 1, o9) :: (L + 1 + 1 + 1 + 1 + 1 + 1 + 1 + 1, o8) :: (L + 1 + 1 + 1 + 1 + 1 + 1 + 1, o7) :: (L + 1 + 1 + 1 + 1 + 1 + 1, o6) :: (L + 1 + 1 + 1 + 1 + 1, o5) :: (L + 1 + 1 + 1 + 1, o4) :: []) := Led.pickT H4 13 [12,0,1,2,3,4,5,6,7,8,9,10,11] (by decide) rfl rfl
  clear H4
  refine law_287 hoS hSg d3 hscr hl G R P3 ?_
  intro h5 tk5 dr5 p3 DL ws e3 hws0 H5
  have hws := drawn_in hws0
  have hwl : ws.length ≤ 12 := by
    have := congrArg List.length hws0
    simp at this; omega
  have hus : ∀ x ∈ ws, (x.T, x.obj) ∈ ws.map fun x : Two => (x.T, x.obj) := fun x hx => List.mem_map_of_mem (f := fun x : Two => (x.T, x.obj)) hx
  replace H5 : Led g L m2 h5 ((DL, lst (twosV ws)) :: (L + 1 + 1 + 1, p3) :: (L + 1 + 1, p2) :: (SL, listOf (intsV sl).toArray nd) :: (L + 1, p1) :: (U, listOf (intsV ul).toArray nu) :: (193, tabObj #[]) :: (L + 1 + 1 + 1 + 1 + 1 + 1 + 1 + 1 + 1 + 1, o10) :: (L + 1 + 1 + 1 + 1 + 1 + 1 + 1 + 1 + 1, o9) :: (L + 1 + 1 + 1 + 1 + 1 + 1 + 1 + 1, o8) :: (L + 1 + 1 + 1 + 1 + 1 + 1 + 1, o7) :: (L + 1 + 1 + 1 + 1 + 1 + 1, o6) :: (L + 1 + 1 + 1 + 1 + 1, o5) :: (L + 1 + 1 + 1 + 1, o4) :: ws.map fun x : Two => (x.T, x.obj)) := H5
  generalize (ws.map fun x : Two => (x.T, x.obj)) = us at H5 hus
  have P4 : Led g L m2 h5 ((L + 1 + 1 + 1 + 1, o4) :: (DL, lst (twosV ws)) :: (L + 1 + 1 + 1, p3) :: (L + 1 + 1, p2) :: (SL, listOf (intsV sl).toArray nd) :: (L + 1, p1) :: (U, listOf (intsV ul).toArray nu) :: (193, tabObj #[]) :: (L + 1 + 1 + 1 + 1 + 1 + 1 + 1 + 1 + 1 + 1, o10) :: (L + 1 + 1 + 1 + 1 + 1 + 1 + 1 + 1 + 1, o9) :: (L + 1 + 1 + 1 + 1 + 1 + 1 + 1 + 1, o8) :: (L + 1 + 1 + 1 + 1 + 1 + 1 + 1, o7) :: (L + 1 + 1 + 1 + 1 + 1 + 1, o6) :: (L + 1 + 1 + 1 + 1 + 1, o5) :: us) := Led.pickT H5 14 [13,0,1,2,3,4,5,6,7,8,9,10,11,12] (by decide) rfl rfl
  clear H5
  refine law_288 G R P4 d4 ?_
  intro h6 tk6 p4 FL tf H6 e4
  have P5 : Led g L m2 h6 ((FL, listOf (strsV [(Str.ofString "/t", tf)]).toArray 0) :: (L + 1 + 1 + 1 + 1, p4) :: (U, listOf (intsV ul).toArray nu) :: (DL, lst (twosV ws)) :: (L + 1 + 1 + 1, p3) :: (L + 1 + 1, p2) :: (SL, listOf (intsV sl).toArray nd) :: (L + 1, p1) :: (193, tabObj #[]) :: (L + 1 + 1 + 1 + 1 + 1 + 1 + 1 + 1 + 1 + 1, o10) :: (L + 1 + 1 + 1 + 1 + 1 + 1 + 1 + 1 + 1, o9) :: (L + 1 + 1 + 1 + 1 + 1 + 1 + 1 + 1, o8) :: (L + 1 + 1 + 1 + 1 + 1 + 1 + 1, o7) :: (L + 1 + 1 + 1 + 1 + 1 + 1, o6) :: (L + 1 + 1 + 1 + 1 + 1, o5) :: us) := Led.pickT H6 15 [0,1,7,2,3,4,5,6,8,9,10,11,12,13,14] (by decide) rfl rfl
  clear H6
  refine law_289 hu2 hu3 hul hU e4 G R P5 ?_
  intro h7 tk7 m7 fs nf hy7 hfs H7
  have hU7 := (hy7 (Str.ofString "ups") (by decide)).trans hU
  have P6 : Led g L m7 h7 ((L + 1 + 1 + 1 + 1 + 1, o5) :: (L + 1 + 1 + 1, p3) :: (L + 1 + 1 + 1 + 1, p4) :: (DL, lst (twosV ws)) :: (FL, listOf (strsV fs).toArray nf) :: (U, listOf (intsV ul).toArray nu) :: (L + 1 + 1, p2) :: (SL, listOf (intsV sl).toArray nd) :: (L + 1, p1) :: (193, tabObj #[]) :: (L + 1 + 1 + 1 + 1 + 1 + 1 + 1 + 1 + 1 + 1, o10) :: (L + 1 + 1 + 1 + 1 + 1 + 1 + 1 + 1 + 1, o9) :: (L + 1 + 1 + 1 + 1 + 1 + 1 + 1 + 1, o8) :: (L + 1 + 1 + 1 + 1 + 1 + 1 + 1, o7) :: (L + 1 + 1 + 1 + 1 + 1 + 1, o6) :: us) := Led.pickT H7 15 [14,4,1,3,0,2,5,6,7,8,9,10,11,12,13] (by decide) rfl rfl
  clear H7
  have hT7 : ∀ x ∈ ws, (x.T, x.obj) ∈ (U, listOf (intsV ul).toArray nu) :: (L + 1 + 1, p2) :: (SL, listOf (intsV sl).toArray nd) :: (L + 1, p1) :: (193, tabObj #[]) :: (L + 1 + 1 + 1 + 1 + 1 + 1 + 1 + 1 + 1 + 1, o10) :: (L + 1 + 1 + 1 + 1 + 1 + 1 + 1 + 1 + 1, o9) :: (L + 1 + 1 + 1 + 1 + 1 + 1 + 1 + 1, o8) :: (L + 1 + 1 + 1 + 1 + 1 + 1 + 1, o7) :: (L + 1 + 1 + 1 + 1 + 1 + 1, o6) :: us := fun x hx => .tail _ (.tail _ (.tail _ (.tail _ (.tail _ (.tail _ (.tail _ (.tail _ (.tail _ (.tail _ ((hus x hx)))))))))))
  refine law_291 hu2 hu3 e3 e4 d5 hfs hws hT7 hwl G R P6 ?_
  intro h8 tk8 dr8 p5 FN fl e5 hfl H8
  clear hT7
  have P7 : Led g L m7 h8 ((L + 1 + 1 + 1 + 1 + 1 + 1, o6) :: (L + 1, p1) :: (L + 1 + 1 + 1 + 1, p4) :: (SL, listOf (intsV sl).toArray nd) :: (FL, listOf (strsV fs).toArray nf) :: (FN, lst (strsV fl)) :: (L + 1 + 1 + 1 + 1 + 1, p5) :: (L + 1 + 1 + 1, p3) :: (DL, lst (twosV ws)) :: (U, listOf (intsV ul).toArray nu) :: (L + 1 + 1, p2) :: (193, tabObj #[]) :: (L + 1 + 1 + 1 + 1 + 1 + 1 + 1 + 1 + 1 + 1, o10) :: (L + 1 + 1 + 1 + 1 + 1 + 1 + 1 + 1 + 1, o9) :: (L + 1 + 1 + 1 + 1 + 1 + 1 + 1 + 1, o8) :: (L + 1 + 1 + 1 + 1 + 1 + 1 + 1, o7) :: us) := Led.pickT H8 16 [15,9,3,8,5,0,1,2,4,6,7,10,11,12,13,14] (by decide) rfl rfl
  clear H8
  refine law_292 hu2 hu3 e1 e4 d6 hfs hsl hsl1 hsl2 G R P7 ?_
  intro h9 tk9 dr9 p6 D6 bs6 x1 dx1 MS1 DD1 IG1 a1 a2 a3 tt1 oM1 oI1 l1 n1 e6 I1 f1 H9
  have P8 : Led g L m7 h9 ((L + 1 + 1 + 1 + 1 + 1 + 1 + 1, o7) :: (L + 1 + 1, p2) :: (L + 1 + 1 + 1 + 1 + 1 + 1, p6) :: (IG1, oI1) :: (DD1, lst (strValues l1)) :: (MS1, oM1) :: (x1, instObj 180 dx1) :: (dx1, dictOf (ignEs w a1 a2 a3 MS1 DD1 IG1) 3) :: (L + 1, p1) :: (L + 1 + 1 + 1 + 1, p4) :: (SL, listOf (intsV sl).toArray nd) :: (FL, listOf (strsV fs).toArray nf) :: (FN, lst (strsV fl)) :: (L + 1 + 1 + 1 + 1 + 1, p5) :: (L + 1 + 1 + 1, p3) :: (DL, lst (twosV ws)) :: (U, listOf (intsV ul).toArray nu) :: (193, tabObj #[]) :: (L + 1 + 1 + 1 + 1 + 1 + 1 + 1 + 1 + 1 + 1, o10) :: (L + 1 + 1 + 1 + 1 + 1 + 1 + 1 + 1 + 1, o9) :: (L + 1 + 1 + 1 + 1 + 1 + 1 + 1 + 1, o8) :: us) := Led.pickT H9 22 [21,16,0,1,2,3,4,5,7,8,9,10,11,12,13,14,15,17,18,19,20] (by decide) rfl rfl
  clear H9
  refine law_293 hb e2 d7 G R P8 ?_
  intro h10 tk10 dr10 p7 D7 bs7 x2 dx2 MS2 DD2 IG2 b1 b2 b3 tt2 oM2 oI2 l2 n2 e7 I2 f2 H10
  have P9 : Led g L m7 h10 ((IG1, oI1) :: (IG2, oI2) :: (L + 1 + 1 + 1 + 1 + 1 + 1 + 1 + 1, o8) :: (L + 1 + 1 + 1 + 1 + 1, p5) :: (L + 1 + 1 + 1 + 1 + 1 + 1, p6) :: (L + 1 + 1 + 1 + 1 + 1 + 1 + 1, p7) :: (FN, lst (strsV fl)) :: (x1, instObj 180 dx1) :: (dx1, dictOf (ignEs w a1 a2 a3 MS1 DD1 IG1) 3) :: (x2, instObj 180 dx2) :: (dx2, dictOf (ignEs w b1 b2 b3 MS2 DD2 IG2) 3) :: (MS1, oM1) :: (DD1, lst (strValues l1)) :: (MS2, oM2) :: (DD2, lst (strValues l2)) :: (L + 1 + 1, p2) :: (L + 1, p1) :: (L + 1 + 1 + 1 + 1, p4) :: (SL, listOf (intsV sl).toArray nd) :: (FL, listOf (strsV fs).toArray nf) :: (L + 1 + 1 + 1, p3) :: (DL, lst (twosV ws)) :: (U, listOf (intsV ul).toArray nu) :: (193, tabObj #[]) :: (L + 1 + 1 + 1 + 1 + 1 + 1 + 1 + 1 + 1 + 1, o10) :: (L + 1 + 1 + 1 + 1 + 1 + 1 + 1 + 1 + 1, o9) :: us) := Led.pickT H10 27 [9,1,26,19,8,0,18,12,13,4,5,11,10,3,2,7,14,15,16,17,20,21,22,23,24,25] (by decide) rfl rfl
  clear H10
  have hfi := files_in hws hfl
  have hfn : fl.length ≤ 12 := by
    have := congrArg List.length hfl
    rw [List.length_map, List.length_map] at this; omega
  have hds : ∀ d ∈ sl.map (fun x => foldK u2 u3 x.1.toNat), d.length ≤ 4096 := fun d hd => by
    obtain ⟨x, hx, rfl⟩ := List.mem_map.mp hd
    have := hsl x hx
    exact Nat.le_trans (fold_len u2 hu2 u3 hu3 _ (by omega)) (by decide)
  refine law_294 hu2 hu3 I1 I2 f1 f2 hds (by rw [List.length_map]; omega) (fun k hk => mod_len hk) hfi hfn e5 e6 e7 d8 G R (.head _) (.tail _ (.head _)) (.tail _ (.tail _ (.head _))) (.tail _ (.tail _ (.tail _ (.head _)))) P9 ?_
  intro h11 tk11 dr11 p8 MK um e8 hum H11
  have P10 : Led g L m7 h11 ((L + 1 + 1 + 1 + 1 + 1 + 1 + 1 + 1 + 1, o9) :: (MK, lst (intsV um)) :: (L + 1 + 1 + 1 + 1 + 1 + 1 + 1 + 1, p8) :: (L + 1 + 1 + 1 + 1 + 1, p5) :: (FN, lst (strsV fl)) :: (L + 1 + 1, p2) :: (L + 1, p1) :: (L + 1 + 1 + 1 + 1, p4) :: (SL, listOf (intsV sl).toArray nd) :: (FL, listOf (strsV fs).toArray nf) :: (L + 1 + 1 + 1, p3) :: (DL, lst (twosV ws)) :: (U, listOf (intsV ul).toArray nu) :: (193, tabObj #[]) :: (L + 1 + 1 + 1 + 1 + 1 + 1 + 1 + 1 + 1 + 1, o10) :: us) := Led.pickT H11 25 [24,0,1,2,5,14,15,16,17,18,19,20,21,22,23] (by decide) rfl rfl
  clear H11
  refine law_295 G R P10 d9 ?_
  intro h12 tk12 p9 DU H12 e9
  have P11 : Led g L m7 h12 ((DU, listOf #[] 0) :: (L + 1 + 1 + 1 + 1 + 1 + 1 + 1 + 1 + 1, p9) :: (L + 1, p1) :: (L + 1 + 1, p2) :: (L + 1 + 1 + 1, p3) :: (DL, lst (twosV ws)) :: (SL, listOf (intsV sl).toArray nd) :: (U, listOf (intsV ul).toArray nu) :: (MK, lst (intsV um)) :: (L + 1 + 1 + 1 + 1 + 1 + 1 + 1 + 1, p8) :: (L + 1 + 1 + 1 + 1 + 1, p5) :: (FN, lst (strsV fl)) :: (L + 1 + 1 + 1 + 1, p4) :: (FL, listOf (strsV fs).toArray nf) :: (193, tabObj #[]) :: (L + 1 + 1 + 1 + 1 + 1 + 1 + 1 + 1 + 1 + 1, o10) :: us) := Led.pickT H12 16 [0,1,7,6,11,12,9,13,2,3,4,5,8,10,14,15] (by decide) rfl rfl
  clear H12
  have hT12 : ∀ x ∈ ws, (x.T, x.obj) ∈ (MK, lst (intsV um)) :: (L + 1 + 1 + 1 + 1 + 1 + 1 + 1 + 1, p8) :: (L + 1 + 1 + 1 + 1 + 1, p5) :: (FN, lst (strsV fl)) :: (L + 1 + 1 + 1 + 1, p4) :: (FL, listOf (strsV fs).toArray nf) :: (193, tabObj #[]) :: (L + 1 + 1 + 1 + 1 + 1 + 1 + 1 + 1 + 1 + 1, o10) :: us := fun x hx => .tail _ (.tail _ (.tail _ (.tail _ (.tail _ (.tail _ (.tail _ (.tail _ ((hus x hx)))))))))
  refine law_296 hu2 hu3 hb e1 e2 e3 e9 hul hU7 hws hT12 hwl hsl2 G R P11 ?_
  intro h13 tk13 dr13 m13 dl kd hy13 hdl H13
  clear hT12
  have hud := marks_due hu2 hu3 hws hsl hb hfl hdl hum
  have hdn : dl.length = ws.length := by
    have := congrArg List.length hdl
    rw [List.length_map, List.length_map] at this; exact this
  have hun : um.length = fl.length := by
    have := congrArg List.length hum
    rw [List.length_map, List.length_map] at this; exact this
  have hsm : ∀ x ∈ dl.map (·.1), 0 ≤ x ∧ x ≤ 2 := fun x hx => by
    rw [hdl] at hx
    obtain ⟨y, hy, rfl⟩ := List.mem_map.mp hx
    have := hws y hy
    exact due_le hb (by omega)
  have P12 : Led g L m13 h13 ((L + 1 + 1 + 1 + 1 + 1 + 1 + 1 + 1, p8) :: (L + 1 + 1 + 1 + 1 + 1 + 1 + 1 + 1 + 1, p9) :: (MK, lst (intsV um)) :: (DU, listOf (intsV dl).toArray kd) :: (L + 1, p1) :: (L + 1 + 1, p2) :: (L + 1 + 1 + 1, p3) :: (DL, lst (twosV ws)) :: (SL, listOf (intsV sl).toArray nd) :: (U, listOf (intsV ul).toArray nu) :: (L + 1 + 1 + 1 + 1 + 1, p5) :: (FN, lst (strsV fl)) :: (L + 1 + 1 + 1 + 1, p4) :: (FL, listOf (strsV fs).toArray nf) :: (193, tabObj #[]) :: (L + 1 + 1 + 1 + 1 + 1 + 1 + 1 + 1 + 1 + 1, o10) :: us) := Led.pickT H13 16 [9,1,8,0,2,3,4,5,6,7,10,11,12,13,14,15] (by decide) rfl rfl
  clear H13
  refine law_299 hud hsm (by omega) e8 e9 hgd G R P12 ?_
  intro h14 tk14 H14
  have P13 : Led g L m13 h14 ((193, tabObj #[]) :: (L + 1 + 1 + 1 + 1 + 1 + 1 + 1 + 1 + 1 + 1, o10) :: (L + 1 + 1 + 1 + 1, p4) :: (L + 1 + 1 + 1 + 1 + 1, p5) :: (L + 1 + 1 + 1 + 1 + 1 + 1 + 1 + 1, p8) :: (FL, listOf (strsV fs).toArray nf) :: (FN, lst (strsV fl)) :: (MK, lst (intsV um)) :: (L + 1 + 1 + 1, p3) :: (L + 1 + 1 + 1 + 1 + 1 + 1 + 1 + 1 + 1, p9) :: (DL, lst (twosV ws)) :: (DU, listOf (intsV dl).toArray kd) :: (U, listOf (intsV ul).toArray nu) :: us) := Led.pickT H14 16 [14,15,12,10,0,13,11,2,6,1,7,3,9] (by decide) rfl rfl
  clear H14
  exact law_end hu2 hu3 hfs hul hws hwl hfl hdl hud hus ((hy13 _ (by decide)).trans hU7) e3 e4 e5 e8 e9 d10 G R P13 hgo
end
end Mine
end
section
open PySem PySem.W PySem.Calls PyProof.Rows
open PyProof.Rows.LCg (NsObj lst lst_snoc ns_obj)
namespace Mine
section
variable {w : World} {A : Around} {loose : List Str} {mean : ExcName → Option Value} {mg mb : Str → Option Value} {g hp : Heap} {gs : Array GenState} {dr : Drawn} {tk : Nat} {os : OsState}
theorem law_c {S : Addr} {oS : Obj} {l : List (Int × Tok)} (hoS : oS.cls = .type "list" ∧ ∃ n, oS.data = .seq (intsV l).toArray n) {R' : Result → Shared → Prop} (hSg : g.get? S = some oS) (hl : l.length ≤ 63) (hgd : A.guards = some []) (G : Gnd w loose mean mg mb g) (hkg : ∀ b o, g.get? b = some o → hp.get? b = some o) (hsz : g.objs.size ≤ hp.objs.size)
    (hargs : ∀ p ∈ [(193, tabObj #[])], hp.get? p.1 = some p.2 ∧ g.get? p.1 = none) (R : Room A 30) (hret : ∀ (h' : Heap) (tk' : Nat) (dr' : Drawn), (∀ b o, g.get? b = some o → h'.get? b = some o) → (∃ ps, h'.get? 193 = some (tabObj ps)) → R' (.ok (.ret (.bool true))) ⟨h', gs, dr', tk', os⟩) :
    codeAny (model PySem.Challenge.rw_kt0042_01.row.prog w) A (.call (.ref 264) ⟨[.ref S], []⟩) R' ⟨hp, gs, dr, tk, os⟩ := by
  obtain ⟨hd0, dp0, fr0, gd0, un0⟩ := A
  obtain rfl : hd0 = none := R.hd
  have X := G.K; revert X; k_fill; intro X
  have T := G.T
  refine' enterCG (binds := [(Str.ofString "script", .ref S)]) ?k1 hkg hsz hargs ?k2 ?k3 ?k4 ?k5 ?k6 ?k7 ?k8 ?_ ?c1 ?c2 ?c3
  (case k1 => assumption)
  (case k2 => exact T.nolimit)
  (case k3 => exact Nat.lt_of_le_of_lt (Nat.le_add_right _ _) R.dp)
  (case k4 => k_is)
  (case k5 => k_is)
  (case k6 => first | exact BindsTo.of_eq rfl | exact binds_K (Frag.In.keeps (by assumption) hkg) rfl (by k_is) rfl rfl rfl)
  (case k7 => exact rfl)
  (case k8 => decide +kernel)
  (case c1 => exact rfl)
  (case c2 => exact rfl)
  (case c3 => exact rfl)
  intro L h₁ tk0 cells F N Y hlt
  refine kc_ten Y fun o10 o9 o8 o7 o6 o5 o4 o3 o2 o1 hE d10 d9 d8 d7 d6 d5 d4 d3 d2 d1 => ?_
  subst hE
  clear Y
  clear hkg hsz
  have low : ∀ a ∈ ([(L + 1 + 1 + 1 + 1 + 1 + 1 + 1 + 1 + 1 + 1, o10), (L + 1 + 1 + 1 + 1 + 1 + 1 + 1 + 1 + 1, o9), (L + 1 + 1 + 1 + 1 + 1 + 1 + 1 + 1, o8), (L + 1 + 1 + 1 + 1 + 1 + 1 + 1, o7), (L + 1 + 1 + 1 + 1 + 1 + 1, o6), (L + 1 + 1 + 1 + 1 + 1, o5), (L + 1 + 1 + 1 + 1, o4), (L + 1 + 1 + 1, o3), (L + 1 + 1, o2), (L + 1, o1)] : List (Addr × Obj)).map (·.1), @LT.lt Nat _ L a := fun a ha => by
    have ha' : a ∈ [10,9,8,7,6,5,4,3,2,1].map (fun i : Nat => L + i) := ha
    obtain ⟨i, hi, rfl⟩ := List.mem_map.mp ha'
    exact Nat.lt_add_of_pos_right ((by decide : ∀ i ∈ [10,9,8,7,6,5,4,3,2,1], 0 < i) i hi)
  have Dc : (([(L + 1 + 1 + 1 + 1 + 1 + 1 + 1 + 1 + 1 + 1, o10), (L + 1 + 1 + 1 + 1 + 1 + 1 + 1 + 1 + 1, o9), (L + 1 + 1 + 1 + 1 + 1 + 1 + 1 + 1, o8), (L + 1 + 1 + 1 + 1 + 1 + 1 + 1, o7), (L + 1 + 1 + 1 + 1 + 1 + 1, o6), (L + 1 + 1 + 1 + 1 + 1, o5), (L + 1 + 1 + 1 + 1, o4), (L + 1 + 1 + 1, o3), (L + 1 + 1, o2), (L + 1, o1)] : List (Addr × Obj)).map (·.1)).Nodup := by
    show ([10,9,8,7,6,5,4,3,2,1].map (fun i : Nat => L + i)).Nodup
    exact List.Pairwise.map _ (fun a b h e => h (Nat.add_left_cancel e)) (by decide : [10,9,8,7,6,5,4,3,2,1].Nodup)
  have h193 : @LT.lt Nat _ 193 L := hlt _ (.head _)
  have D1 := nodup_head (x := (193, tabObj #[])) Dc fun p hp => Nat.ne_of_gt (Nat.lt_trans h193 (low _ (List.mem_map_of_mem hp)))
  have N0 : News g L h₁ ((193, tabObj #[]) :: [(L + 1 + 1 + 1 + 1 + 1 + 1 + 1 + 1 + 1 + 1, o10), (L + 1 + 1 + 1 + 1 + 1 + 1 + 1 + 1 + 1, o9), (L + 1 + 1 + 1 + 1 + 1 + 1 + 1 + 1, o8), (L + 1 + 1 + 1 + 1 + 1 + 1 + 1, o7), (L + 1 + 1 + 1 + 1 + 1 + 1, o6), (L + 1 + 1 + 1 + 1 + 1, o5), (L + 1 + 1 + 1 + 1, o4), (L + 1 + 1 + 1, o3), (L + 1 + 1, o2), (L + 1, o1)]) := fun p hp => N p (by
    rcases List.mem_cons.mp hp with rfl | hp
    · exact List.mem_append_right _ (.head _)
    · exact List.mem_append_left _ hp)
  change LawGo w _ L (lawSt 0 :: lawSt 1 :: lawSt 2 :: lawSt 3 :: lawSt 4 :: lawSt 5 :: lawSt 6 :: lawSt 7 :: lawSt 8 :: lawSt 9 :: lawSt 10 :: lawSt 11 :: lawSt 12 :: lawSt 13 :: lawSt 14 :: lawSt 15 :: lawSt 16 :: lawSt 17 :: lawSt 18 :: []) _ ⟨h₁, gs, dr, tk0, os⟩
  exact law_body hoS hSg rfl hl hgd d1 d2 d3 d4 d5 d6 d7 d8 d9 d10 G R ⟨F, N0, D1⟩ hret
end
end Mine
end
section
open PySem PySem.W PySem.W.X PySem.Calls PyProof.Rows
open PyProof.Rows.LCg (NsObj lst lst_snoc ns_obj)
namespace Mine
theorem ints_list : ∀ {vs : List Value} {ns : List Int}, IntsAre vs ns → ∃ l : List (Int × Tok), vs = intsV l ∧ l.length = ns.length
  | _, _, .nil => ⟨[], rfl, rfl⟩
  | _, _, .cons k t r => by
    obtain ⟨l, rfl, e⟩ := ints_list r
    exact ⟨(k, t) :: l, rfl, by rw [List.length_cons, List.length_cons, e]⟩
section
variable {h : Heap} {a : Addr}
theorem hide1 (h193 : h.get? 193 = some (tabObj #[])) {b : Addr} {o : Obj} (e : h.get? b = some o) (ne : o ≠ tabObj #[]) : (hideAll h [193]).get? b = some o :=
  hideAll_get _ e fun hm => by
    rw [List.mem_singleton.mp hm, h193] at e
    exact ne (Option.some.inj e).symm
theorem hide_ns (h193 : h.get? 193 = some (tabObj #[])) {mm : Str → Option Value} (x : h.Ns a mm) : (hideAll h [193]).Ns a mm :=
  let ⟨o, es, ep, e, hd, r⟩ := x
  ⟨o, es, ep, hide1 h193 e (fun q => by rw [q] at hd; cases hd), hd, r⟩
theorem hide_top {p : Program} {loose : List Str} {mean : ExcName → Option Value} {mg mb : Str → Option Value} (h193 : h.get? 193 = some (tabObj #[])) (T : Top p loose mean mg mb h) :
    Top topProg (loose ++ (recsOf p).map (·.name) ++ (litsOf p).map (·.1) ++ (clssOf p loose).map (·.name)) mean mg mb (hideAll h [193]) where
  g := hide_ns h193 T.g
  b := hide_ns h193 T.b
  nolimit := let ⟨mc, a, r⟩ := T.nolimit; ⟨mc, hide_ns h193 a, r⟩
  nodigits := let ⟨mc, a, r⟩ := T.nodigits; ⟨mc, hide_ns h193 a, r⟩
  fn := fun d hd => absurd (show d ∈ ([] : List DefRec) from hd) List.not_mem_nil
  own := fun o ho => absurd (show o ∈ ([] : List OwnSpec) from ho) List.not_mem_nil
  const := fun x d e => by cases (show (none : Option PyData) = some d from e)
  free := fun x h1 h2 _ _ _ => T.free x h1 (fun q => h2 (List.mem_append_left _ (List.mem_append_left _ (List.mem_append_left _ q))))
    (fun q => h2 (List.mem_append_left _ (List.mem_append_left _ (List.mem_append_right _ q)))) (fun q => h2 (List.mem_append_left _ (List.mem_append_right _ q))) fun q => h2 (List.mem_append_right _ q)
  builtins := T.builtins
  tab := fun d hd => absurd (show d ∈ ([] : List DefRec) from hd) List.not_mem_nil
  bmain := let ⟨bm, ob, a1, a2, a3, a4, r⟩ := T.bmain; ⟨bm, ob, a1, a2, hide1 h193 a3 (fun q => by rw [q] at a4; cases a4), a4, r⟩
  seer := fun e => absurd (show false = true from e) Bool.false_ne_true
end
theorem kAs_is (P : Params) : kAs = (K1 P).map (·.1) := by kernel_rfl
theorem walk : WalkX viewT keepT (XL viewT []) (obsZ kAs) (valZ K1 265 543) rowT.toRowW dT [] fun f vs => PySem.call f vs := by
  intro w s₀ s₁ mg mb G Y fa o pm cd doc dV kV ho hd hcd hD hmg hg args vals as hL hpre hlay hrd hwl hlo
  wrow_args hpre hlay hrd hwl hlo
  rename_i ns hs hlay0 hL1 hr1 hl2 a4 a3 S vs wl hLs ra w1 r0 hI hr2 hc1 hcT
  have ZI : (K1 w.params).In s₀.heap := (z_facts kAs_is Y).2.1
  have KX : (K1 w.params).In s₁.heap := fun b o e => hL.keeps b o (ZI b o e)
  have h193 : s₁.heap.get? 193 = some (tabObj #[]) := KX 193 (ob193 w.params) (by kernel_rfl)
  have h197 : isCodeTable s₁.heap 193 := ⟨197, ob197 w.params, _, KX 197 (ob197 w.params) (by kernel_rfl), rfl, rfl, rfl⟩
  have e1 : mg dT.name = some (.ref 264) := mg_of KX G.T.g (by kernel_rfl)
  obtain rfl : fa = 264 := by
    rw [hmg] at e1
    exact Value.ref.inj (Option.some.inj e1)
  obtain ⟨l, rfl, hll⟩ := ints_list hI
  obtain ⟨oS, hS, hS1, hS2⟩ := hLs
  have hlen : l.length ≤ 63 := by omega
  have hnS : oS ≠ tabObj #[] := fun q => by rw [q] at hS1; cases hS1
  have kg : (K2 w.params).In (hideAll s₁.heap [193]) := fun b o e => hideAll_get _ (KX b o (K2_heap _ e)) fun hm => by
    rw [List.mem_singleton.mp hm, K2_no] at e
    cases e
  have gnd : Gnd w _ _ mg mb (hideAll s₁.heap [193]) := ⟨kg, hide_top h193 G.T⟩
  obtain ⟨hp, gs, dr, tk, os⟩ := s₁
  obtain rfl : gs = #[] := hg
  refine PySem.wpAny_call ?_
  refine law_c (oS := oS) (l := l) ⟨hS1, hS2⟩ (hide1 h193 hS hnS) hlen rfl gnd (fun b o e => of_hideAll _ e) (Nat.le_of_eq (hideAll_size _ _)) (fun p hp => by
    rw [List.mem_singleton.mp hp]
    exact ⟨h193, hideAll_none _ (.head _)⟩) ⟨rfl, by decide +kernel, by decide +kernel⟩ fun h' tk' dr' hk ht => ?_
  show GoodWG _ _ _ _ _ (.ok (.ret (.bool true))) _
  have keep : ∀ b o, b ≠ 193 → hp.get? b = some o → h'.get? b = some o := fun b o hb e => hk b o (hideAll_get _ e fun hm => hb (List.mem_singleton.mp hm))
  obtain ⟨ps, ht⟩ := ht
  refine ⟨.inl ⟨.bool true, .bool true, [], rfl, raisesW_false ?_, .bool true, ?_, unshared_nil⟩, ⟨fun b o e => ?_, fun b o e => ?_⟩, rfl, .of_eq rfl⟩
  · wrow_none_raised
  · wrow_post
  · by_cases hb : b = 193
    · subst hb
      rw [h193] at e
      obtain rfl : tabObj #[] = o := Option.some.inj e
      exact .inr (.inl ⟨h197, rfl, #[], ps, rfl, by rw [ht, Array.empty_append]⟩)
    · exact .inl (keep b o hb e)
  · by_cases hb : b = 193
    · subst hb; exact ⟨_, ht⟩
    · exact ⟨_, keep b o hb e⟩
end Mine
theorem PySem.Challenge.cw_kt0042_01_holds : PySem.Challenge.rw_kt0042_01.Holds := by
  exact Mine.head Mine.walk
end
