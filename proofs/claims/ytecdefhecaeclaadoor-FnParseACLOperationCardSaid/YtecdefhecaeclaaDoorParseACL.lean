/- FnParseACLOperation: this seat's functions and the law. No condition. -/
import Derived.Test.YtecdefhecaeclaaDoorChecked
import Derived.Test.YtecdefhecaeclaaDoorN10
import Derived.KernelRfl
namespace Go.Proofs.YtecdefhecaeclaaDoor.K
open Go Go.RowKit Go.Shelf Go.Proofs Go.Proofs.YtecdefhecaeclaaDoor.T
set_option linter.unusedVariables false
noncomputable abbrev PP : Program := Go.Proofs.Tryd.prog
def rho : Ren := ⟨fun n => match n with | 0 => 0 | 1 => 1 | 2 => 2 | 118 => 35 | 120 => 48 | 159 => 18 | 163 => 17 | 165 => 23 | 166 => 24 | 167 => 25 | 168 => 36 | 169 => 26 | 197 => 32 | 199 => 21 | 204 => 28 | 205 => 15 | 230 => 27 | 237 => 20 | 238 => 22 | 240 => 33 | 241 => 34 | 242 => 46 | 260 => 43 | 261 => 30 | 262 => 38 | 270 => 37 | 271 => 42 | 272 => 29 | 273 => 31 | 274 => 50 | 275 => 51 | 276 => 44 | 277 => 45 | 278 => 49 | 311 => 40 | 312 => 41 | 313 => 47 | 315 => 39 | 347 => 52 | 348 => 53 | 349 => 54 | 350 => 55 | 351 => 56 | 352 => 57 | 353 => 58 | 354 => 59 | 355 => 60 | 356 => 61 | 357 => 62 | 358 => 63 | 359 => 64 | 360 => 65 | 361 => 66 | 362 => 69 | 363 => 68 | 366 => 70 | 367 => 81 | _ => 0, fun n => match n with | 0 => 0 | 1 => 1 | 2 => 2 | 3 => 3 | 4 => 4 | 5 => 5 | 6 => 6 | 7 => 7 | 8 => 8 | 9 => 9 | 10 => 10 | 11 => 11 | 12 => 12 | 13 => 13 | 14 => 14 | 15 => 15 | 16 => 16 | 17 => 17 | 18 => 18 | 19 => 19 | 20 => 20 | 21 => 21 | 27 => 48 | 37 => 26 | 39 => 69 | 40 => 50 | 41 => 41 | 46 => 92 | 49 => 77 | 51 => 62 | 66 => 44 | 69 => 30 | 70 => 52 | 71 => 53 | 72 => 54 | 73 => 55 | 74 => 33 | 75 => 34 | 76 => 56 | 77 => 57 | 78 => 58 | 79 => 70 | 80 => 59 | 81 => 71 | 90 => 31 | 104 => 22 | 105 => 66 | 106 => 67 | 107 => 61 | 108 => 42 | 119 => 51 | 121 => 60 | 125 => 49 | 126 => 87 | 127 => 68 | 131 => 23 | 137 => 94 | 138 => 95 | 139 => 96 | 140 => 63 | 141 => 64 | 142 => 72 | 143 => 45 | 144 => 46 | 145 => 47 | 155 => 65 | 160 => 97 | 161 => 98 | 162 => 90 | 163 => 99 | 164 => 84 | 165 => 85 | 166 => 86 | 193 => 73 | 194 => 74 | 195 => 75 | 196 => 76 | 197 => 78 | 198 => 79 | 199 => 80 | 200 => 81 | 201 => 82 | 202 => 83 | 203 => 88 | 204 => 89 | 205 => 100 | 206 => 101 | 207 => 102 | 208 => 103 | 226 => 91 | 227 => 93 | 238 => 104 | 239 => 105 | 240 => 106 | 241 => 107 | 242 => 108 | 243 => 109 | 244 => 110 | 245 => 111 | 246 => 112 | 247 => 113 | 248 => 114 | 249 => 115 | _ => 0, fun n => match n with | 0 => 0 | 1 => 5 | 3 => 3 | 4 => 4 | 6 => 1 | 13 => 2 | _ => 0⟩
theorem lays_n163 : Lays.n163 PP rho where
  mixed := by kernel_rfl
  f120 := by kernel_rfl
  f163 := by kernel_rfl
  f197 := by kernel_rfl
  f199 := by kernel_rfl
  f237 := by kernel_rfl
  f238 := by kernel_rfl
  f260 := by kernel_rfl
  f261 := by kernel_rfl
  f271 := by kernel_rfl
  f272 := by kernel_rfl
  f273 := by kernel_rfl
  f311 := by kernel_rfl
  f312 := by kernel_rfl
  f315 := by kernel_rfl
  t0 := by kernel_rfl
  a0 := fun _ => by kernel_rfl
  z0 := fun _ => by kernel_rfl
  v0 := fun _ => by kernel_rfl
  t3 := by kernel_rfl
  a3 := fun _ => by kernel_rfl
  z3 := fun _ => by kernel_rfl
  v3 := fun _ => by kernel_rfl
  t4 := by kernel_rfl
  a4 := fun _ => by kernel_rfl
  z4 := fun _ => by kernel_rfl
  v4 := fun _ => by kernel_rfl
  t5 := by kernel_rfl
  a5 := fun _ => by kernel_rfl
  z5 := fun _ => by kernel_rfl
  v5 := fun _ => by kernel_rfl
  t9 := by kernel_rfl
  a9 := fun _ => by kernel_rfl
  z9 := fun _ => by kernel_rfl
  v9 := fun _ => by kernel_rfl
  t21 := by kernel_rfl
  a21 := fun _ => by kernel_rfl
  z21 := fun _ => by kernel_rfl
  v21 := fun _ => by kernel_rfl
  t37 := by kernel_rfl
  a37 := fun _ => by kernel_rfl
  z37 := fun _ => by kernel_rfl
  v37 := fun _ => by kernel_rfl
  t40 := by kernel_rfl
  a40 := fun _ => by kernel_rfl
  z40 := fun _ => by kernel_rfl
  v40 := fun _ => by kernel_rfl
  t46 := by kernel_rfl
  a46 := fun _ => by kernel_rfl
  z46 := fun _ => by kernel_rfl
  v46 := fun _ => by kernel_rfl
  t49 := by kernel_rfl
  a49 := fun _ => by kernel_rfl
  z49 := fun _ => by kernel_rfl
  v49 := fun _ => by kernel_rfl
  t51 := by kernel_rfl
  a51 := fun _ => by kernel_rfl
  z51 := fun _ => by kernel_rfl
  v51 := fun _ => by kernel_rfl
  t105 := by kernel_rfl
  a105 := fun _ => by kernel_rfl
  z105 := fun _ => by kernel_rfl
  v105 := fun _ => by kernel_rfl
  t119 := by kernel_rfl
  a119 := fun _ => by kernel_rfl
  z119 := fun _ => by kernel_rfl
  t138 := by kernel_rfl
  a138 := fun _ => by kernel_rfl
  z138 := fun _ => by kernel_rfl
  v138 := fun _ => by kernel_rfl
  t139 := by kernel_rfl
  a139 := fun _ => by kernel_rfl
  z139 := fun _ => by kernel_rfl
  v139 := fun _ => by kernel_rfl
  t141 := by kernel_rfl
  a141 := fun _ => by kernel_rfl
  z141 := fun _ => by kernel_rfl
  v141 := fun _ => by kernel_rfl
  t193 := by kernel_rfl
  a193 := fun _ => by kernel_rfl
  z193 := fun _ => by kernel_rfl
  v193 := fun _ => by kernel_rfl
  t194 := by kernel_rfl
  a194 := fun _ => by kernel_rfl
  z194 := fun _ => by kernel_rfl
  v194 := fun _ => by kernel_rfl
  t196 := by kernel_rfl
  a196 := fun _ => by kernel_rfl
  z196 := fun _ => by kernel_rfl
  v196 := fun _ => by kernel_rfl
  t198 := by kernel_rfl
  a198 := fun _ => by kernel_rfl
  z198 := fun _ => by kernel_rfl
  v198 := fun _ => by kernel_rfl
  t201 := by kernel_rfl
  a201 := fun _ => by kernel_rfl
  z201 := fun _ => by kernel_rfl
  v201 := fun _ => by kernel_rfl
  t226 := by kernel_rfl
  a226 := fun _ => by kernel_rfl
  z226 := fun _ => by kernel_rfl
  v226 := fun _ => by kernel_rfl
  t227 := by kernel_rfl
  a227 := fun _ => by kernel_rfl
  z227 := fun _ => by kernel_rfl
  v227 := fun _ => by kernel_rfl
  g0 := by kernel_rfl
  g3 := by kernel_rfl
  g4 := by kernel_rfl
  g6 := by kernel_rfl
theorem lays_n159 : Lays.n159 PP rho where
  mixed := by kernel_rfl
  f118 := by kernel_rfl
  f159 := by kernel_rfl
  f165 := by kernel_rfl
  f166 := by kernel_rfl
  f167 := by kernel_rfl
  f168 := by kernel_rfl
  f169 := by kernel_rfl
  f197 := by kernel_rfl
  f204 := by kernel_rfl
  f230 := by kernel_rfl
  f240 := by kernel_rfl
  f241 := by kernel_rfl
  f242 := by kernel_rfl
  f260 := by kernel_rfl
  f262 := by kernel_rfl
  f270 := by kernel_rfl
  f274 := by kernel_rfl
  f275 := by kernel_rfl
  f276 := by kernel_rfl
  f277 := by kernel_rfl
  f278 := by kernel_rfl
  f313 := by kernel_rfl
  t0 := by kernel_rfl
  a0 := fun _ => by kernel_rfl
  z0 := fun _ => by kernel_rfl
  v0 := fun _ => by kernel_rfl
  t3 := by kernel_rfl
  a3 := fun _ => by kernel_rfl
  z3 := fun _ => by kernel_rfl
  v3 := fun _ => by kernel_rfl
  t4 := by kernel_rfl
  a4 := fun _ => by kernel_rfl
  z4 := fun _ => by kernel_rfl
  v4 := fun _ => by kernel_rfl
  t5 := by kernel_rfl
  a5 := fun _ => by kernel_rfl
  z5 := fun _ => by kernel_rfl
  v5 := fun _ => by kernel_rfl
  t9 := by kernel_rfl
  a9 := fun _ => by kernel_rfl
  z9 := fun _ => by kernel_rfl
  v9 := fun _ => by kernel_rfl
  t20 := by kernel_rfl
  a20 := fun _ => by kernel_rfl
  z20 := fun _ => by kernel_rfl
  v20 := fun _ => by kernel_rfl
  t21 := by kernel_rfl
  a21 := fun _ => by kernel_rfl
  z21 := fun _ => by kernel_rfl
  v21 := fun _ => by kernel_rfl
  t37 := by kernel_rfl
  a37 := fun _ => by kernel_rfl
  z37 := fun _ => by kernel_rfl
  v37 := fun _ => by kernel_rfl
  t46 := by kernel_rfl
  a46 := fun _ => by kernel_rfl
  z46 := fun _ => by kernel_rfl
  v46 := fun _ => by kernel_rfl
  t51 := by kernel_rfl
  a51 := fun _ => by kernel_rfl
  z51 := fun _ => by kernel_rfl
  v51 := fun _ => by kernel_rfl
  t70 := by kernel_rfl
  a70 := fun _ => by kernel_rfl
  z70 := fun _ => by kernel_rfl
  v70 := fun _ => by kernel_rfl
  t72 := by kernel_rfl
  a72 := fun _ => by kernel_rfl
  z72 := fun _ => by kernel_rfl
  v72 := fun _ => by kernel_rfl
  t75 := by kernel_rfl
  a75 := fun _ => by kernel_rfl
  z75 := fun _ => by kernel_rfl
  v75 := fun _ => by kernel_rfl
  t76 := by kernel_rfl
  a76 := fun _ => by kernel_rfl
  z76 := fun _ => by kernel_rfl
  v76 := fun _ => by kernel_rfl
  t105 := by kernel_rfl
  a105 := fun _ => by kernel_rfl
  z105 := fun _ => by kernel_rfl
  v105 := fun _ => by kernel_rfl
  t107 := by kernel_rfl
  a107 := fun _ => by kernel_rfl
  z107 := fun _ => by kernel_rfl
  v107 := fun _ => by kernel_rfl
  t119 := by kernel_rfl
  a119 := fun _ => by kernel_rfl
  z119 := fun _ => by kernel_rfl
  t127 := by kernel_rfl
  a127 := fun _ => by kernel_rfl
  z127 := fun _ => by kernel_rfl
  v127 := fun _ => by kernel_rfl
  t138 := by kernel_rfl
  a138 := fun _ => by kernel_rfl
  z138 := fun _ => by kernel_rfl
  v138 := fun _ => by kernel_rfl
  t139 := by kernel_rfl
  a139 := fun _ => by kernel_rfl
  z139 := fun _ => by kernel_rfl
  v139 := fun _ => by kernel_rfl
  t160 := by kernel_rfl
  a160 := fun _ => by kernel_rfl
  z160 := fun _ => by kernel_rfl
  v160 := fun _ => by kernel_rfl
  t162 := by kernel_rfl
  a162 := fun _ => by kernel_rfl
  z162 := fun _ => by kernel_rfl
  v162 := fun _ => by kernel_rfl
  t164 := by kernel_rfl
  a164 := fun _ => by kernel_rfl
  z164 := fun _ => by kernel_rfl
  v164 := fun _ => by kernel_rfl
  t203 := by kernel_rfl
  a203 := fun _ => by kernel_rfl
  z203 := fun _ => by kernel_rfl
  v203 := fun _ => by kernel_rfl
  t206 := by kernel_rfl
  a206 := fun _ => by kernel_rfl
  z206 := fun _ => by kernel_rfl
  v206 := fun _ => by kernel_rfl
  t208 := by kernel_rfl
  a208 := fun _ => by kernel_rfl
  z208 := fun _ => by kernel_rfl
  v208 := fun _ => by kernel_rfl
  g3 := by kernel_rfl
  g4 := by kernel_rfl
  g13 := by kernel_rfl
theorem spaceX : Space.Extra PP rho := ⟨by kernel_rfl⟩
theorem buildX : Builder.Extra PP rho where
  sizeBuilder := by kernel_rfl
  liesBuilder := by kernel_rfl
  t5 := by kernel_rfl
  a5 := fun _ => by kernel_rfl
  z5 := fun _ => by kernel_rfl
  v5 := fun _ => by kernel_rfl
  infoByte := by kernel_rfl
  cellsByte := by kernel_rfl
  sizeByte := by kernel_rfl
  neB5 := by decide
theorem okT : FnOK PP 17 := ⟨_, Go.Proofs.Tryd.func17, by kernel_rfl, by kernel_rfl⟩
theorem okL : FnOK PP 18 := ⟨_, Go.Proofs.Tryd.func18, by kernel_rfl, by kernel_rfl⟩
theorem trimC : TrimC PP (AsciiTab PP) 17 := trimC_of lays_n163 spaceX rfl okT
theorem lowC : LowC PP 18 := lowC_of lays_n159 buildX rfl okL
abbrev GA : World → Prop := AsciiTab PP
theorem hG : Holds GA := asciiTab_holds PP
theorem b13 : (Go.Proofs.Tryd.f13).body.map strip = some (sc_blank 5) := by kernel_rfl
theorem ok13 : FnOK PP 13 := fnOK_of Go.Proofs.Tryd.func13 b13 (by kernel_rfl)
theorem blankC : BlankC PP 13 := ⟨ok13, fun w n => blank_ok Go.Proofs.Tryd.func13 b13 (by kernel_rfl) (by kernel_rfl) w n⟩
theorem b9 : (Go.Proofs.Tryd.f9).body.map strip = some (sc_Normal 9 3 5 26 13) := by kernel_rfl
theorem ok9 : FnOK PP 9 := fnOK_of Go.Proofs.Tryd.func9 b9 (by kernel_rfl)
theorem normC : NormC PP 9 := ⟨ok9, fun w l hl => normal_ok (by kernel_rfl) (by kernel_rfl) (by kernel_rfl) (by kernel_rfl) (by kernel_rfl) blankC Go.Proofs.Tryd.func9 b9 (by kernel_rfl) (by kernel_rfl) w l hl⟩
theorem b19 : (Go.Proofs.Tryd.f19).body.map strip = some (sc_zzIndex 9 3) := by kernel_rfl
theorem ok19 : FnOK PP 19 := fnOK_of Go.Proofs.Tryd.func19 b19 (by kernel_rfl)
theorem idxC : IdxC PP 19 := ⟨ok19, fun w l c hl => zzIndex_ok (by kernel_rfl) Go.Proofs.Tryd.func19 b19 (by kernel_rfl) (by kernel_rfl) w l c hl⟩
theorem b16 : (Go.Proofs.Tryd.f16).body.map strip = some (sc_zzReplace 9 3 26 19) := by kernel_rfl
theorem ok16 : FnOK PP 16 := fnOK_of Go.Proofs.Tryd.func16 b16 (by kernel_rfl)
theorem replC : ReplC PP 16 := ⟨ok16, fun w l c hl => zzReplace_ok (tU8 := 5) (by kernel_rfl) (by kernel_rfl) (by kernel_rfl) idxC Go.Proofs.Tryd.func16 b16 (by kernel_rfl) (by kernel_rfl) w l c hl⟩
theorem b4 : (Go.Proofs.Tryd.f4).body.map strip = some (sc_plain 9 3 5 9) := by kernel_rfl
theorem ok4 : FnOK PP 4 := fnOK_of Go.Proofs.Tryd.func4 b4 (by kernel_rfl)
theorem plainC : PlainC PP 4 := ⟨ok4, fun w l => plain_ok (by kernel_rfl) normC Go.Proofs.Tryd.func4 b4 (by kernel_rfl) (by kernel_rfl) w l⟩
theorem b14 : (Go.Proofs.Tryd.f14).body.map strip = some (sc_strnorm 16 17 18) := by kernel_rfl
theorem ok14 : FnOK PP 14 := fnOK_of Go.Proofs.Tryd.func14 b14 (by kernel_rfl)
theorem strC : StrC PP GA 14 := ⟨ok14, fun w l hg hp => strnorm_ok hG replC trimC lowC Go.Proofs.Tryd.func14 b14 (by kernel_rfl) (by kernel_rfl) w l hg hp⟩
theorem b15 : (Go.Proofs.Tryd.f15).body.map strip = some (sc_errNew 47 45) := by kernel_rfl
theorem ok15 : FnOK PP 15 := fnOK_of Go.Proofs.Tryd.func15 b15 (by kernel_rfl)
theorem errC : ErrC PP etx 15 := ⟨ok15, fun w => errNew_ok (by kernel_rfl) (by kernel_rfl) Go.Proofs.Tryd.func15 b15 (by kernel_rfl) (by kernel_rfl) w⟩
theorem b10 : (Go.Proofs.Tryd.f10).body.map strip = some (sc_kParse 9 14 15) := by kernel_rfl
theorem ok10 : FnOK PP 10 := fnOK_of Go.Proofs.Tryd.func10 b10 (by kernel_rfl)
theorem kParC : KParC PP GA 10 := ⟨ok10, fun w l hg hp => kParse_ok hG strC errC Go.Proofs.Tryd.func10 b10 (by kernel_rfl) (by kernel_rfl) w l hg hp⟩
theorem b5 : (Go.Proofs.Tryd.f5).body.map strip = some (sc_iParse 34 32 3 10) := by kernel_rfl
theorem ok5 : FnOK PP 5 := fnOK_of Go.Proofs.Tryd.func5 b5 (by kernel_rfl)
theorem iParC : IParC PP GA 5 := ⟨ok5, fun w l hg hp => iParse_ok (by kernel_rfl) (by kernel_rfl) (by kernel_rfl) kParC Go.Proofs.Tryd.func5 b5 (by kernel_rfl) (by kernel_rfl) w l hg hp⟩
theorem b11 : (Go.Proofs.Tryd.f11).body.map strip = some (sc_kUnm 26 9 32 10) := by kernel_rfl
theorem ok11 : FnOK PP 11 := fnOK_of Go.Proofs.Tryd.func11 b11 (by kernel_rfl)
theorem unmC : UnmC PP GA 32 11 := ⟨ok11, fun w l S base cap b v0 hg hp hs hr => kUnm_ok (by kernel_rfl) (by kernel_rfl) kParC Go.Proofs.Tryd.func11 b11 (by kernel_rfl) (by kernel_rfl) w l S base cap b v0 hg hp hs hr⟩
theorem b6 : (Go.Proofs.Tryd.f6).body.map strip = some (sc_iOfText 32 26 34 3 11) := by kernel_rfl
theorem ok6 : FnOK PP 6 := fnOK_of Go.Proofs.Tryd.func6 b6 (by kernel_rfl)
theorem ofTC : OfTC2 PP GA 6 := ⟨ok6, fun w l S base cap hg hp hs hS => iOfText_ok (tU8 := 5) hG (by kernel_rfl) (by kernel_rfl) (by kernel_rfl) (by kernel_rfl) (by kernel_rfl) (by kernel_rfl) unmC Go.Proofs.Tryd.func6 b6 (by kernel_rfl) (by kernel_rfl) w l S base cap hg hp hs hS⟩
theorem b8 : (Go.Proofs.Tryd.f8).body.map strip = some (sc_names 40 28) := by kernel_rfl
theorem ok8 : FnOK PP 8 := fnOK_of Go.Proofs.Tryd.func8 b8 (by kernel_rfl)
theorem bN : ∀ (n : Int) (s : ByteArray), PP.built 40 [(0, .int .i64 n), (1, .string s)] = some #[.int .i64 n, .string s] := fun _ _ => by kernel_rfl
noncomputable def iNam : TypeInfo := (PP.info? 40).get (by kernel_rfl)
noncomputable def zNam : Value := iNam.zero.get (by kernel_rfl)
theorem infoNam : PP.info? 40 = some iNam := by kernel_rfl
theorem zeroNam : iNam.zero = some zNam := by kernel_rfl
theorem sizeNam : iNam.size = 2 := by kernel_rfl
theorem cellsNam : zNam.cells.size = 2 := by kernel_rfl
theorem namesC : NamesC PP 40 8 := ⟨ok8, fun w => names_ok bN (by kernel_rfl) ⟨iNam, zNam, infoNam, zeroNam, sizeNam⟩ Go.Proofs.Tryd.func8 b8 (by kernel_rfl) (by kernel_rfl) w⟩
theorem b12 : (Go.Proofs.Tryd.f12).body.map strip = some (sc_Parsed 28 3 40 9 9) := by kernel_rfl
theorem ok12 : FnOK PP 12 := fnOK_of Go.Proofs.Tryd.func12 b12 (by kernel_rfl)
theorem ParsedCC : ParsedC PP 40 12 := ⟨ok12, fun w b l hn hl => Parsed_ok (by kernel_rfl) (by kernel_rfl) (by kernel_rfl) (by kernel_rfl) ⟨iNam, zNam, infoNam, zeroNam, cellsNam⟩ (by kernel_rfl) (by kernel_rfl) (by kernel_rfl) (by kernel_rfl) normC Go.Proofs.Tryd.func12 b12 (by kernel_rfl) (by kernel_rfl) w b l hn hl⟩
theorem b7 : (Go.Proofs.Tryd.f7).body.map strip = some (sc_parsed 4 3 12) := by kernel_rfl
theorem ok7 : FnOK PP 7 := fnOK_of Go.Proofs.Tryd.func7 b7 (by kernel_rfl)
theorem parsedCC : parsedC PP 40 7 := ⟨ok7, fun w b l hn hl => parsed_ok (by kernel_rfl) ParsedCC Go.Proofs.Tryd.func7 b7 (by kernel_rfl) (by kernel_rfl) w b l hn hl⟩
theorem b3 : (Go.Proofs.Tryd.f3).body.map strip = some (sc_LawParse 9 3 4 26 4 5 6 8 7) := by kernel_rfl
theorem ok3 : FnOK PP 3 := fnOK_of Go.Proofs.Tryd.func3 b3 (by kernel_rfl)
theorem law (w : World) (l : Bytes) (hg : GA w) : Calls PP 3 #[.string ⟨l.toArray⟩] w fun e w' => e = .returned (.bool true) ∧ Below w.heap.size w w' :=
  lawParse_ok (T40 := 40) (E := 5) hG (by kernel_rfl) (by kernel_rfl) (by kernel_rfl) plainC iParC ofTC namesC parsedCC Go.Proofs.Tryd.func3 b3 (by kernel_rfl) (by kernel_rfl) w l hg
end Go.Proofs.YtecdefhecaeclaaDoor.K
