/- FnTellHeader: what is written is read, what ends ahead of its end is an error: this seat's functions and the law. No condition. -/
import Derived.Test.YtgaplicnofhliaaDoorChecked
import Derived.Test.YtgaplicnofhliaaDoorN12
import Derived.KernelRfl
namespace Go.Proofs.YtgaplicnofhliaaDoor.K
open Go Go.RowKit Go.Proofs Go.Proofs.YtgaplicnofhliaaDoor.T
set_option linter.unusedVariables false
def X : STy := { I := 3, B := 4, U8 := 5, U32 := 102, U64 := 114, Bs := 22, F := 70, Fs := 30, T := 26, Ts := 23, Tg := 104, Tgs := 24, I64 := 2, M := 32, U := 122 }
noncomputable abbrev PP : Program := Go.Proofs.Tryd.prog
abbrev G0 : List (Nat × Bytes) → Prop := fun _ => True
theorem hX0 : sOK PP X = true := by kernel_rfl
theorem hX : stOK PP X = true := by kernel_rfl
theorem hm : PP.follows .mixedOrders = true := by kernel_rfl
theorem sT : sliceN PP X.Bs = some 1 := by kernel_rfl
theorem iI : intK PP X.I = some .i64 := by kernel_rfl
theorem b13 : (Go.Proofs.Tryd.f13).body.map strip = some (sc_Same X.Bs X.I X.U8) := by kernel_rfl
theorem ok13 : FnOK PP 13 := fnOK_of Go.Proofs.Tryd.func13 b13 (by kernel_rfl)
theorem cSame (w : World) (xs : Bytes) (b1 b2 : Option Addr) (c1 c2 : Nat) (h1 : BytesAt w (fun k => k < w.heap.size) b1 xs) (h2 : BytesAt w (fun k => k < w.heap.size) b2 xs) (h3 : xs.length ≤ lim) : Calls PP 13 #[.slice b1 xs.length c1, .slice b2 xs.length c2] w fun e w' => e = .returned (.bool true) ∧ Below w.heap.size w w' := same_ok hX0 hm Go.Proofs.Tryd.func13 b13 (by kernel_rfl) (by kernel_rfl) w xs b1 b2 c1 c2 h1 h2 h3
theorem b11 : (Go.Proofs.Tryd.f11).body.map strip = some (sc_version X.U8 X.I) := by kernel_rfl
theorem ok11 : FnOK PP 11 := fnOK_of Go.Proofs.Tryd.func11 b11 (by kernel_rfl)
theorem cVer (w : World) (n m : Nat) (h1 : n < 256) (h2 : m < 65536) : Calls PP 11 #[.int .u8 (n : Int), .int .i64 (m : Int)] w fun e w' => e = .returned (.int .i64 ((n % (m + 1) : Nat) : Int)) ∧ w = w' := version_ok hX0 Go.Proofs.Tryd.func11 b11 (by kernel_rfl) (by kernel_rfl) w n m h1 h2
def rids : RIds := { tRd := 134, tTags := 0, tI8 := 121, tI16 := 64, tI32 := 21, tBool := 4, rBool := 0, rI8 := 0, rI16 := 85, rI32 := 80, rI64 := 0, rU16 := 0, rUuid := 0, rStr := 77, rUStr := 76, rCStr := 0, rUCStr := 0, rNStr := 0, rUNStr := 0, rCNStr := 0, rUCNStr := 0, rBytes := 0, rCBytes := 0, rNBytes := 0, rArr := 79, rCArr := 0, rOk := 0, rCompl := 78, rTags := 0 }
def R : RTy := { TR := 134, TB := 22, U8 := 5, I := 3, Bo := 4 }
/-- the error that the package returns -/
def errV (a : Addr) : Value := .iface 152 (.pointer (some a))
abbrev GlE (a : Addr) : World → Prop := fun w => w.cell? ⟨0, 0, none⟩ = some (errV a)
theorem rdO : rdOK PP R = true := by kernel_rfl
theorem hBE : aggN PP 145 = some 0 := by kernel_rfl
theorem hBE1 : oneB PP 145 = false := by kernel_rfl
theorem b78 : (Go.Proofs.Tryd.f78).body.map strip = some (sc_RComplete R 73 0) := by kernel_rfl
theorem ok78 : FnOK PP 78 := fnOK_of Go.Proofs.Tryd.func78 b78 (by kernel_rfl)
theorem b92 : (Go.Proofs.Tryd.f92).body.map strip = some (sc_BE16 145 R.TB R.U8 42 122) := by kernel_rfl
theorem be2 : BeC PP 92 2 .u16 := beC2 hm rdO (by kernel_rfl) Go.Proofs.Tryd.func92 b92 (by kernel_rfl) (by kernel_rfl) (by kernel_rfl)
theorem b90 : (Go.Proofs.Tryd.f90).body.map strip = some (sc_BE32 145 R.TB R.U8 102 122) := by kernel_rfl
theorem be4 : BeC PP 90 4 .u32 := beC4 hm rdO (by kernel_rfl) Go.Proofs.Tryd.func90 b90 (by kernel_rfl) (by kernel_rfl) (by kernel_rfl)
theorem b85 : (Go.Proofs.Tryd.f85).body.map strip = some (sc_RNumS R 145 92 1 42 64 2 .i16) := by kernel_rfl
theorem rI16C : RC PP rids.tRd 1 85 (pInt 2) (fun v => ∃ n, v = .int .i16 n) (fun _ _ n v => v = .int .i16 n) := rNumS_ok (ku := .u16) rfl hm rdO hBE hBE1 be2 (by decide) (by kernel_rfl) (by kernel_rfl) (fun n hn => wrap_i16s hn) Go.Proofs.Tryd.func85 b85 (by kernel_rfl) (by kernel_rfl) (by kernel_rfl)
theorem b80 : (Go.Proofs.Tryd.f80).body.map strip = some (sc_RNumS R 145 90 1 102 21 4 .i32) := by kernel_rfl
theorem rI32C : RC PP rids.tRd 1 80 (pInt 4) (fun v => ∃ n, v = .int .i32 n) (fun _ _ n v => v = .int .i32 n) := rNumS_ok (ku := .u32) rfl hm rdO hBE hBE1 be4 (by decide) (by kernel_rfl) (by kernel_rfl) (fun n hn => wrap_i32s hn) Go.Proofs.Tryd.func80 b80 (by kernel_rfl) (by kernel_rfl) (by kernel_rfl)
theorem b89 : (Go.Proofs.Tryd.f89).body.map strip = some (sc_RSpan R) := by kernel_rfl
theorem spC : SpC PP rids.tRd 89 := rSpan_ok rfl rdO Go.Proofs.Tryd.func89 b89 (by kernel_rfl) (by kernel_rfl) (by kernel_rfl)
theorem b77 : (Go.Proofs.Tryd.f77).body.map strip = some (sc_RStr 64 3 22 9 85 89) := by kernel_rfl
theorem rStrC : RC PP rids.tRd 1 77 (pPrim false false .str) (tyP false .str) (okP false .str) := rStr_ok rfl rdO (by kernel_rfl) (by kernel_rfl) (by kernel_rfl) rI16C spC Go.Proofs.Tryd.func77 b77 (by kernel_rfl) (by kernel_rfl) (by kernel_rfl)
theorem b79 : (Go.Proofs.Tryd.f79).body.map strip = some (sc_RArr R 21 80) := by kernel_rfl
theorem rArrC : RC PP rids.tRd 1 79 (pLen false) (fun v => ∃ n, v = .int .i32 n) (fun _ _ n v => v = .int .i32 n) := rArr_ok rfl rdO (by kernel_rfl) rI32C Go.Proofs.Tryd.func79 b79 (by kernel_rfl) (by kernel_rfl) (by kernel_rfl)
theorem kr (a : Addr) : KR PP rids rids.tRd 1 (errV a) (GlE a) where
  num := fun k h1 h2 => by
    cases k
    · exact absurd rfl h2
    · exact absurd rfl h2
    · exact num_i16 rI16C
    · exact num_i32 rI32C
    · exact absurd rfl h2
    · exact absurd rfl h2
    all_goals exact absurd h1 (by decide)
  uuid := fun h => absurd rfl h
  str := fun _ => rStrC
  cstr := fun h => absurd rfl h
  nstr := fun h => absurd rfl h
  cnstr := fun h => absurd rfl h
  bytes := fun h => absurd rfl h
  cbytes := fun h => absurd rfl h
  nbytes := fun h => absurd rfl h
  arr := fun _ => rArrC
  carr := fun h => absurd rfl h
  tags := fun h => absurd rfl h
  okF := fun h => absurd rfl h
  ok := fun h => absurd rfl h
  complF := ok78
  compl := fun w S rb st hg h => rComplete_ok rdO (by kernel_rfl) (.inr trivial) Go.Proofs.Tryd.func78 b78 (by kernel_rfl) (by kernel_rfl) w S rb st hg h
theorem b94 : (Go.Proofs.Tryd.f94).body.map strip = some (sc_KUvarint R.TB R.I R.U8 102 122) := by kernel_rfl
theorem kuvC : UvC PP 94 := uvC rdO (by kernel_rfl) Go.Proofs.Tryd.func94 b94 (by kernel_rfl) (by kernel_rfl) (by kernel_rfl)
theorem b93 : (Go.Proofs.Tryd.f93).body.map strip = some (sc_KVarint 102 122 21 94) := by kernel_rfl
theorem kvC : VarC PP 93 := kVarint_ok (by kernel_rfl) (by kernel_rfl) kuvC Go.Proofs.Tryd.func93 b93 (by kernel_rfl) (by kernel_rfl) (by kernel_rfl)
theorem b91 : (Go.Proofs.Tryd.f91).body.map strip = some (sc_RVarint R 93) := by kernel_rfl
theorem rVarC : RC PP rids.tRd 1 91 pVar (fun v => ∃ n, v = .int .i32 n) (fun _ _ n v => v = .int .i32 n) := rVarint_ok rfl rdO kvC Go.Proofs.Tryd.func91 b91 (by kernel_rfl) (by kernel_rfl) (by kernel_rfl)
theorem b84 : (Go.Proofs.Tryd.f84).body.map strip = some (sc_VarintBytes 21 3 91 89) := by kernel_rfl
theorem vbC : VBC PP rids.tRd 1 84 := varintBytes_ok (by kernel_rfl) (by kernel_rfl) rVarC spC Go.Proofs.Tryd.func84 b84 (by kernel_rfl) (by kernel_rfl) (by kernel_rfl)
theorem b83 : (Go.Proofs.Tryd.f83).body.map strip = some (sc_VarintString 22 9 84) := by kernel_rfl
theorem vsC : VSC PP rids.tRd 1 83 := varintString_ok (by kernel_rfl) vbC Go.Proofs.Tryd.func83 b83 (by kernel_rfl) (by kernel_rfl) (by kernel_rfl)
theorem b81 : (Go.Proofs.Tryd.f81).body.map strip = some (.skip) := by kernel_rfl
theorem ok81 : FnOK PP 81 := fnOK_of Go.Proofs.Tryd.func81 b81 (by kernel_rfl)
theorem cDef (w : World) (v : Value) : Calls PP 81 #[v] w fun e w' => e = .returned (.tuple #[]) ∧ w' = w := skip_ok Go.Proofs.Tryd.func81 b81 (by kernel_rfl) (by kernel_rfl) w v
theorem b66 : (Go.Proofs.Tryd.f66).body.map strip = some (sc_HdrRead 134 96 9 22 81 82 83 84 78) := by kernel_rfl
theorem ok66 : FnOK PP 66 := fnOK_of Go.Proofs.Tryd.func66 b66 (by kernel_rfl)
theorem hdrC (a : Addr) : HdrC PP 96 1 (errV a) (GlE a) 66 := hdrRead_ok (by kernel_rfl) (by kernel_rfl) (by kernel_rfl) (by kernel_rfl) (by kernel_rfl) ok81 cDef vsC vbC (kr a).complF (kr a).compl Go.Proofs.Tryd.func66 b66 (by kernel_rfl) (by kernel_rfl)
theorem b44 : (Go.Proofs.Tryd.f44).body.map strip = some (sc_ReadFromW 66) := by kernel_rfl
theorem ok44 : FnOK PP 44 := fnOK_of Go.Proofs.Tryd.func44 b44 (by kernel_rfl)
theorem b37 : (Go.Proofs.Tryd.f37).body.map strip = some (sc_own 22) := by kernel_rfl
theorem ownC : OwnC PP X.U8 37 := own_ok (by kernel_rfl) Go.Proofs.Tryd.func37 b37 (by kernel_rfl) (by kernel_rfl) (by kernel_rfl)
theorem b45 : (Go.Proofs.Tryd.f45).body.map strip = some (sc_octets 52 22) := by kernel_rfl
theorem octC : OctC PP X.U8 45 := octets_ok (by kernel_rfl) (by kernel_rfl) (by kernel_rfl) (zero_sz (by kernel_rfl)) (info_ex (by kernel_rfl)) (by kernel_rfl) (fun _ _ _ => by kernel_rfl) Go.Proofs.Tryd.func45 b45 (by kernel_rfl) (by kernel_rfl) (by kernel_rfl)
theorem b22 : (Go.Proofs.Tryd.f22).body.map strip = some (sc_TellHdr 54 96 73 9 22 37 44 45) := by kernel_rfl
theorem tellC (a : Addr) : TellC PP 1 (GlE a) 22 := tellHdr_ok (x0 := .string ⟨#[]⟩) hm (by kernel_rfl) ⟨_, _, rfl⟩ (by kernel_rfl) (zero_sz (by kernel_rfl)) (zero_hd (by kernel_rfl)) (by kernel_rfl) (by kernel_rfl) (by kernel_rfl) (by kernel_rfl) (by kernel_rfl) (fun _ _ _ _ _ => by kernel_rfl) ownC ok44 (fun w x y Q h => readFromW_ok ok66 Go.Proofs.Tryd.func44 b44 (by kernel_rfl) (by kernel_rfl) w x y Q h) (hdrC a) octC Go.Proofs.Tryd.func22 b22 (by kernel_rfl) (by kernel_rfl) (by kernel_rfl)
theorem b65 : (Go.Proofs.Tryd.f65).body.map strip = some (sc_Turned 2 114 122) := by kernel_rfl
theorem ok65 : FnOK PP 65 := fnOK_of Go.Proofs.Tryd.func65 b65 (by kernel_rfl)
theorem b57 : (Go.Proofs.Tryd.f57).body.map strip = some (sc_Uvarint X.U64 X.U8 X.Bs X.U) := by kernel_rfl
theorem ok57 : FnOK PP 57 := fnOK_of Go.Proofs.Tryd.func57 b57 (by kernel_rfl)
theorem b42 : (Go.Proofs.Tryd.f42).body.map strip = some (sc_SVarint 65 57) := by kernel_rfl
theorem cTu (w : World) (n : Int) (h1 : -1 ≤ n) (h2 : n ≤ 1048576) : Calls PP 65 #[.int .i64 n] w fun e w' => e = .returned (.int .u64 (tz n : Int)) ∧ w' = w := turned_ok (by kernel_rfl) (by kernel_rfl) Go.Proofs.Tryd.func65 b65 (by kernel_rfl) (by kernel_rfl) w n h1 h2
theorem sVarC : SVarC PP X.U8 42 := ⟨fnOK_of Go.Proofs.Tryd.func42 b42 (by kernel_rfl), fun w n h1 h2 => sVarint_ok ok65 cTu ok57 (fun w n h => sUvarint_ok hX Go.Proofs.Tryd.func57 b57 (by kernel_rfl) (by kernel_rfl) w n h) Go.Proofs.Tryd.func42 b42 (by kernel_rfl) (by kernel_rfl) w n h1 h2⟩
theorem b43 : (Go.Proofs.Tryd.f43).body.map strip = some (sc_OctBytes 52 4 22 42) := by kernel_rfl
theorem octBC : OctBC PP X.U8 43 := octBytes_ok hm (by kernel_rfl) (by kernel_rfl) (by kernel_rfl) (by kernel_rfl) (by kernel_rfl) (by kernel_rfl) sVarC Go.Proofs.Tryd.func43 b43 (by kernel_rfl) (by kernel_rfl) (by kernel_rfl)
theorem b21 : (Go.Proofs.Tryd.f21).body.map strip = some (sc_HdrBytes 54 9 22 52 42 43) := by kernel_rfl
theorem hdrBC : HdrBC PP X.U8 21 := hdrBytes_ok hm (by kernel_rfl) (by kernel_rfl) (by kernel_rfl) (by kernel_rfl) (by kernel_rfl) (by kernel_rfl) (by kernel_rfl) sVarC octBC Go.Proofs.Tryd.func21 b21 (by kernel_rfl) (by kernel_rfl) (by kernel_rfl)
theorem b41 : (Go.Proofs.Tryd.f41).body.map strip = some (sc_Fits8 52 22 3) := by kernel_rfl
theorem ok41 : FnOK PP 41 := fnOK_of Go.Proofs.Tryd.func41 b41 (by kernel_rfl)
theorem b20 : (Go.Proofs.Tryd.f20).body.map strip = some (sc_Fits7 54 9 3 52 4 41) := by kernel_rfl
theorem ok20 : FnOK PP 20 := fnOK_of Go.Proofs.Tryd.func20 b20 (by kernel_rfl)
theorem b46 : (Go.Proofs.Tryd.f46).body.map strip = some (sc_SameOct 52 4 22 13) := by kernel_rfl
theorem sameOC : SameOC PP 46 := sameOct_ok (by kernel_rfl) (by kernel_rfl) (by kernel_rfl) (by kernel_rfl) (by kernel_rfl) ok13 cSame Go.Proofs.Tryd.func46 b46 (by kernel_rfl) (by kernel_rfl) (by kernel_rfl)
theorem b23 : (Go.Proofs.Tryd.f23).body.map strip = some (sc_SameHdrs 60 3 54 9 52 4 46) := by kernel_rfl
theorem sameHC : SameHC PP 23 := sameHdrs_ok hm (by kernel_rfl) (by kernel_rfl) (by kernel_rfl) (by kernel_rfl) (by kernel_rfl) (by kernel_rfl) sameOC Go.Proofs.Tryd.func23 b23 (by kernel_rfl) (by kernel_rfl) (by kernel_rfl)
theorem b5 : (Go.Proofs.Tryd.f5).body.map strip = some (sc_LawTellHdr 54 4 9 52 22 3 42 60 20 21 22 23) := by kernel_rfl
theorem hT : HT PP 54 60 := ⟨(by kernel_rfl), (by kernel_rfl), hT_info (by kernel_rfl)⟩
theorem law (a : Addr) (w : World) (key : ByteArray) (nul : Bool) (base : Option Addr) (d : Bytes) (cap at_ : Nat) (hgb : 1 < w.heap.size) (hgl : ∀ w', Below w.heap.size w w' → GlE a w') (hby : BytesAt w (fun k => k < w.heap.size) base d) (hat : at_ < 65536) :
    Calls PP 5 #[.agg #[.string key, .bool nul, .slice base d.length cap], .int .u16 (at_ : Int)] w fun e w' => e = .returned (.bool true) ∧ Below w.heap.size w w' :=
  lawTellHdr_ok (Gl := GlE a) hT (by kernel_rfl) (by kernel_rfl) (by kernel_rfl) (by kernel_rfl) (by kernel_rfl) (by kernel_rfl) (by kernel_rfl) (by kernel_rfl) (by kernel_rfl) (by kernel_rfl) (by kernel_rfl) ok20 (fun w key nul b l c => fits7_ok (by kernel_rfl) (by kernel_rfl) (by kernel_rfl) (by kernel_rfl) (by kernel_rfl) (by kernel_rfl) ok41 (fun w nul b l c => fits8_ok (by kernel_rfl) (by kernel_rfl) (by kernel_rfl) Go.Proofs.Tryd.func41 b41 (by kernel_rfl) (by kernel_rfl) w nul b l c) Go.Proofs.Tryd.func20 b20 (by kernel_rfl) (by kernel_rfl) w key nul b l c) hdrBC (tellC a) sameHC Go.Proofs.Tryd.func5 b5 (by kernel_rfl) (by kernel_rfl) w key nul base d cap at_ hgb hgl hby hat
end Go.Proofs.YtgaplicnofhliaaDoor.K
