/- FnTellSticky: what a member says is read as it was, what ends ahead of the end of its topics is an error: this seat's functions and the law. No condition. -/
import Derived.Test.YtoiipagmhmohdaaDoorChecked
import Derived.Test.YtoiipagmhmohdaaDoorN15
import Derived.KernelRfl
namespace Go.Proofs.YtoiipagmhmohdaaDoor.K
open Go Go.RowKit Go.Proofs Go.Proofs.YtoiipagmhmohdaaDoor.T
set_option linter.unusedVariables false
def X : STy := { I := 3, B := 4, U8 := 5, U32 := 74, U64 := 0, Bs := 27, F := 0, Fs := 0, T := 0, Ts := 0, Tg := 0, Tgs := 0, I64 := 2, M := 0, U := 63 }
noncomputable abbrev PP : Program := Go.Proofs.Tryd.prog
abbrev G0 : List (Nat × Bytes) → Prop := fun _ => True
theorem hX0 : sOK PP X = true := by kernel_rfl
theorem hm : PP.follows .mixedOrders = true := by kernel_rfl
theorem sT : sliceN PP X.Bs = some 1 := by kernel_rfl
theorem iI : intK PP X.I = some .i64 := by kernel_rfl
theorem b17 : (Go.Proofs.Tryd.f17).body.map strip = some (sc_Same X.Bs X.I X.U8) := by kernel_rfl
theorem ok17 : FnOK PP 17 := fnOK_of Go.Proofs.Tryd.func17 b17 (by kernel_rfl)
theorem cSame (w : World) (xs : Bytes) (b1 b2 : Option Addr) (c1 c2 : Nat) (h1 : BytesAt w (fun k => k < w.heap.size) b1 xs) (h2 : BytesAt w (fun k => k < w.heap.size) b2 xs) (h3 : xs.length ≤ lim) : Calls PP 17 #[.slice b1 xs.length c1, .slice b2 xs.length c2] w fun e w' => e = .returned (.bool true) ∧ Below w.heap.size w w' := same_ok hX0 hm Go.Proofs.Tryd.func17 b17 (by kernel_rfl) (by kernel_rfl) w xs b1 b2 c1 c2 h1 h2 h3
def rids : RIds := { tRd := 65, tTags := 0, tI8 := 62, tI16 := 71, tI32 := 21, tBool := 4, rBool := 0, rI8 := 0, rI16 := 26, rI32 := 24, rI64 := 0, rU16 := 0, rUuid := 0, rStr := 23, rUStr := 22, rCStr := 0, rUCStr := 0, rNStr := 0, rUNStr := 0, rCNStr := 0, rUCNStr := 0, rBytes := 0, rCBytes := 0, rNBytes := 0, rArr := 21, rCArr := 0, rOk := 0, rCompl := 25, rTags := 0 }
def R : RTy := { TR := 65, TB := 27, U8 := 5, I := 3, Bo := 4 }
/-- the error that the package returns -/
def errV (a : Addr) : Value := .iface 79 (.pointer (some a))
abbrev GlE (a : Addr) : World → Prop := fun w => w.cell? ⟨1, 0, none⟩ = some (errV a)
theorem rdO : rdOK PP R = true := by kernel_rfl
theorem hBE : aggN PP 76 = some 0 := by kernel_rfl
theorem hBE1 : oneB PP 76 = false := by kernel_rfl
theorem b25 : (Go.Proofs.Tryd.f25).body.map strip = some (sc_RComplete R 44 1) := by kernel_rfl
theorem ok25 : FnOK PP 25 := fnOK_of Go.Proofs.Tryd.func25 b25 (by kernel_rfl)
theorem b30 : (Go.Proofs.Tryd.f30).body.map strip = some (sc_BE16 76 R.TB R.U8 25 63) := by kernel_rfl
theorem be2 : BeC PP 30 2 .u16 := beC2 hm rdO (by kernel_rfl) Go.Proofs.Tryd.func30 b30 (by kernel_rfl) (by kernel_rfl) (by kernel_rfl)
theorem b29 : (Go.Proofs.Tryd.f29).body.map strip = some (sc_BE32 76 R.TB R.U8 74 63) := by kernel_rfl
theorem be4 : BeC PP 29 4 .u32 := beC4 hm rdO (by kernel_rfl) Go.Proofs.Tryd.func29 b29 (by kernel_rfl) (by kernel_rfl) (by kernel_rfl)
theorem b26 : (Go.Proofs.Tryd.f26).body.map strip = some (sc_RNumS R 76 30 0 25 71 2 .i16) := by kernel_rfl
theorem rI16C : RC PP rids.tRd 0 26 (pInt 2) (fun v => ∃ n, v = .int .i16 n) (fun _ _ n v => v = .int .i16 n) := rNumS_ok (ku := .u16) rfl hm rdO hBE hBE1 be2 (by decide) (by kernel_rfl) (by kernel_rfl) (fun n hn => wrap_i16s hn) Go.Proofs.Tryd.func26 b26 (by kernel_rfl) (by kernel_rfl) (by kernel_rfl)
theorem b24 : (Go.Proofs.Tryd.f24).body.map strip = some (sc_RNumS R 76 29 0 74 21 4 .i32) := by kernel_rfl
theorem rI32C : RC PP rids.tRd 0 24 (pInt 4) (fun v => ∃ n, v = .int .i32 n) (fun _ _ n v => v = .int .i32 n) := rNumS_ok (ku := .u32) rfl hm rdO hBE hBE1 be4 (by decide) (by kernel_rfl) (by kernel_rfl) (fun n hn => wrap_i32s hn) Go.Proofs.Tryd.func24 b24 (by kernel_rfl) (by kernel_rfl) (by kernel_rfl)
theorem b28 : (Go.Proofs.Tryd.f28).body.map strip = some (sc_RSpan R) := by kernel_rfl
theorem spC : SpC PP rids.tRd 28 := rSpan_ok rfl rdO Go.Proofs.Tryd.func28 b28 (by kernel_rfl) (by kernel_rfl) (by kernel_rfl)
theorem b23 : (Go.Proofs.Tryd.f23).body.map strip = some (sc_RStr 71 3 27 9 26 28) := by kernel_rfl
theorem rStrC : RC PP rids.tRd 0 23 (pPrim false false .str) (tyP false .str) (okP false .str) := rStr_ok rfl rdO (by kernel_rfl) (by kernel_rfl) (by kernel_rfl) rI16C spC Go.Proofs.Tryd.func23 b23 (by kernel_rfl) (by kernel_rfl) (by kernel_rfl)
theorem b21 : (Go.Proofs.Tryd.f21).body.map strip = some (sc_RArr R 21 24) := by kernel_rfl
theorem rArrC : RC PP rids.tRd 0 21 (pLen false) (fun v => ∃ n, v = .int .i32 n) (fun _ _ n v => v = .int .i32 n) := rArr_ok rfl rdO (by kernel_rfl) rI32C Go.Proofs.Tryd.func21 b21 (by kernel_rfl) (by kernel_rfl) (by kernel_rfl)
theorem kr (a : Addr) : KR PP rids rids.tRd 0 (errV a) (GlE a) where
  num := fun k h1 h2 => by
    cases k
    · exact absurd rfl h2
    · exact absurd rfl h2
    · exact num_i16 rI16C
    · exact num_i32 rI32C
    · exact absurd rfl h2
    · exact absurd rfl h2
    all_goals exact absurd h1 (by decide)
  uuid := fun h => absurd rfl h
  str := fun _ => rStrC
  cstr := fun h => absurd rfl h
  nstr := fun h => absurd rfl h
  cnstr := fun h => absurd rfl h
  bytes := fun h => absurd rfl h
  cbytes := fun h => absurd rfl h
  nbytes := fun h => absurd rfl h
  arr := fun _ => rArrC
  carr := fun h => absurd rfl h
  tags := fun h => absurd rfl h
  okF := fun h => absurd rfl h
  ok := fun h => absurd rfl h
  complF := ok25
  compl := fun w S rb st hg h => rComplete_ok rdO (by kernel_rfl) (.inr trivial) Go.Proofs.Tryd.func25 b25 (by kernel_rfl) (by kernel_rfl) w S rb st hg h
theorem rowO : RowT PP 22 38 := ⟨(by kernel_rfl), (by kernel_rfl), (by kernel_rfl), (by kernel_rfl), zero_sz (by kernel_rfl), (by kernel_rfl), (by kernel_rfl)⟩
theorem rowK : RowT PP 40 48 := ⟨(by kernel_rfl), (by kernel_rfl), (by kernel_rfl), (by kernel_rfl), zero_sz (by kernel_rfl), (by kernel_rfl), (by kernel_rfl)⟩
theorem b18 : (Go.Proofs.Tryd.f18).body.map strip = some (sc_Fits16 38 9 3 36) := by kernel_rfl
theorem ok18 : FnOK PP 18 := fnOK_of Go.Proofs.Tryd.func18 b18 (by kernel_rfl)
theorem c16 : Fits16C PP 18 := ⟨ok18, fun w x b l c => fits16_ok rowO (by kernel_rfl) (by kernel_rfl) (by kernel_rfl) (by kernel_rfl) Go.Proofs.Tryd.func18 b18 (by kernel_rfl) (by kernel_rfl) w x b l c⟩
theorem b10 : (Go.Proofs.Tryd.f10).body.map strip = some (sc_Fits15 22 3 38 4 18) := by kernel_rfl
theorem c15 : Fits15C PP 10 := fits15_ok rowO c16 Go.Proofs.Tryd.func10 b10 (by kernel_rfl) (by kernel_rfl) (by kernel_rfl)
theorem b4 : (Go.Proofs.Tryd.f4).body.map strip = some (sc_Fits14 24 22 4 10) := by kernel_rfl
theorem c14 : Fits14C PP 4 := fits14_ok (by kernel_rfl) (by kernel_rfl) c15 Go.Proofs.Tryd.func4 b4 (by kernel_rfl) (by kernel_rfl) (by kernel_rfl)
theorem b5 : (Go.Proofs.Tryd.f5).body.map strip = some (sc_small 24 22 3 38 9 36) := by kernel_rfl
theorem cSm : SmallLC PP 5 := small_ok rowO (by kernel_rfl) (by kernel_rfl) (by kernel_rfl) (by kernel_rfl) (by kernel_rfl) (by kernel_rfl) Go.Proofs.Tryd.func5 b5 (by kernel_rfl) (by kernel_rfl) (by kernel_rfl)
theorem b11 : (Go.Proofs.Tryd.f11).body.map strip = some (sc_Fixed 3 2 5 27) := by kernel_rfl
theorem ok11 : FnOK PP 11 := fnOK_of Go.Proofs.Tryd.func11 b11 (by kernel_rfl)
theorem fixC : FixC PP 5 11 := ⟨ok11, fun w n k h => sFix2_ok (by kernel_rfl) (by kernel_rfl) (by kernel_rfl) (by kernel_rfl) (by kernel_rfl) (by kernel_rfl) (by kernel_rfl) (by kernel_rfl) (by kernel_rfl) Go.Proofs.Tryd.func11 b11 (by kernel_rfl) (by kernel_rfl) w n k h⟩
theorem b6 : (Go.Proofs.Tryd.f6).body.map strip = some (sc_StBytes 24 22 3 38 9 27 36 21 2 11) := by kernel_rfl
theorem stBC : StBC PP 5 6 := stBytes_ok hm rowO (by kernel_rfl) (by kernel_rfl) (by kernel_rfl) (by kernel_rfl) (by kernel_rfl) (by kernel_rfl) (by decide) (by decide) (by kernel_rfl) (by kernel_rfl) (by kernel_rfl) (by kernel_rfl) (by kernel_rfl) fixC Go.Proofs.Tryd.func6 b6 (by kernel_rfl) (by kernel_rfl) (by kernel_rfl)
theorem sameC : SameC PP 17 := ⟨ok17, cSame⟩
theorem b9 : (Go.Proofs.Tryd.f9).body.map strip = some (sc_SameSt 24 21 6 17) := by kernel_rfl
theorem sameStC : SameStC PP 9 := sameSt_ok hm (by kernel_rfl) (by kernel_rfl) (by kernel_rfl) (by kernel_rfl) stBC sameC Go.Proofs.Tryd.func9 b9 (by kernel_rfl) (by kernel_rfl) (by kernel_rfl)
theorem i32Z : RCZ PP 65 0 .i32 24 (pInt 4) := rNumZ_ok (R := R) (ku := .u32) rfl hm rdO hBE hBE1 be4 (by decide) (by kernel_rfl) (by kernel_rfl) (fun n hn => wrap_i32s hn) Go.Proofs.Tryd.func24 b24 (by kernel_rfl) (by kernel_rfl) (by kernel_rfl)
theorem arrZ : RCZ PP 65 0 .i32 21 (pLen false) := rArrZ_ok (R := R) rfl rdO (by kernel_rfl) i32Z Go.Proofs.Tryd.func21 b21 (by kernel_rfl) (by kernel_rfl) (by kernel_rfl)
theorem strZ : RStrC PP 65 0 23 := rStrC_of rStrC
theorem b19 : (Go.Proofs.Tryd.f19).body.map strip = some (sc_StRead 65 21 42 40 3 48 9 36 27 21 22 23 24 25) := by kernel_rfl
theorem ok19 : FnOK PP 19 := fnOK_of Go.Proofs.Tryd.func19 b19 (by kernel_rfl)
theorem stTy : StTy PP 65 21 42 40 3 48 9 36 := ⟨rowK, (by kernel_rfl), (by kernel_rfl), (by kernel_rfl), (by kernel_rfl), (by kernel_rfl), (by kernel_rfl), (by kernel_rfl), (by kernel_rfl), (by kernel_rfl), (by kernel_rfl), z5_of (by kernel_rfl), z1_of (by kernel_rfl)⟩
theorem stRC (a : Addr) : StRC PP 42 0 (errV a) (GlE a) 19 := stRead_ok hm (by kernel_rfl) (by kernel_rfl) (by kernel_rfl) (by kernel_rfl) stTy arrZ strZ i32Z (kr a).complF (kr a).compl Go.Proofs.Tryd.func19 b19 (by kernel_rfl) (by kernel_rfl)
theorem b12 : (Go.Proofs.Tryd.f12).body.map strip = some (sc_ReadFromW 19) := by kernel_rfl
theorem ok12 : FnOK PP 12 := fnOK_of Go.Proofs.Tryd.func12 b12 (by kernel_rfl)
theorem b13 : (Go.Proofs.Tryd.f13).body.map strip = some (sc_own 27) := by kernel_rfl
theorem ownC : OwnC PP 5 13 := own_ok (by kernel_rfl) Go.Proofs.Tryd.func13 b13 (by kernel_rfl) (by kernel_rfl) (by kernel_rfl)
theorem e9 : ElT PP 36 21 1 := elT_of (by kernel_rfl) (by kernel_rfl) (by decide)
theorem e7 : ElT PP 22 38 2 := elT_of (by kernel_rfl) (by kernel_rfl) (by decide)
theorem b7 : (Go.Proofs.Tryd.f7).body.map strip = some (sc_TellSt 24 42 44 21 40 3 48 22 9 36 38 13 12) := by kernel_rfl
theorem tellC (a : Addr) : TellStC PP 0 (GlE a) 7 := tellSt_ok hm (by kernel_rfl) ⟨_, _, rfl⟩ (by kernel_rfl) (by kernel_rfl) (by kernel_rfl) (zero_sz (by kernel_rfl)) (zero_st (by kernel_rfl)) (by kernel_rfl) (by kernel_rfl) (by kernel_rfl) (by kernel_rfl) (by kernel_rfl) rowK (by kernel_rfl) (by kernel_rfl) (by kernel_rfl) e9 e7 (by kernel_rfl) (fun _ => by kernel_rfl) (fun _ _ _ _ => by kernel_rfl) ownC ok12 (fun w x y Q h => readFromW_ok ok19 Go.Proofs.Tryd.func12 b12 (by kernel_rfl) (by kernel_rfl) w x y Q h) (stRC a) Go.Proofs.Tryd.func7 b7 (by kernel_rfl) (by kernel_rfl) (by kernel_rfl)
theorem rT : RTy2 PP 51 3 27 5 := ⟨(by kernel_rfl), (by kernel_rfl), (by kernel_rfl), (by kernel_rfl), (by kernel_rfl), (by kernel_rfl), (by kernel_rfl), (by kernel_rfl)⟩
theorem b20 : (Go.Proofs.Tryd.f20).body.map strip = some (sc_rtake 51 3 27 15) := by kernel_rfl
theorem takeC : TakeC PP 51 20 := rtake_ok hm rT Go.Proofs.Tryd.func20 b20 (by kernel_rfl) (by kernel_rfl) (by kernel_rfl)
theorem b14 : (Go.Proofs.Tryd.f14).body.map strip = some (sc_rfixed 27 3 5 62 2 63 20) := by kernel_rfl
theorem rfixC : RFixC PP 51 14 := rfixed_ok rT (by kernel_rfl) (by kernel_rfl) takeC Go.Proofs.Tryd.func14 b14 (by kernel_rfl) (by kernel_rfl) (by kernel_rfl)
theorem b16 : (Go.Proofs.Tryd.f16).body.map strip = some (sc_roct 55 2 51 3 27 15 20) := by kernel_rfl
theorem roctC : ROctC PP 51 16 := roct_ok rT (by kernel_rfl) (by kernel_rfl) (zero_sz (by kernel_rfl)) (fun _ _ _ => by kernel_rfl) takeC Go.Proofs.Tryd.func16 b16 (by kernel_rfl) (by kernel_rfl) (by kernel_rfl)
theorem b8 : (Go.Proofs.Tryd.f8).body.map strip = some (sc_ReadSt 24 51 2 3 55 27 9 38 36 21 22 14 15 16) := by kernel_rfl
theorem readC : ReadStC PP 8 := readSt_ok hm rT rowO (by kernel_rfl) (by kernel_rfl) (by kernel_rfl) (by kernel_rfl) e9 e7 (by kernel_rfl) (by kernel_rfl) (by kernel_rfl) (by kernel_rfl) (by kernel_rfl) (fun _ => by kernel_rfl) (by kernel_rfl) (by kernel_rfl) (by kernel_rfl) (zero_st (by kernel_rfl)) (fun _ _ _ => by kernel_rfl) rfixC roctC Go.Proofs.Tryd.func8 b8 (by kernel_rfl) (by kernel_rfl) (by kernel_rfl)
theorem b3 : (Go.Proofs.Tryd.f3).body.map strip = some (sc_LawSt 24 4 21 27 25 3 4 5 6 7 8 9) := by kernel_rfl
theorem law (a : Addr) (w : World) (l : List Ownd) (g : Int) (v : Value) (at' : Nat) (hrg : RngL l g) (hv : StV w (· < w.heap.size) l g v) (hgb : 0 < w.heap.size) (hgl : ∀ w', Below w.heap.size w w' → GlE a w') (hat : at' < 65536) :
    Calls PP 3 #[v, .int .u16 (at' : Int)] w fun e w' => e = .returned (.bool true) ∧ Below w.heap.size w w' :=
  lawSt_ok (Gl := GlE a) (by kernel_rfl) (by kernel_rfl) (by kernel_rfl) (zero_sz (by kernel_rfl)) (by kernel_rfl) (by kernel_rfl) (by kernel_rfl) (by kernel_rfl) (by kernel_rfl) c14 cSm stBC (tellC a) readC sameStC Go.Proofs.Tryd.func3 b3 (by kernel_rfl) (by kernel_rfl) w l g v at' hrg hv hgb hgl hat
end Go.Proofs.YtoiipagmhmohdaaDoor.K
